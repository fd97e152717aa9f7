import JvmDerived
import JvmDerived.Pilot.@@N@@Statement
import JvmDerived.Pilot.@@N@@Code
set_option linter.unusedVariables false
set_option linter.unusedSimpArgs false
namespace Jvm.RoadKit
open Sem ClassFile Op Lib Jvm.Stand Jvm.Free Jvm.LawKit
section New
variable {p : Program} {l : Launch} {e : Env} {R : Room} {s : State} {m : MethodId} {args : Array Value} {below : List Frame} {meth : Method} {c : Code} {T : State} {locs : List Loc} {cells slots : Nat}
theorem retI (X : Stand p l e R s m args below meth c T locs cells slots) (hx : p.tables.exec = Jvm.exec) {pc : Nat} {Ls : Array Slot} {z : Int32} {rest : List Value} (hret : meth.sig.returnType = some .int) (hd : decode c.code pc = .ok (.ireturn, 1)) {fs : List Frame}
    (hl : ∀ (f : JFrame) (acts : List Action), f.method = m → f.locked = none → f.entered = [] → (doReturn e (T.setTop f) acts (some (.int z))).1 = T.setFrames fs) : Steps p.tables e below (T.setTop (mkF m pc Ls (.int z :: rest))) (T.setFrames fs) := by
  have hm' : T.vm.method? m = some meth := X.method'
  have hn : narrow .int (.int z) = .int z := rfl
  show Steps p.tables e below (T.setTop { method := m, pc := pc, locals := Ls, stack := _ :: rest, locked := none }) _
  jvm_step X.here [X.here.top, hx, hd, hm', hret, hn]
  first | (intro acts; rw [hl _ acts rfl rfl rfl]) | rw [hl _ _ rfl rfl rfl]
  exact Steps.refl _
end New
end Jvm.RoadKit
namespace Jvm.RoadKit
open Sem ClassFile Op Lib Jvm.Stand Jvm.Free Jvm.LawKit
section Put
variable {p : Program} {l : Launch} {e : Env} {R : Room} {s : State} {m : MethodId} {args : Array Value} {below : List Frame} {meth : Method} {c : Code} {T : State} {locs : List Loc} {cells slots : Nat}
theorem own_put (X : Stand p l e R s m args below meth c T locs cells slots) (hx : p.tables.exec = Jvm.exec) {Z : State} {h : Heap} (hZ : Z.Warmed39 s.vm) {a0 : Array Value} {own C n d : String} {index : Nat} (hown : s.vm.findClass own = some m.cls) (w : (Cond.fieldLink own index C n d).before a0 Z = true)
    (eT : T.heap = h) {y b : Addr} {k : ClassId} {K : String} {N : Int32} {vs : List Value} (S : Sta Z h C n d (.ref y)) (E : Exa Z h y K) (V : Arv Z h b k (.object K) N vs .null) (O : Ovr Z k K) {pc pc1 : Nat} {Ls : Array Slot} (j : Int32) (i : Nat) (hj : j.toNatClampNeg = i) (hj0 : ¬ j < 0) (hi : i < vs.length) (hN : i < N.toNatClampNeg) (vs' : List Value) (hvs : vs.set i (.ref y) = vs')
    (hd0 : decode c.code pc = .ok (.dup, 1)) (hpush : ∀ target, Steps p.tables e below (T.setTop (mkF m pc1 Ls [.int j, .ref b, .ref b])) target → Steps p.tables e below (T.setTop (mkF m (pc + 1) Ls [.ref b, .ref b])) target) (hd2 : decode c.code pc1 = .ok (.getstatic index, 3)) (hd3 : decode c.code (pc1 + 3) = .ok (.aastore, 1)) :
    ∃ T' h', Stand p l e R s m args below meth c T' (locs ++ [⟨b, i⟩]) cells slots ∧ T'.heap = h' ∧ Wr h h' b i (.ref y) ∧ Arv Z h' b k (.object K) N vs' .null ∧ ∀ target, Steps p.tables e below (T'.setTop (mkF m (pc1 + 4) Ls [.ref b])) target → Steps p.tables e below (T.setTop (mkF m pc Ls [.ref b])) target := by
  obtain ⟨cl, A, q1, Sz, q3, H, G⟩ := V
  have hin : ¬ (j < 0 ∨ cl.slots.size ≤ j.toNatClampNeg) := by
    rw [Sz, hj]; rintro (q | q)
    · exact hj0 q
    · omega
  obtain ⟨T1, X1, e1, st1⟩ := getS2 X hx hZ hown (host := "") (Or.inl w) Via.refl eT S (g := mkF m pc1 Ls [.int j, .ref b, .ref b]) rfl hd2
  obtain ⟨T2, h2, X2, e2, W2, st2⟩ := stR X1 hx hZ e1 A (j := j) hin rfl (Sto.ofV A q1 O (Ins.self E)) (g := mkF m (pc1 + 3) Ls [.ref y, .int j, .ref b, .ref b]) rfl rfl hd3
  refine ⟨T2, h2, by rw [← hj]; exact X2, e2, by rw [← hj]; exact W2, by rw [← hvs]; exact Arv.set A q1 Sz q3 H G rfl W2 i hj hi, fun target ht => ?_⟩
  refine XS.dup X.here hx rfl hd0 rfl rfl ?_
  refine hpush _ ?_
  refine st1 _ ?_
  show Steps p.tables e below (T1.setTop (mkF m (pc1 + 3) Ls [.ref y, .int j, .ref b, .ref b])) _
  refine st2 _ ?_
  exact ht
theorem own_staK {Z : State} {h h' : Heap} {C n d : String} {v : Value} (F : Sta Z h C n d v) (K : Keep h h' []) : Sta Z h' C n d v := by
  obtain ⟨cf, i, k, f, st, cell, h1, h2, h3, h4, h5, r⟩ := F
  exact ⟨cf, i, k, f, st, cell, h1, h2, h3, h4, K.2.1 _ _ h5 nin0, r⟩
end Put
end Jvm.RoadKit
namespace Jvm.Pilot.@@N@@
open Jvm Jvm.ClassFile Sem Op Lib Jvm.Free Jvm.Stand Jvm.LawKit Jvm.RoadKit Bundle Jvm.Pilot.@@N@@.Jvm.D
def QR (r : Option Value) (h0 : Heap) (n0 : Nat) (v : Option Value) (h : Heap) (L : List Loc) : Prop := v = r ∧ Fr n0 L ∧ h = h0
def QL (n0 : Nat) (v : Option Value) (h : Heap) (L : List Loc) : Prop := v = some (.int (1 : Int32)) ∧ Fr n0 L
theorem own_sta {s : State} {args : Array Value} {C n d K : String} (h : (Jvm.Cond.exactly (.static C n d) K).value args s none s [] = some true) (hi : (Jvm.Cond.initialized C).before args s = true) (hl : (Jvm.Cond.laysStatic C n d).before args s = true) :
    ∃ a, (Term.static C n d).eval args s none [] s = some (.ref a) ∧ Sta s s.heap C n d (.ref a) ∧ Exa s s.heap a K := by
  obtain ⟨a, ev⟩ := exa_v h
  exact ⟨a, ev, Sta.start ev (Or.inr ⟨hi, hl⟩), Exa.start ev h⟩
theorem own_fld {s : State} {args : Array Value} {t : Term} {a : Addr} {C n d : String} {k : Int32} (ev : t.eval args s none [] s = some (.ref a)) (h : (Jvm.Cond.eq (.field t C n d) (.int k)).value args s none s [] = some true) : Fld s s.heap a C n d (.int k) := by
  have e := eqv_i (F := .int k) rfl h
  rw [fld_at ev] at e
  exact Fld.start e
theorem own_ne {Z : State} {h : Heap} {a b : Addr} {C n d : String} {j k : Int32} (F : Fld Z h a C n d (.int j)) (G : Fld Z h b C n d (.int k)) (q : j ≠ k) : ¬ (a = b) := F.ne G fun e => q (Value.int.inj e)
theorem own_mask31 (x : Int32) : 0 ≤ (x &&& (2147483647 : Int32)).toInt := by
  have e : (x &&& (2147483647 : Int32)).toInt = x.toInt % (2 ^ 31 : Nat) := c_mask x _ 31 (by decide) (by decide)
  omega
theorem own_rem (x n : Int32) (hn : 0 < n.toInt) : 0 ≤ ((x &&& (2147483647 : Int32)) % n).toInt ∧ ((x &&& (2147483647 : Int32)) % n).toInt < n.toInt := by
  have h := (c_iremV (x &&& (2147483647 : Int32)) n).1 (own_mask31 x) hn
  exact ⟨h.1, h.2.1⟩
theorem own_mask3 (x : Int32) : 0 ≤ (x &&& (7 : Int32)).toInt ∧ (x &&& (7 : Int32)).toInt < 8 := by
  have e : (x &&& (7 : Int32)).toInt = x.toInt % (2 ^ 3 : Nat) := c_mask x _ 3 (by decide) (by decide)
  omega
theorem own_cases (K : Int32) (h : 0 ≤ K.toInt ∧ K.toInt < 8) : K = (0 : Int32) ∨ K = (1 : Int32) ∨ K = (2 : Int32) ∨ K = (3 : Int32) ∨ K = (4 : Int32) ∨ K = (5 : Int32) ∨ K = (6 : Int32) ∨ K = (7 : Int32) := by
  have q : K.toInt = 0 ∨ K.toInt = 1 ∨ K.toInt = 2 ∨ K.toInt = 3 ∨ K.toInt = 4 ∨ K.toInt = 5 ∨ K.toInt = 6 ∨ K.toInt = 7 := by omega
  rcases q with q | q | q | q | q | q | q | q
  · exact Or.inl (Int32.toInt_inj.mp (q.trans rfl))
  · exact Or.inr (Or.inl (Int32.toInt_inj.mp (q.trans rfl)))
  · exact Or.inr (Or.inr (Or.inl (Int32.toInt_inj.mp (q.trans rfl))))
  · exact Or.inr (Or.inr (Or.inr (Or.inl (Int32.toInt_inj.mp (q.trans rfl)))))
  · exact Or.inr (Or.inr (Or.inr (Or.inr (Or.inl (Int32.toInt_inj.mp (q.trans rfl))))))
  · exact Or.inr (Or.inr (Or.inr (Or.inr (Or.inr (Or.inl (Int32.toInt_inj.mp (q.trans rfl)))))))
  · exact Or.inr (Or.inr (Or.inr (Or.inr (Or.inr (Or.inr (Or.inl (Int32.toInt_inj.mp (q.trans rfl))))))))
  · exact Or.inr (Or.inr (Or.inr (Or.inr (Or.inr (Or.inr (Or.inr ((Int32.toInt_inj.mp (q.trans rfl)))))))))
theorem d1_0 : decode prog_14_method_6_code 0 = .ok (.aload_n 0, 1) := by decide +kernel
theorem d1_1 : decode prog_14_method_6_code 1 = .ok (.getstatic 16, 3) := by decide +kernel
theorem d1_4 : decode prog_14_method_6_code 4 = .ok (.if_acmp .eq 10, 3) := by decide +kernel
theorem d1_14 : decode prog_14_method_6_code 14 = .ok (.iconst 1, 1) := by decide +kernel
theorem d1_15 : decode prog_14_method_6_code 15 = .ok (.goto 4, 3) := by decide +kernel
theorem d1_19 : decode prog_14_method_6_code 19 = .ok (.ireturn, 1) := by decide +kernel
theorem pn_1 : plainName "com/example/ouessant/ouessant/model/AgentStatus" = true := by first | (simp [plainName, overriddenIn]; done) | decide +kernel
theorem ef_1 (m : MethodId) (x0 : Addr) : entryFrame m #[(.ref x0)] 1 = mkF m 0 #[.val (.ref x0)] [] := by first | (simp [entryFrame, mkF, argsToLocals, Value.category]; done) | rfl
set_option maxRecDepth 65536 in
set_option maxHeartbeats 40000000 in
theorem rm1t (l : Launch) (Z : State) (a0 : Array Value) (hw : ∀ d ∈ tables_1, d.before a0 Z = true) (ws : List Jvm.Cond) (a1 : Addr) (w2 : Addr) (h0 : Heap) (n0 : Nat) (Z0 : n0 ≤ h0.size) (S_UNRESPONSIVE : Sta Z h0 "com/example/ouessant/ouessant/model/AgentStatus" "UNRESPONSIVE" "Lcom/example/ouessant/ouessant/model/AgentStatus;" (.ref w2)) (ha4 : a1 = w2) :
    MetFree l (⟨"com/example/ouessant/ouessant/model/AgentStatus", "isMarked", "()Z"⟩ : MethodName) (head1 (Jvm.Cond.code (⟨"com/example/ouessant/ouessant/model/AgentStatus", "isMarked", "()Z"⟩ : MethodName) prog_14_method_6_code 1 (some .boolean) :: ws) ({ frames := 0, cells := 0, slots := 0, locals := 0 } : Room)) (fun a U => a = #[(.ref a1)] ∧ Z.Warmed39 U.vm ∧ U.heap = h0) (fun _ _ _ _ _ => True) (fun _ U o U' => ∃ v L, o = .returned v ∧ QR (some (.int (1 : Int32))) h0 n0 v U'.heap L ∧ FrameEnd U o U' L ({ frames := 0, cells := 0, slots := 0, locals := 0 } : Room).cells ({ frames := 0, cells := 0, slots := 0, locals := 0 } : Room).slots) := by
  refine MetFree.of_bodySF (plainFor_of_name pn_1) hisR ?_
  intro p e s m args below meth c s₁ Bd hml0 hP hK
  obtain ⟨rfl, hZ, hh⟩ := hP
  have hx := Bd.exec
  have hby := Bd.bytes
  have hml : c.maxLocals = 1 := hml0
  have hown : s.vm.findClass "com/example/ouessant/ouessant/model/AgentStatus" = some m.cls := findClass_of_methodNamed Bd.named
  have hnm := (name_of_methodNamed Bd.named Bd.method).1
  have X0 : Stand p l e ({ frames := 0, cells := 0, slots := 0, locals := 0 } : Room) s m #[(.ref a1)] below meth c s₁ [] 0 0 := Stand.of_body Bd
  have e0 : s₁.heap = h0 := by rw [← hh, Bd.state]; rfl
  have N0 := Fr.nil n0
  have pre0 : ∀ t, Steps p.tables e below (s₁.setTop (mkF m 0 #[.val (.ref a1)] [])) t → Steps p.tables e below (s₁.setTop (entryFrame m #[(.ref a1)] 1)) t := fun t k => castTop (ef_1 m a1) k
  obtain ⟨T3, X3, e3, st3⟩ := getS2 X0 hx hZ hown (host := "") (Or.inl (hw _ (List.mem_of_getElem? (i := 26) rfl))) Via.refl e0 S_UNRESPONSIVE (g := (mkF m 1 #[.val (.ref a1)] [(.ref a1)])) rfl (hb hby d1_1)
  obtain ⟨fs, hr, hrun, hended, hW, hsame⟩ := X3.leave (v := some (.int (1 : Int32))) (fun h => by rw [Bd.returns] at h; cases h)
  refine ⟨_, _, pre0 _ ?_, hrun, hended, _, _, rfl, ?_, ⟨_, rfl⟩, hW, hsame.mono (by decide) (by decide)⟩
  · show Steps p.tables e below (s₁.setTop (mkF m 0 #[.val (.ref a1)] [])) _
    refine XS.aloadN X0.here hx rfl (hb hby d1_0) rfl rfl ?_
    show Steps p.tables e below (s₁.setTop (mkF m 1 #[.val (.ref a1)] [(.ref a1)])) _
    refine st3 _ ?_
    show Steps p.tables e below (T3.setTop (mkF m 4 #[.val (.ref a1)] [(.ref w2), (.ref a1)])) _
    refine Jvm.RoadKit.acmp (g := (mkF m 4 #[.val (.ref a1)] [(.ref w2), (.ref a1)])) X3 hx rfl rfl rfl (pc0 := 4) (pc' := 14) (same := true) rfl (hb hby d1_4) rfl (decide_eq_true (congrArg Value.ref ha4)) (by decide) (by decide) ?_
    show Steps p.tables e below (T3.setTop (mkF m 14 #[.val (.ref a1)] [])) _
    refine XS.iconst X3.here hx rfl (hb hby d1_14) ?_
    show Steps p.tables e below (T3.setTop (mkF m 15 #[.val (.ref a1)] [(.int (1 : Int32))])) _
    refine XS.goto X3.here hx rfl (pc0 := 15) (pc' := 19) rfl (hb hby d1_15) (by decide) (by decide) ?_
    show Steps p.tables e below (T3.setTop (mkF m 19 #[.val (.ref a1)] [(.int (1 : Int32))])) _
    exact retN X3 hx (t := .boolean) Bd.returns (by simp) (hb hby d1_19) hr
  · show QR (some (.int (1 : Int32))) h0 n0 _ T3.heap _
    rw [e3]
    exact ⟨rfl, N0, rfl⟩
theorem d1_7 : decode prog_14_method_6_code 7 = .ok (.aload_n 0, 1) := by decide +kernel
theorem d1_8 : decode prog_14_method_6_code 8 = .ok (.getstatic 19, 3) := by decide +kernel
theorem d1_11 : decode prog_14_method_6_code 11 = .ok (.if_acmp .ne 7, 3) := by decide +kernel
set_option maxRecDepth 65536 in
set_option maxHeartbeats 40000000 in
theorem rm1ff (l : Launch) (Z : State) (a0 : Array Value) (hw : ∀ d ∈ tables_1, d.before a0 Z = true) (ws : List Jvm.Cond) (a1 : Addr) (w2 : Addr) (w4 : Addr) (h0 : Heap) (n0 : Nat) (Z0 : n0 ≤ h0.size) (S_UNRESPONSIVE : Sta Z h0 "com/example/ouessant/ouessant/model/AgentStatus" "UNRESPONSIVE" "Lcom/example/ouessant/ouessant/model/AgentStatus;" (.ref w2)) (S_FAILED : Sta Z h0 "com/example/ouessant/ouessant/model/AgentStatus" "FAILED" "Lcom/example/ouessant/ouessant/model/AgentStatus;" (.ref w4)) (ha4 : ¬ (a1 = w2)) (ha11 : a1 = w4) :
    MetFree l (⟨"com/example/ouessant/ouessant/model/AgentStatus", "isMarked", "()Z"⟩ : MethodName) (head1 (Jvm.Cond.code (⟨"com/example/ouessant/ouessant/model/AgentStatus", "isMarked", "()Z"⟩ : MethodName) prog_14_method_6_code 1 (some .boolean) :: ws) ({ frames := 0, cells := 0, slots := 0, locals := 0 } : Room)) (fun a U => a = #[(.ref a1)] ∧ Z.Warmed39 U.vm ∧ U.heap = h0) (fun _ _ _ _ _ => True) (fun _ U o U' => ∃ v L, o = .returned v ∧ QR (some (.int (1 : Int32))) h0 n0 v U'.heap L ∧ FrameEnd U o U' L ({ frames := 0, cells := 0, slots := 0, locals := 0 } : Room).cells ({ frames := 0, cells := 0, slots := 0, locals := 0 } : Room).slots) := by
  refine MetFree.of_bodySF (plainFor_of_name pn_1) hisR ?_
  intro p e s m args below meth c s₁ Bd hml0 hP hK
  obtain ⟨rfl, hZ, hh⟩ := hP
  have hx := Bd.exec
  have hby := Bd.bytes
  have hml : c.maxLocals = 1 := hml0
  have hown : s.vm.findClass "com/example/ouessant/ouessant/model/AgentStatus" = some m.cls := findClass_of_methodNamed Bd.named
  have hnm := (name_of_methodNamed Bd.named Bd.method).1
  have X0 : Stand p l e ({ frames := 0, cells := 0, slots := 0, locals := 0 } : Room) s m #[(.ref a1)] below meth c s₁ [] 0 0 := Stand.of_body Bd
  have e0 : s₁.heap = h0 := by rw [← hh, Bd.state]; rfl
  have N0 := Fr.nil n0
  have pre0 : ∀ t, Steps p.tables e below (s₁.setTop (mkF m 0 #[.val (.ref a1)] [])) t → Steps p.tables e below (s₁.setTop (entryFrame m #[(.ref a1)] 1)) t := fun t k => castTop (ef_1 m a1) k
  obtain ⟨T3, X3, e3, st3⟩ := getS2 X0 hx hZ hown (host := "") (Or.inl (hw _ (List.mem_of_getElem? (i := 26) rfl))) Via.refl e0 S_UNRESPONSIVE (g := (mkF m 1 #[.val (.ref a1)] [(.ref a1)])) rfl (hb hby d1_1)
  obtain ⟨T5, X5, e5, st5⟩ := getS2 X3 hx hZ hown (host := "") (Or.inl (hw _ (List.mem_of_getElem? (i := 27) rfl))) Via.refl e3 S_FAILED (g := (mkF m 8 #[.val (.ref a1)] [(.ref a1)])) rfl (hb hby d1_8)
  obtain ⟨fs, hr, hrun, hended, hW, hsame⟩ := X5.leave (v := some (.int (1 : Int32))) (fun h => by rw [Bd.returns] at h; cases h)
  refine ⟨_, _, pre0 _ ?_, hrun, hended, _, _, rfl, ?_, ⟨_, rfl⟩, hW, hsame.mono (by decide) (by decide)⟩
  · show Steps p.tables e below (s₁.setTop (mkF m 0 #[.val (.ref a1)] [])) _
    refine XS.aloadN X0.here hx rfl (hb hby d1_0) rfl rfl ?_
    show Steps p.tables e below (s₁.setTop (mkF m 1 #[.val (.ref a1)] [(.ref a1)])) _
    refine st3 _ ?_
    show Steps p.tables e below (T3.setTop (mkF m 4 #[.val (.ref a1)] [(.ref w2), (.ref a1)])) _
    refine Jvm.RoadKit.acmp (g := (mkF m 4 #[.val (.ref a1)] [(.ref w2), (.ref a1)])) X3 hx rfl rfl rfl (pc0 := 4) (pc' := 7) (same := false) rfl (hb hby d1_4) rfl (decide_eq_false fun q => ha4 (Value.ref.inj q)) (by decide) (by decide) ?_
    show Steps p.tables e below (T3.setTop (mkF m 7 #[.val (.ref a1)] [])) _
    refine XS.aloadN X3.here hx rfl (hb hby d1_7) rfl rfl ?_
    show Steps p.tables e below (T3.setTop (mkF m 8 #[.val (.ref a1)] [(.ref a1)])) _
    refine st5 _ ?_
    show Steps p.tables e below (T5.setTop (mkF m 11 #[.val (.ref a1)] [(.ref w4), (.ref a1)])) _
    refine Jvm.RoadKit.acmp (g := (mkF m 11 #[.val (.ref a1)] [(.ref w4), (.ref a1)])) X5 hx rfl rfl rfl (pc0 := 11) (pc' := 14) (same := true) rfl (hb hby d1_11) rfl (decide_eq_true (congrArg Value.ref ha11)) (by decide) (by decide) ?_
    show Steps p.tables e below (T5.setTop (mkF m 14 #[.val (.ref a1)] [])) _
    refine XS.iconst X5.here hx rfl (hb hby d1_14) ?_
    show Steps p.tables e below (T5.setTop (mkF m 15 #[.val (.ref a1)] [(.int (1 : Int32))])) _
    refine XS.goto X5.here hx rfl (pc0 := 15) (pc' := 19) rfl (hb hby d1_15) (by decide) (by decide) ?_
    show Steps p.tables e below (T5.setTop (mkF m 19 #[.val (.ref a1)] [(.int (1 : Int32))])) _
    exact retN X5 hx (t := .boolean) Bd.returns (by simp) (hb hby d1_19) hr
  · show QR (some (.int (1 : Int32))) h0 n0 _ T5.heap _
    rw [e5]
    exact ⟨rfl, N0, rfl⟩
theorem d1_18 : decode prog_14_method_6_code 18 = .ok (.iconst 0, 1) := by decide +kernel
set_option maxRecDepth 65536 in
set_option maxHeartbeats 40000000 in
theorem rm1ft (l : Launch) (Z : State) (a0 : Array Value) (hw : ∀ d ∈ tables_1, d.before a0 Z = true) (ws : List Jvm.Cond) (a1 : Addr) (w2 : Addr) (w4 : Addr) (h0 : Heap) (n0 : Nat) (Z0 : n0 ≤ h0.size) (S_UNRESPONSIVE : Sta Z h0 "com/example/ouessant/ouessant/model/AgentStatus" "UNRESPONSIVE" "Lcom/example/ouessant/ouessant/model/AgentStatus;" (.ref w2)) (S_FAILED : Sta Z h0 "com/example/ouessant/ouessant/model/AgentStatus" "FAILED" "Lcom/example/ouessant/ouessant/model/AgentStatus;" (.ref w4)) (ha4 : ¬ (a1 = w2)) (ha11 : ¬ (a1 = w4)) :
    MetFree l (⟨"com/example/ouessant/ouessant/model/AgentStatus", "isMarked", "()Z"⟩ : MethodName) (head1 (Jvm.Cond.code (⟨"com/example/ouessant/ouessant/model/AgentStatus", "isMarked", "()Z"⟩ : MethodName) prog_14_method_6_code 1 (some .boolean) :: ws) ({ frames := 0, cells := 0, slots := 0, locals := 0 } : Room)) (fun a U => a = #[(.ref a1)] ∧ Z.Warmed39 U.vm ∧ U.heap = h0) (fun _ _ _ _ _ => True) (fun _ U o U' => ∃ v L, o = .returned v ∧ QR (some (.int (0 : Int32))) h0 n0 v U'.heap L ∧ FrameEnd U o U' L ({ frames := 0, cells := 0, slots := 0, locals := 0 } : Room).cells ({ frames := 0, cells := 0, slots := 0, locals := 0 } : Room).slots) := by
  refine MetFree.of_bodySF (plainFor_of_name pn_1) hisR ?_
  intro p e s m args below meth c s₁ Bd hml0 hP hK
  obtain ⟨rfl, hZ, hh⟩ := hP
  have hx := Bd.exec
  have hby := Bd.bytes
  have hml : c.maxLocals = 1 := hml0
  have hown : s.vm.findClass "com/example/ouessant/ouessant/model/AgentStatus" = some m.cls := findClass_of_methodNamed Bd.named
  have hnm := (name_of_methodNamed Bd.named Bd.method).1
  have X0 : Stand p l e ({ frames := 0, cells := 0, slots := 0, locals := 0 } : Room) s m #[(.ref a1)] below meth c s₁ [] 0 0 := Stand.of_body Bd
  have e0 : s₁.heap = h0 := by rw [← hh, Bd.state]; rfl
  have N0 := Fr.nil n0
  have pre0 : ∀ t, Steps p.tables e below (s₁.setTop (mkF m 0 #[.val (.ref a1)] [])) t → Steps p.tables e below (s₁.setTop (entryFrame m #[(.ref a1)] 1)) t := fun t k => castTop (ef_1 m a1) k
  obtain ⟨T3, X3, e3, st3⟩ := getS2 X0 hx hZ hown (host := "") (Or.inl (hw _ (List.mem_of_getElem? (i := 26) rfl))) Via.refl e0 S_UNRESPONSIVE (g := (mkF m 1 #[.val (.ref a1)] [(.ref a1)])) rfl (hb hby d1_1)
  obtain ⟨T5, X5, e5, st5⟩ := getS2 X3 hx hZ hown (host := "") (Or.inl (hw _ (List.mem_of_getElem? (i := 27) rfl))) Via.refl e3 S_FAILED (g := (mkF m 8 #[.val (.ref a1)] [(.ref a1)])) rfl (hb hby d1_8)
  obtain ⟨fs, hr, hrun, hended, hW, hsame⟩ := X5.leave (v := some (.int (0 : Int32))) (fun h => by rw [Bd.returns] at h; cases h)
  refine ⟨_, _, pre0 _ ?_, hrun, hended, _, _, rfl, ?_, ⟨_, rfl⟩, hW, hsame.mono (by decide) (by decide)⟩
  · show Steps p.tables e below (s₁.setTop (mkF m 0 #[.val (.ref a1)] [])) _
    refine XS.aloadN X0.here hx rfl (hb hby d1_0) rfl rfl ?_
    show Steps p.tables e below (s₁.setTop (mkF m 1 #[.val (.ref a1)] [(.ref a1)])) _
    refine st3 _ ?_
    show Steps p.tables e below (T3.setTop (mkF m 4 #[.val (.ref a1)] [(.ref w2), (.ref a1)])) _
    refine Jvm.RoadKit.acmp (g := (mkF m 4 #[.val (.ref a1)] [(.ref w2), (.ref a1)])) X3 hx rfl rfl rfl (pc0 := 4) (pc' := 7) (same := false) rfl (hb hby d1_4) rfl (decide_eq_false fun q => ha4 (Value.ref.inj q)) (by decide) (by decide) ?_
    show Steps p.tables e below (T3.setTop (mkF m 7 #[.val (.ref a1)] [])) _
    refine XS.aloadN X3.here hx rfl (hb hby d1_7) rfl rfl ?_
    show Steps p.tables e below (T3.setTop (mkF m 8 #[.val (.ref a1)] [(.ref a1)])) _
    refine st5 _ ?_
    show Steps p.tables e below (T5.setTop (mkF m 11 #[.val (.ref a1)] [(.ref w4), (.ref a1)])) _
    refine Jvm.RoadKit.acmp (g := (mkF m 11 #[.val (.ref a1)] [(.ref w4), (.ref a1)])) X5 hx rfl rfl rfl (pc0 := 11) (pc' := 18) (same := false) rfl (hb hby d1_11) rfl (decide_eq_false fun q => ha11 (Value.ref.inj q)) (by decide) (by decide) ?_
    show Steps p.tables e below (T5.setTop (mkF m 18 #[.val (.ref a1)] [])) _
    refine XS.iconst X5.here hx rfl (hb hby d1_18) ?_
    show Steps p.tables e below (T5.setTop (mkF m 19 #[.val (.ref a1)] [(.int (0 : Int32))])) _
    exact retN X5 hx (t := .boolean) Bd.returns (by simp) (hb hby d1_19) hr
  · show QR (some (.int (0 : Int32))) h0 n0 _ T5.heap _
    rw [e5]
    exact ⟨rfl, N0, rfl⟩
abbrev own_C1 (l : Launch) (Z : State) (a1 : Addr) (r : Option Value) (h0 : Heap) (n0 : Nat) : Prop :=
    MetFree l (⟨"com/example/ouessant/ouessant/model/AgentStatus", "isMarked", "()Z"⟩ : MethodName) (head1 (Jvm.Cond.code (⟨"com/example/ouessant/ouessant/model/AgentStatus", "isMarked", "()Z"⟩ : MethodName) prog_14_method_6_code 1 (some .boolean) :: []) ({ frames := 0, cells := 0, slots := 0, locals := 0 } : Room)) (fun a U => a = #[(.ref a1)] ∧ Z.Warmed39 U.vm ∧ U.heap = h0) (fun _ _ _ _ _ => True) (fun _ U o U' => ∃ v L, o = .returned v ∧ QR r h0 n0 v U'.heap L ∧ FrameEnd U o U' L ({ frames := 0, cells := 0, slots := 0, locals := 0 } : Room).cells ({ frames := 0, cells := 0, slots := 0, locals := 0 } : Room).slots)
theorem d2_0 : decode prog_14_method_5_code 0 = .ok (.aload_n 0, 1) := by decide +kernel
theorem d2_1 : decode prog_14_method_5_code 1 = .ok (.getstatic 16, 3) := by decide +kernel
theorem d2_4 : decode prog_14_method_5_code 4 = .ok (.if_acmp .eq 17, 3) := by decide +kernel
theorem d2_21 : decode prog_14_method_5_code 21 = .ok (.iconst 1, 1) := by decide +kernel
theorem d2_22 : decode prog_14_method_5_code 22 = .ok (.goto 4, 3) := by decide +kernel
theorem d2_26 : decode prog_14_method_5_code 26 = .ok (.ireturn, 1) := by decide +kernel
theorem pn_2 : plainName "com/example/ouessant/ouessant/model/AgentStatus" = true := by first | (simp [plainName, overriddenIn]; done) | decide +kernel
theorem ef_2 (m : MethodId) (x0 : Addr) : entryFrame m #[(.ref x0)] 1 = mkF m 0 #[.val (.ref x0)] [] := by first | (simp [entryFrame, mkF, argsToLocals, Value.category]; done) | rfl
set_option maxRecDepth 65536 in
set_option maxHeartbeats 40000000 in
theorem rm2t (l : Launch) (Z : State) (a0 : Array Value) (hw : ∀ d ∈ tables_1, d.before a0 Z = true) (ws : List Jvm.Cond) (a1 : Addr) (w2 : Addr) (h0 : Heap) (n0 : Nat) (Z0 : n0 ≤ h0.size) (S_UNRESPONSIVE : Sta Z h0 "com/example/ouessant/ouessant/model/AgentStatus" "UNRESPONSIVE" "Lcom/example/ouessant/ouessant/model/AgentStatus;" (.ref w2)) (ha4 : a1 = w2) :
    MetFree l (⟨"com/example/ouessant/ouessant/model/AgentStatus", "isFenced", "()Z"⟩ : MethodName) (head1 (Jvm.Cond.code (⟨"com/example/ouessant/ouessant/model/AgentStatus", "isFenced", "()Z"⟩ : MethodName) prog_14_method_5_code 1 (some .boolean) :: ws) ({ frames := 0, cells := 0, slots := 0, locals := 0 } : Room)) (fun a U => a = #[(.ref a1)] ∧ Z.Warmed39 U.vm ∧ U.heap = h0) (fun _ _ _ _ _ => True) (fun _ U o U' => ∃ v L, o = .returned v ∧ QR (some (.int (1 : Int32))) h0 n0 v U'.heap L ∧ FrameEnd U o U' L ({ frames := 0, cells := 0, slots := 0, locals := 0 } : Room).cells ({ frames := 0, cells := 0, slots := 0, locals := 0 } : Room).slots) := by
  refine MetFree.of_bodySF (plainFor_of_name pn_2) hisR ?_
  intro p e s m args below meth c s₁ Bd hml0 hP hK
  obtain ⟨rfl, hZ, hh⟩ := hP
  have hx := Bd.exec
  have hby := Bd.bytes
  have hml : c.maxLocals = 1 := hml0
  have hown : s.vm.findClass "com/example/ouessant/ouessant/model/AgentStatus" = some m.cls := findClass_of_methodNamed Bd.named
  have hnm := (name_of_methodNamed Bd.named Bd.method).1
  have X0 : Stand p l e ({ frames := 0, cells := 0, slots := 0, locals := 0 } : Room) s m #[(.ref a1)] below meth c s₁ [] 0 0 := Stand.of_body Bd
  have e0 : s₁.heap = h0 := by rw [← hh, Bd.state]; rfl
  have N0 := Fr.nil n0
  have pre0 : ∀ t, Steps p.tables e below (s₁.setTop (mkF m 0 #[.val (.ref a1)] [])) t → Steps p.tables e below (s₁.setTop (entryFrame m #[(.ref a1)] 1)) t := fun t k => castTop (ef_2 m a1) k
  obtain ⟨T3, X3, e3, st3⟩ := getS2 X0 hx hZ hown (host := "") (Or.inl (hw _ (List.mem_of_getElem? (i := 26) rfl))) Via.refl e0 S_UNRESPONSIVE (g := (mkF m 1 #[.val (.ref a1)] [(.ref a1)])) rfl (hb hby d2_1)
  obtain ⟨fs, hr, hrun, hended, hW, hsame⟩ := X3.leave (v := some (.int (1 : Int32))) (fun h => by rw [Bd.returns] at h; cases h)
  refine ⟨_, _, pre0 _ ?_, hrun, hended, _, _, rfl, ?_, ⟨_, rfl⟩, hW, hsame.mono (by decide) (by decide)⟩
  · show Steps p.tables e below (s₁.setTop (mkF m 0 #[.val (.ref a1)] [])) _
    refine XS.aloadN X0.here hx rfl (hb hby d2_0) rfl rfl ?_
    show Steps p.tables e below (s₁.setTop (mkF m 1 #[.val (.ref a1)] [(.ref a1)])) _
    refine st3 _ ?_
    show Steps p.tables e below (T3.setTop (mkF m 4 #[.val (.ref a1)] [(.ref w2), (.ref a1)])) _
    refine Jvm.RoadKit.acmp (g := (mkF m 4 #[.val (.ref a1)] [(.ref w2), (.ref a1)])) X3 hx rfl rfl rfl (pc0 := 4) (pc' := 21) (same := true) rfl (hb hby d2_4) rfl (decide_eq_true (congrArg Value.ref ha4)) (by decide) (by decide) ?_
    show Steps p.tables e below (T3.setTop (mkF m 21 #[.val (.ref a1)] [])) _
    refine XS.iconst X3.here hx rfl (hb hby d2_21) ?_
    show Steps p.tables e below (T3.setTop (mkF m 22 #[.val (.ref a1)] [(.int (1 : Int32))])) _
    refine XS.goto X3.here hx rfl (pc0 := 22) (pc' := 26) rfl (hb hby d2_22) (by decide) (by decide) ?_
    show Steps p.tables e below (T3.setTop (mkF m 26 #[.val (.ref a1)] [(.int (1 : Int32))])) _
    exact retN X3 hx (t := .boolean) Bd.returns (by simp) (hb hby d2_26) hr
  · show QR (some (.int (1 : Int32))) h0 n0 _ T3.heap _
    rw [e3]
    exact ⟨rfl, N0, rfl⟩
theorem d2_7 : decode prog_14_method_5_code 7 = .ok (.aload_n 0, 1) := by decide +kernel
theorem d2_8 : decode prog_14_method_5_code 8 = .ok (.getstatic 19, 3) := by decide +kernel
theorem d2_11 : decode prog_14_method_5_code 11 = .ok (.if_acmp .eq 10, 3) := by decide +kernel
set_option maxRecDepth 65536 in
set_option maxHeartbeats 40000000 in
theorem rm2ft (l : Launch) (Z : State) (a0 : Array Value) (hw : ∀ d ∈ tables_1, d.before a0 Z = true) (ws : List Jvm.Cond) (a1 : Addr) (w2 : Addr) (w4 : Addr) (h0 : Heap) (n0 : Nat) (Z0 : n0 ≤ h0.size) (S_UNRESPONSIVE : Sta Z h0 "com/example/ouessant/ouessant/model/AgentStatus" "UNRESPONSIVE" "Lcom/example/ouessant/ouessant/model/AgentStatus;" (.ref w2)) (S_FAILED : Sta Z h0 "com/example/ouessant/ouessant/model/AgentStatus" "FAILED" "Lcom/example/ouessant/ouessant/model/AgentStatus;" (.ref w4)) (ha4 : ¬ (a1 = w2)) (ha11 : a1 = w4) :
    MetFree l (⟨"com/example/ouessant/ouessant/model/AgentStatus", "isFenced", "()Z"⟩ : MethodName) (head1 (Jvm.Cond.code (⟨"com/example/ouessant/ouessant/model/AgentStatus", "isFenced", "()Z"⟩ : MethodName) prog_14_method_5_code 1 (some .boolean) :: ws) ({ frames := 0, cells := 0, slots := 0, locals := 0 } : Room)) (fun a U => a = #[(.ref a1)] ∧ Z.Warmed39 U.vm ∧ U.heap = h0) (fun _ _ _ _ _ => True) (fun _ U o U' => ∃ v L, o = .returned v ∧ QR (some (.int (1 : Int32))) h0 n0 v U'.heap L ∧ FrameEnd U o U' L ({ frames := 0, cells := 0, slots := 0, locals := 0 } : Room).cells ({ frames := 0, cells := 0, slots := 0, locals := 0 } : Room).slots) := by
  refine MetFree.of_bodySF (plainFor_of_name pn_2) hisR ?_
  intro p e s m args below meth c s₁ Bd hml0 hP hK
  obtain ⟨rfl, hZ, hh⟩ := hP
  have hx := Bd.exec
  have hby := Bd.bytes
  have hml : c.maxLocals = 1 := hml0
  have hown : s.vm.findClass "com/example/ouessant/ouessant/model/AgentStatus" = some m.cls := findClass_of_methodNamed Bd.named
  have hnm := (name_of_methodNamed Bd.named Bd.method).1
  have X0 : Stand p l e ({ frames := 0, cells := 0, slots := 0, locals := 0 } : Room) s m #[(.ref a1)] below meth c s₁ [] 0 0 := Stand.of_body Bd
  have e0 : s₁.heap = h0 := by rw [← hh, Bd.state]; rfl
  have N0 := Fr.nil n0
  have pre0 : ∀ t, Steps p.tables e below (s₁.setTop (mkF m 0 #[.val (.ref a1)] [])) t → Steps p.tables e below (s₁.setTop (entryFrame m #[(.ref a1)] 1)) t := fun t k => castTop (ef_2 m a1) k
  obtain ⟨T3, X3, e3, st3⟩ := getS2 X0 hx hZ hown (host := "") (Or.inl (hw _ (List.mem_of_getElem? (i := 26) rfl))) Via.refl e0 S_UNRESPONSIVE (g := (mkF m 1 #[.val (.ref a1)] [(.ref a1)])) rfl (hb hby d2_1)
  obtain ⟨T5, X5, e5, st5⟩ := getS2 X3 hx hZ hown (host := "") (Or.inl (hw _ (List.mem_of_getElem? (i := 27) rfl))) Via.refl e3 S_FAILED (g := (mkF m 8 #[.val (.ref a1)] [(.ref a1)])) rfl (hb hby d2_8)
  obtain ⟨fs, hr, hrun, hended, hW, hsame⟩ := X5.leave (v := some (.int (1 : Int32))) (fun h => by rw [Bd.returns] at h; cases h)
  refine ⟨_, _, pre0 _ ?_, hrun, hended, _, _, rfl, ?_, ⟨_, rfl⟩, hW, hsame.mono (by decide) (by decide)⟩
  · show Steps p.tables e below (s₁.setTop (mkF m 0 #[.val (.ref a1)] [])) _
    refine XS.aloadN X0.here hx rfl (hb hby d2_0) rfl rfl ?_
    show Steps p.tables e below (s₁.setTop (mkF m 1 #[.val (.ref a1)] [(.ref a1)])) _
    refine st3 _ ?_
    show Steps p.tables e below (T3.setTop (mkF m 4 #[.val (.ref a1)] [(.ref w2), (.ref a1)])) _
    refine Jvm.RoadKit.acmp (g := (mkF m 4 #[.val (.ref a1)] [(.ref w2), (.ref a1)])) X3 hx rfl rfl rfl (pc0 := 4) (pc' := 7) (same := false) rfl (hb hby d2_4) rfl (decide_eq_false fun q => ha4 (Value.ref.inj q)) (by decide) (by decide) ?_
    show Steps p.tables e below (T3.setTop (mkF m 7 #[.val (.ref a1)] [])) _
    refine XS.aloadN X3.here hx rfl (hb hby d2_7) rfl rfl ?_
    show Steps p.tables e below (T3.setTop (mkF m 8 #[.val (.ref a1)] [(.ref a1)])) _
    refine st5 _ ?_
    show Steps p.tables e below (T5.setTop (mkF m 11 #[.val (.ref a1)] [(.ref w4), (.ref a1)])) _
    refine Jvm.RoadKit.acmp (g := (mkF m 11 #[.val (.ref a1)] [(.ref w4), (.ref a1)])) X5 hx rfl rfl rfl (pc0 := 11) (pc' := 21) (same := true) rfl (hb hby d2_11) rfl (decide_eq_true (congrArg Value.ref ha11)) (by decide) (by decide) ?_
    show Steps p.tables e below (T5.setTop (mkF m 21 #[.val (.ref a1)] [])) _
    refine XS.iconst X5.here hx rfl (hb hby d2_21) ?_
    show Steps p.tables e below (T5.setTop (mkF m 22 #[.val (.ref a1)] [(.int (1 : Int32))])) _
    refine XS.goto X5.here hx rfl (pc0 := 22) (pc' := 26) rfl (hb hby d2_22) (by decide) (by decide) ?_
    show Steps p.tables e below (T5.setTop (mkF m 26 #[.val (.ref a1)] [(.int (1 : Int32))])) _
    exact retN X5 hx (t := .boolean) Bd.returns (by simp) (hb hby d2_26) hr
  · show QR (some (.int (1 : Int32))) h0 n0 _ T5.heap _
    rw [e5]
    exact ⟨rfl, N0, rfl⟩
theorem d2_14 : decode prog_14_method_5_code 14 = .ok (.aload_n 0, 1) := by decide +kernel
theorem d2_15 : decode prog_14_method_5_code 15 = .ok (.getstatic 25, 3) := by decide +kernel
theorem d2_18 : decode prog_14_method_5_code 18 = .ok (.if_acmp .ne 7, 3) := by decide +kernel
set_option maxRecDepth 65536 in
set_option maxHeartbeats 40000000 in
theorem rm2fff (l : Launch) (Z : State) (a0 : Array Value) (hw : ∀ d ∈ tables_1, d.before a0 Z = true) (ws : List Jvm.Cond) (a1 : Addr) (w2 : Addr) (w4 : Addr) (w6 : Addr) (h0 : Heap) (n0 : Nat) (Z0 : n0 ≤ h0.size) (S_UNRESPONSIVE : Sta Z h0 "com/example/ouessant/ouessant/model/AgentStatus" "UNRESPONSIVE" "Lcom/example/ouessant/ouessant/model/AgentStatus;" (.ref w2)) (S_FAILED : Sta Z h0 "com/example/ouessant/ouessant/model/AgentStatus" "FAILED" "Lcom/example/ouessant/ouessant/model/AgentStatus;" (.ref w4)) (S_TERMINATED : Sta Z h0 "com/example/ouessant/ouessant/model/AgentStatus" "TERMINATED" "Lcom/example/ouessant/ouessant/model/AgentStatus;" (.ref w6)) (ha4 : ¬ (a1 = w2)) (ha11 : ¬ (a1 = w4)) (ha18 : a1 = w6) :
    MetFree l (⟨"com/example/ouessant/ouessant/model/AgentStatus", "isFenced", "()Z"⟩ : MethodName) (head1 (Jvm.Cond.code (⟨"com/example/ouessant/ouessant/model/AgentStatus", "isFenced", "()Z"⟩ : MethodName) prog_14_method_5_code 1 (some .boolean) :: ws) ({ frames := 0, cells := 0, slots := 0, locals := 0 } : Room)) (fun a U => a = #[(.ref a1)] ∧ Z.Warmed39 U.vm ∧ U.heap = h0) (fun _ _ _ _ _ => True) (fun _ U o U' => ∃ v L, o = .returned v ∧ QR (some (.int (1 : Int32))) h0 n0 v U'.heap L ∧ FrameEnd U o U' L ({ frames := 0, cells := 0, slots := 0, locals := 0 } : Room).cells ({ frames := 0, cells := 0, slots := 0, locals := 0 } : Room).slots) := by
  refine MetFree.of_bodySF (plainFor_of_name pn_2) hisR ?_
  intro p e s m args below meth c s₁ Bd hml0 hP hK
  obtain ⟨rfl, hZ, hh⟩ := hP
  have hx := Bd.exec
  have hby := Bd.bytes
  have hml : c.maxLocals = 1 := hml0
  have hown : s.vm.findClass "com/example/ouessant/ouessant/model/AgentStatus" = some m.cls := findClass_of_methodNamed Bd.named
  have hnm := (name_of_methodNamed Bd.named Bd.method).1
  have X0 : Stand p l e ({ frames := 0, cells := 0, slots := 0, locals := 0 } : Room) s m #[(.ref a1)] below meth c s₁ [] 0 0 := Stand.of_body Bd
  have e0 : s₁.heap = h0 := by rw [← hh, Bd.state]; rfl
  have N0 := Fr.nil n0
  have pre0 : ∀ t, Steps p.tables e below (s₁.setTop (mkF m 0 #[.val (.ref a1)] [])) t → Steps p.tables e below (s₁.setTop (entryFrame m #[(.ref a1)] 1)) t := fun t k => castTop (ef_2 m a1) k
  obtain ⟨T3, X3, e3, st3⟩ := getS2 X0 hx hZ hown (host := "") (Or.inl (hw _ (List.mem_of_getElem? (i := 26) rfl))) Via.refl e0 S_UNRESPONSIVE (g := (mkF m 1 #[.val (.ref a1)] [(.ref a1)])) rfl (hb hby d2_1)
  obtain ⟨T5, X5, e5, st5⟩ := getS2 X3 hx hZ hown (host := "") (Or.inl (hw _ (List.mem_of_getElem? (i := 27) rfl))) Via.refl e3 S_FAILED (g := (mkF m 8 #[.val (.ref a1)] [(.ref a1)])) rfl (hb hby d2_8)
  obtain ⟨T7, X7, e7, st7⟩ := getS2 X5 hx hZ hown (host := "") (Or.inl (hw _ (List.mem_of_getElem? (i := 33) rfl))) Via.refl e5 S_TERMINATED (g := (mkF m 15 #[.val (.ref a1)] [(.ref a1)])) rfl (hb hby d2_15)
  obtain ⟨fs, hr, hrun, hended, hW, hsame⟩ := X7.leave (v := some (.int (1 : Int32))) (fun h => by rw [Bd.returns] at h; cases h)
  refine ⟨_, _, pre0 _ ?_, hrun, hended, _, _, rfl, ?_, ⟨_, rfl⟩, hW, hsame.mono (by decide) (by decide)⟩
  · show Steps p.tables e below (s₁.setTop (mkF m 0 #[.val (.ref a1)] [])) _
    refine XS.aloadN X0.here hx rfl (hb hby d2_0) rfl rfl ?_
    show Steps p.tables e below (s₁.setTop (mkF m 1 #[.val (.ref a1)] [(.ref a1)])) _
    refine st3 _ ?_
    show Steps p.tables e below (T3.setTop (mkF m 4 #[.val (.ref a1)] [(.ref w2), (.ref a1)])) _
    refine Jvm.RoadKit.acmp (g := (mkF m 4 #[.val (.ref a1)] [(.ref w2), (.ref a1)])) X3 hx rfl rfl rfl (pc0 := 4) (pc' := 7) (same := false) rfl (hb hby d2_4) rfl (decide_eq_false fun q => ha4 (Value.ref.inj q)) (by decide) (by decide) ?_
    show Steps p.tables e below (T3.setTop (mkF m 7 #[.val (.ref a1)] [])) _
    refine XS.aloadN X3.here hx rfl (hb hby d2_7) rfl rfl ?_
    show Steps p.tables e below (T3.setTop (mkF m 8 #[.val (.ref a1)] [(.ref a1)])) _
    refine st5 _ ?_
    show Steps p.tables e below (T5.setTop (mkF m 11 #[.val (.ref a1)] [(.ref w4), (.ref a1)])) _
    refine Jvm.RoadKit.acmp (g := (mkF m 11 #[.val (.ref a1)] [(.ref w4), (.ref a1)])) X5 hx rfl rfl rfl (pc0 := 11) (pc' := 14) (same := false) rfl (hb hby d2_11) rfl (decide_eq_false fun q => ha11 (Value.ref.inj q)) (by decide) (by decide) ?_
    show Steps p.tables e below (T5.setTop (mkF m 14 #[.val (.ref a1)] [])) _
    refine XS.aloadN X5.here hx rfl (hb hby d2_14) rfl rfl ?_
    show Steps p.tables e below (T5.setTop (mkF m 15 #[.val (.ref a1)] [(.ref a1)])) _
    refine st7 _ ?_
    show Steps p.tables e below (T7.setTop (mkF m 18 #[.val (.ref a1)] [(.ref w6), (.ref a1)])) _
    refine Jvm.RoadKit.acmp (g := (mkF m 18 #[.val (.ref a1)] [(.ref w6), (.ref a1)])) X7 hx rfl rfl rfl (pc0 := 18) (pc' := 21) (same := true) rfl (hb hby d2_18) rfl (decide_eq_true (congrArg Value.ref ha18)) (by decide) (by decide) ?_
    show Steps p.tables e below (T7.setTop (mkF m 21 #[.val (.ref a1)] [])) _
    refine XS.iconst X7.here hx rfl (hb hby d2_21) ?_
    show Steps p.tables e below (T7.setTop (mkF m 22 #[.val (.ref a1)] [(.int (1 : Int32))])) _
    refine XS.goto X7.here hx rfl (pc0 := 22) (pc' := 26) rfl (hb hby d2_22) (by decide) (by decide) ?_
    show Steps p.tables e below (T7.setTop (mkF m 26 #[.val (.ref a1)] [(.int (1 : Int32))])) _
    exact retN X7 hx (t := .boolean) Bd.returns (by simp) (hb hby d2_26) hr
  · show QR (some (.int (1 : Int32))) h0 n0 _ T7.heap _
    rw [e7]
    exact ⟨rfl, N0, rfl⟩
theorem d2_25 : decode prog_14_method_5_code 25 = .ok (.iconst 0, 1) := by decide +kernel
set_option maxRecDepth 65536 in
set_option maxHeartbeats 40000000 in
theorem rm2fft (l : Launch) (Z : State) (a0 : Array Value) (hw : ∀ d ∈ tables_1, d.before a0 Z = true) (ws : List Jvm.Cond) (a1 : Addr) (w2 : Addr) (w4 : Addr) (w6 : Addr) (h0 : Heap) (n0 : Nat) (Z0 : n0 ≤ h0.size) (S_UNRESPONSIVE : Sta Z h0 "com/example/ouessant/ouessant/model/AgentStatus" "UNRESPONSIVE" "Lcom/example/ouessant/ouessant/model/AgentStatus;" (.ref w2)) (S_FAILED : Sta Z h0 "com/example/ouessant/ouessant/model/AgentStatus" "FAILED" "Lcom/example/ouessant/ouessant/model/AgentStatus;" (.ref w4)) (S_TERMINATED : Sta Z h0 "com/example/ouessant/ouessant/model/AgentStatus" "TERMINATED" "Lcom/example/ouessant/ouessant/model/AgentStatus;" (.ref w6)) (ha4 : ¬ (a1 = w2)) (ha11 : ¬ (a1 = w4)) (ha18 : ¬ (a1 = w6)) :
    MetFree l (⟨"com/example/ouessant/ouessant/model/AgentStatus", "isFenced", "()Z"⟩ : MethodName) (head1 (Jvm.Cond.code (⟨"com/example/ouessant/ouessant/model/AgentStatus", "isFenced", "()Z"⟩ : MethodName) prog_14_method_5_code 1 (some .boolean) :: ws) ({ frames := 0, cells := 0, slots := 0, locals := 0 } : Room)) (fun a U => a = #[(.ref a1)] ∧ Z.Warmed39 U.vm ∧ U.heap = h0) (fun _ _ _ _ _ => True) (fun _ U o U' => ∃ v L, o = .returned v ∧ QR (some (.int (0 : Int32))) h0 n0 v U'.heap L ∧ FrameEnd U o U' L ({ frames := 0, cells := 0, slots := 0, locals := 0 } : Room).cells ({ frames := 0, cells := 0, slots := 0, locals := 0 } : Room).slots) := by
  refine MetFree.of_bodySF (plainFor_of_name pn_2) hisR ?_
  intro p e s m args below meth c s₁ Bd hml0 hP hK
  obtain ⟨rfl, hZ, hh⟩ := hP
  have hx := Bd.exec
  have hby := Bd.bytes
  have hml : c.maxLocals = 1 := hml0
  have hown : s.vm.findClass "com/example/ouessant/ouessant/model/AgentStatus" = some m.cls := findClass_of_methodNamed Bd.named
  have hnm := (name_of_methodNamed Bd.named Bd.method).1
  have X0 : Stand p l e ({ frames := 0, cells := 0, slots := 0, locals := 0 } : Room) s m #[(.ref a1)] below meth c s₁ [] 0 0 := Stand.of_body Bd
  have e0 : s₁.heap = h0 := by rw [← hh, Bd.state]; rfl
  have N0 := Fr.nil n0
  have pre0 : ∀ t, Steps p.tables e below (s₁.setTop (mkF m 0 #[.val (.ref a1)] [])) t → Steps p.tables e below (s₁.setTop (entryFrame m #[(.ref a1)] 1)) t := fun t k => castTop (ef_2 m a1) k
  obtain ⟨T3, X3, e3, st3⟩ := getS2 X0 hx hZ hown (host := "") (Or.inl (hw _ (List.mem_of_getElem? (i := 26) rfl))) Via.refl e0 S_UNRESPONSIVE (g := (mkF m 1 #[.val (.ref a1)] [(.ref a1)])) rfl (hb hby d2_1)
  obtain ⟨T5, X5, e5, st5⟩ := getS2 X3 hx hZ hown (host := "") (Or.inl (hw _ (List.mem_of_getElem? (i := 27) rfl))) Via.refl e3 S_FAILED (g := (mkF m 8 #[.val (.ref a1)] [(.ref a1)])) rfl (hb hby d2_8)
  obtain ⟨T7, X7, e7, st7⟩ := getS2 X5 hx hZ hown (host := "") (Or.inl (hw _ (List.mem_of_getElem? (i := 33) rfl))) Via.refl e5 S_TERMINATED (g := (mkF m 15 #[.val (.ref a1)] [(.ref a1)])) rfl (hb hby d2_15)
  obtain ⟨fs, hr, hrun, hended, hW, hsame⟩ := X7.leave (v := some (.int (0 : Int32))) (fun h => by rw [Bd.returns] at h; cases h)
  refine ⟨_, _, pre0 _ ?_, hrun, hended, _, _, rfl, ?_, ⟨_, rfl⟩, hW, hsame.mono (by decide) (by decide)⟩
  · show Steps p.tables e below (s₁.setTop (mkF m 0 #[.val (.ref a1)] [])) _
    refine XS.aloadN X0.here hx rfl (hb hby d2_0) rfl rfl ?_
    show Steps p.tables e below (s₁.setTop (mkF m 1 #[.val (.ref a1)] [(.ref a1)])) _
    refine st3 _ ?_
    show Steps p.tables e below (T3.setTop (mkF m 4 #[.val (.ref a1)] [(.ref w2), (.ref a1)])) _
    refine Jvm.RoadKit.acmp (g := (mkF m 4 #[.val (.ref a1)] [(.ref w2), (.ref a1)])) X3 hx rfl rfl rfl (pc0 := 4) (pc' := 7) (same := false) rfl (hb hby d2_4) rfl (decide_eq_false fun q => ha4 (Value.ref.inj q)) (by decide) (by decide) ?_
    show Steps p.tables e below (T3.setTop (mkF m 7 #[.val (.ref a1)] [])) _
    refine XS.aloadN X3.here hx rfl (hb hby d2_7) rfl rfl ?_
    show Steps p.tables e below (T3.setTop (mkF m 8 #[.val (.ref a1)] [(.ref a1)])) _
    refine st5 _ ?_
    show Steps p.tables e below (T5.setTop (mkF m 11 #[.val (.ref a1)] [(.ref w4), (.ref a1)])) _
    refine Jvm.RoadKit.acmp (g := (mkF m 11 #[.val (.ref a1)] [(.ref w4), (.ref a1)])) X5 hx rfl rfl rfl (pc0 := 11) (pc' := 14) (same := false) rfl (hb hby d2_11) rfl (decide_eq_false fun q => ha11 (Value.ref.inj q)) (by decide) (by decide) ?_
    show Steps p.tables e below (T5.setTop (mkF m 14 #[.val (.ref a1)] [])) _
    refine XS.aloadN X5.here hx rfl (hb hby d2_14) rfl rfl ?_
    show Steps p.tables e below (T5.setTop (mkF m 15 #[.val (.ref a1)] [(.ref a1)])) _
    refine st7 _ ?_
    show Steps p.tables e below (T7.setTop (mkF m 18 #[.val (.ref a1)] [(.ref w6), (.ref a1)])) _
    refine Jvm.RoadKit.acmp (g := (mkF m 18 #[.val (.ref a1)] [(.ref w6), (.ref a1)])) X7 hx rfl rfl rfl (pc0 := 18) (pc' := 25) (same := false) rfl (hb hby d2_18) rfl (decide_eq_false fun q => ha18 (Value.ref.inj q)) (by decide) (by decide) ?_
    show Steps p.tables e below (T7.setTop (mkF m 25 #[.val (.ref a1)] [])) _
    refine XS.iconst X7.here hx rfl (hb hby d2_25) ?_
    show Steps p.tables e below (T7.setTop (mkF m 26 #[.val (.ref a1)] [(.int (0 : Int32))])) _
    exact retN X7 hx (t := .boolean) Bd.returns (by simp) (hb hby d2_26) hr
  · show QR (some (.int (0 : Int32))) h0 n0 _ T7.heap _
    rw [e7]
    exact ⟨rfl, N0, rfl⟩
abbrev own_C2 (l : Launch) (Z : State) (a1 : Addr) (r : Option Value) (h0 : Heap) (n0 : Nat) : Prop :=
    MetFree l (⟨"com/example/ouessant/ouessant/model/AgentStatus", "isFenced", "()Z"⟩ : MethodName) (head1 (Jvm.Cond.code (⟨"com/example/ouessant/ouessant/model/AgentStatus", "isFenced", "()Z"⟩ : MethodName) prog_14_method_5_code 1 (some .boolean) :: []) ({ frames := 0, cells := 0, slots := 0, locals := 0 } : Room)) (fun a U => a = #[(.ref a1)] ∧ Z.Warmed39 U.vm ∧ U.heap = h0) (fun _ _ _ _ _ => True) (fun _ U o U' => ∃ v L, o = .returned v ∧ QR r h0 n0 v U'.heap L ∧ FrameEnd U o U' L ({ frames := 0, cells := 0, slots := 0, locals := 0 } : Room).cells ({ frames := 0, cells := 0, slots := 0, locals := 0 } : Room).slots)
set_option maxRecDepth 65536 in
set_option maxHeartbeats 40000000 in
theorem own_fill {p : Program} {l : Launch} {e : Env} {s : State} {m : MethodId} {args : Array Value} {below : List Frame} {meth : Method} {c : Code} {T Z : State} {h0 : Heap} {n0 : Nat} {a0 : Array Value} (hw : ∀ d ∈ tables_1, d.before a0 Z = true) (X0 : Stand p l e room_1 s m args below meth c T [] 0 0) (hx : p.tables.exec = Jvm.exec) (hZ : Z.Warmed39 s.vm) (hby : c.code = code) (hown : s.vm.findClass "com/example/ouessant/ouessant/model/AgentStatusIsMarkedPinLaw" = some m.cls) (e0 : T.heap = h0) (Z0 : n0 ≤ h0.size) (Ls : Array Slot) (u_SPAWNING u_IDLE u_RUNNING u_DEGRADED u_UNRESPONSIVE u_FAILED u_QUARANTINED u_TERMINATED : Addr) (S_SPAWNING : Sta Z h0 "com/example/ouessant/ouessant/model/AgentStatus" "SPAWNING" "Lcom/example/ouessant/ouessant/model/AgentStatus;" (.ref u_SPAWNING)) (E_SPAWNING : Exa Z h0 u_SPAWNING "com/example/ouessant/ouessant/model/AgentStatus") (S_IDLE : Sta Z h0 "com/example/ouessant/ouessant/model/AgentStatus" "IDLE" "Lcom/example/ouessant/ouessant/model/AgentStatus;" (.ref u_IDLE)) (E_IDLE : Exa Z h0 u_IDLE "com/example/ouessant/ouessant/model/AgentStatus") (S_RUNNING : Sta Z h0 "com/example/ouessant/ouessant/model/AgentStatus" "RUNNING" "Lcom/example/ouessant/ouessant/model/AgentStatus;" (.ref u_RUNNING)) (E_RUNNING : Exa Z h0 u_RUNNING "com/example/ouessant/ouessant/model/AgentStatus") (S_DEGRADED : Sta Z h0 "com/example/ouessant/ouessant/model/AgentStatus" "DEGRADED" "Lcom/example/ouessant/ouessant/model/AgentStatus;" (.ref u_DEGRADED)) (E_DEGRADED : Exa Z h0 u_DEGRADED "com/example/ouessant/ouessant/model/AgentStatus") (S_UNRESPONSIVE : Sta Z h0 "com/example/ouessant/ouessant/model/AgentStatus" "UNRESPONSIVE" "Lcom/example/ouessant/ouessant/model/AgentStatus;" (.ref u_UNRESPONSIVE)) (E_UNRESPONSIVE : Exa Z h0 u_UNRESPONSIVE "com/example/ouessant/ouessant/model/AgentStatus") (S_FAILED : Sta Z h0 "com/example/ouessant/ouessant/model/AgentStatus" "FAILED" "Lcom/example/ouessant/ouessant/model/AgentStatus;" (.ref u_FAILED)) (E_FAILED : Exa Z h0 u_FAILED "com/example/ouessant/ouessant/model/AgentStatus") (S_QUARANTINED : Sta Z h0 "com/example/ouessant/ouessant/model/AgentStatus" "QUARANTINED" "Lcom/example/ouessant/ouessant/model/AgentStatus;" (.ref u_QUARANTINED)) (E_QUARANTINED : Exa Z h0 u_QUARANTINED "com/example/ouessant/ouessant/model/AgentStatus") (S_TERMINATED : Sta Z h0 "com/example/ouessant/ouessant/model/AgentStatus" "TERMINATED" "Lcom/example/ouessant/ouessant/model/AgentStatus;" (.ref u_TERMINATED)) (E_TERMINATED : Exa Z h0 u_TERMINATED "com/example/ouessant/ouessant/model/AgentStatus") :
    ∃ (T' : State) (h' : Heap) (b : Addr) (k : ClassId) (locs : List Loc), Stand p l e room_1 s m args below meth c T' locs 1 8 ∧ T'.heap = h' ∧ Keep h0 h' [] ∧ Fr n0 locs ∧ Arv Z h' b k (.object "com/example/ouessant/ouessant/model/AgentStatus") (8 : Int32) [.ref u_SPAWNING, .ref u_IDLE, .ref u_RUNNING, .ref u_DEGRADED, .ref u_UNRESPONSIVE, .ref u_FAILED, .ref u_QUARANTINED, .ref u_TERMINATED] .null ∧ ∀ target, Steps p.tables e below (T'.setTop (mkF m 55 Ls [.ref b])) target → Steps p.tables e below (T.setTop (mkF m 0 Ls [])) target := by
  obtain ⟨TA, hA, kA, XA, eA, EA, AA, OA, stA⟩ := newR X0 hx hZ hown (hw _ (List.mem_of_getElem? (i := 0) rfl)) (hw _ (List.mem_of_getElem? (i := 1) rfl)) e0 (g := (mkF m 2 Ls [(.int (8 : Int32))])) rfl (hb hby at_2) rfl (by decide) (cap := 8) (by decide) (by decide) (by decide) (by decide)
  obtain ⟨b, gb⟩ : ∃ z, z = h0.size := ⟨_, rfl⟩
  rw [← gb] at AA stA
  have VA : Arv Z hA b kA (.object "com/example/ouessant/ouessant/model/AgentStatus") (8 : Int32) [.null, .null, .null, .null, .null, .null, .null, .null] .null := Arv.pad (Arv.new AA (by decide)) (pad_rep [] .null 8)
  have g_b : n0 ≤ b := Nat.le_trans Z0 (Nat.le_of_eq gb.symm)
  have sz_b : h0.size ≤ b := Nat.le_of_eq gb.symm
  have KA : Keep h0 hA [] := (Keep.refl h0 []).ext EA
  have NA := Fr.nil n0
  obtain ⟨Tp0, hp0, Xp0, ep0, Wp0, Vp0, stp0⟩ := own_put XA hx hZ hown (hw _ (List.mem_of_getElem? (i := 2) rfl)) eA (own_staK S_SPAWNING KA) (E_SPAWNING.keep KA) VA OA (pc := 5) (pc1 := 7) (Ls := Ls) (0 : Int32) 0 (by decide) (by decide) (Nat.le_of_ble_eq_true rfl) (by decide) [.ref u_SPAWNING, .null, .null, .null, .null, .null, .null, .null] rfl (hb hby at_5) (fun _ q => XS.iconst XA.here hx rfl (hb hby at_6) q) (hb hby at_7) (hb hby at_10)
  have Kp0 : Keep h0 hp0 [] := KA.wr Wp0 (Or.inr sz_b)
  have Np0 := Fr.snoc Xp0 NA g_b
  obtain ⟨Tp1, hp1, Xp1, ep1, Wp1, Vp1, stp1⟩ := own_put Xp0 hx hZ hown (hw _ (List.mem_of_getElem? (i := 6) rfl)) ep0 (own_staK S_IDLE Kp0) (E_IDLE.keep Kp0) Vp0 OA (pc := 11) (pc1 := 13) (Ls := Ls) (1 : Int32) 1 (by decide) (by decide) (Nat.le_of_ble_eq_true rfl) (by decide) [.ref u_SPAWNING, .ref u_IDLE, .null, .null, .null, .null, .null, .null] rfl (hb hby at_11) (fun _ q => XS.iconst Xp0.here hx rfl (hb hby at_12) q) (hb hby at_13) (hb hby at_16)
  have Kp1 : Keep h0 hp1 [] := Kp0.wr Wp1 (Or.inr sz_b)
  have Np1 := Fr.snoc Xp1 Np0 g_b
  obtain ⟨Tp2, hp2, Xp2, ep2, Wp2, Vp2, stp2⟩ := own_put Xp1 hx hZ hown (hw _ (List.mem_of_getElem? (i := 8) rfl)) ep1 (own_staK S_RUNNING Kp1) (E_RUNNING.keep Kp1) Vp1 OA (pc := 17) (pc1 := 19) (Ls := Ls) (2 : Int32) 2 (by decide) (by decide) (Nat.le_of_ble_eq_true rfl) (by decide) [.ref u_SPAWNING, .ref u_IDLE, .ref u_RUNNING, .null, .null, .null, .null, .null] rfl (hb hby at_17) (fun _ q => XS.iconst Xp1.here hx rfl (hb hby at_18) q) (hb hby at_19) (hb hby at_22)
  have Kp2 : Keep h0 hp2 [] := Kp1.wr Wp2 (Or.inr sz_b)
  have Np2 := Fr.snoc Xp2 Np1 g_b
  obtain ⟨Tp3, hp3, Xp3, ep3, Wp3, Vp3, stp3⟩ := own_put Xp2 hx hZ hown (hw _ (List.mem_of_getElem? (i := 10) rfl)) ep2 (own_staK S_DEGRADED Kp2) (E_DEGRADED.keep Kp2) Vp2 OA (pc := 23) (pc1 := 25) (Ls := Ls) (3 : Int32) 3 (by decide) (by decide) (Nat.le_of_ble_eq_true rfl) (by decide) [.ref u_SPAWNING, .ref u_IDLE, .ref u_RUNNING, .ref u_DEGRADED, .null, .null, .null, .null] rfl (hb hby at_23) (fun _ q => XS.iconst Xp2.here hx rfl (hb hby at_24) q) (hb hby at_25) (hb hby at_28)
  have Kp3 : Keep h0 hp3 [] := Kp2.wr Wp3 (Or.inr sz_b)
  have Np3 := Fr.snoc Xp3 Np2 g_b
  obtain ⟨Tp4, hp4, Xp4, ep4, Wp4, Vp4, stp4⟩ := own_put Xp3 hx hZ hown (hw _ (List.mem_of_getElem? (i := 12) rfl)) ep3 (own_staK S_UNRESPONSIVE Kp3) (E_UNRESPONSIVE.keep Kp3) Vp3 OA (pc := 29) (pc1 := 31) (Ls := Ls) (4 : Int32) 4 (by decide) (by decide) (Nat.le_of_ble_eq_true rfl) (by decide) [.ref u_SPAWNING, .ref u_IDLE, .ref u_RUNNING, .ref u_DEGRADED, .ref u_UNRESPONSIVE, .null, .null, .null] rfl (hb hby at_29) (fun _ q => XS.iconst Xp3.here hx rfl (hb hby at_30) q) (hb hby at_31) (hb hby at_34)
  have Kp4 : Keep h0 hp4 [] := Kp3.wr Wp4 (Or.inr sz_b)
  have Np4 := Fr.snoc Xp4 Np3 g_b
  obtain ⟨Tp5, hp5, Xp5, ep5, Wp5, Vp5, stp5⟩ := own_put Xp4 hx hZ hown (hw _ (List.mem_of_getElem? (i := 14) rfl)) ep4 (own_staK S_FAILED Kp4) (E_FAILED.keep Kp4) Vp4 OA (pc := 35) (pc1 := 37) (Ls := Ls) (5 : Int32) 5 (by decide) (by decide) (Nat.le_of_ble_eq_true rfl) (by decide) [.ref u_SPAWNING, .ref u_IDLE, .ref u_RUNNING, .ref u_DEGRADED, .ref u_UNRESPONSIVE, .ref u_FAILED, .null, .null] rfl (hb hby at_35) (fun _ q => XS.iconst Xp4.here hx rfl (hb hby at_36) q) (hb hby at_37) (hb hby at_40)
  have Kp5 : Keep h0 hp5 [] := Kp4.wr Wp5 (Or.inr sz_b)
  have Np5 := Fr.snoc Xp5 Np4 g_b
  obtain ⟨Tp6, hp6, Xp6, ep6, Wp6, Vp6, stp6⟩ := own_put Xp5 hx hZ hown (hw _ (List.mem_of_getElem? (i := 16) rfl)) ep5 (own_staK S_QUARANTINED Kp5) (E_QUARANTINED.keep Kp5) Vp5 OA (pc := 41) (pc1 := 44) (Ls := Ls) (6 : Int32) 6 (by decide) (by decide) (Nat.le_of_ble_eq_true rfl) (by decide) [.ref u_SPAWNING, .ref u_IDLE, .ref u_RUNNING, .ref u_DEGRADED, .ref u_UNRESPONSIVE, .ref u_FAILED, .ref u_QUARANTINED, .null] rfl (hb hby at_41) (fun _ q => XS.bipush Xp5.here hx rfl (hb hby at_42) q) (hb hby at_44) (hb hby at_47)
  have Kp6 : Keep h0 hp6 [] := Kp5.wr Wp6 (Or.inr sz_b)
  have Np6 := Fr.snoc Xp6 Np5 g_b
  obtain ⟨Tp7, hp7, Xp7, ep7, Wp7, Vp7, stp7⟩ := own_put Xp6 hx hZ hown (hw _ (List.mem_of_getElem? (i := 18) rfl)) ep6 (own_staK S_TERMINATED Kp6) (E_TERMINATED.keep Kp6) Vp6 OA (pc := 48) (pc1 := 51) (Ls := Ls) (7 : Int32) 7 (by decide) (by decide) (Nat.le_of_ble_eq_true rfl) (by decide) [.ref u_SPAWNING, .ref u_IDLE, .ref u_RUNNING, .ref u_DEGRADED, .ref u_UNRESPONSIVE, .ref u_FAILED, .ref u_QUARANTINED, .ref u_TERMINATED] rfl (hb hby at_48) (fun _ q => XS.bipush Xp6.here hx rfl (hb hby at_49) q) (hb hby at_51) (hb hby at_54)
  have Kp7 : Keep h0 hp7 [] := Kp6.wr Wp7 (Or.inr sz_b)
  have Np7 := Fr.snoc Xp7 Np6 g_b
  refine ⟨Tp7, hp7, b, kA, _, Xp7, ep7, Kp7, Np7, Vp7, fun target ht => ?_⟩
  refine XS.bipush X0.here hx rfl (hb hby at_0) ?_
  refine stA _ ?_
  refine stp0 _ ?_
  refine stp1 _ ?_
  refine stp2 _ ?_
  refine stp3 _ ?_
  refine stp4 _ ?_
  refine stp5 _ ?_
  refine stp6 _ ?_
  refine stp7 _ ?_
  exact ht
theorem pn_0 : plainName "com/example/ouessant/ouessant/model/AgentStatusIsMarkedPinLaw" = true := by first | (simp [plainName, overriddenIn]; done) | decide +kernel
theorem pd0 : parseMethodDescriptor "()Z" = some ⟨[], some .boolean⟩ := by decide +kernel
theorem ef_0 (m : MethodId) (x0 : Int32) : entryFrame m #[(.int x0)] maxLocals = mkF m 0 #[.val (.int x0), .unset, .unset, .unset, .unset, .unset, .unset] [] := by first | (simp [entryFrame, mkF, argsToLocals, Value.category, maxLocals]; done) | rfl
set_option maxRecDepth 65536 in
set_option maxHeartbeats 40000000 in
theorem rm0A (l : Launch) (Z : State) (a0 : Array Value) (hw : ∀ d ∈ tables_1, d.before a0 Z = true) (ws : List Jvm.Cond) (p1 : Int32) (u_SPAWNING u_IDLE u_RUNNING u_DEGRADED u_UNRESPONSIVE u_FAILED u_QUARANTINED u_TERMINATED : Addr) (wr : Addr) (h0 : Heap) (n0 : Nat) (Z0 : n0 ≤ h0.size) (S_SPAWNING : Sta Z h0 "com/example/ouessant/ouessant/model/AgentStatus" "SPAWNING" "Lcom/example/ouessant/ouessant/model/AgentStatus;" (.ref u_SPAWNING)) (E_SPAWNING : Exa Z h0 u_SPAWNING "com/example/ouessant/ouessant/model/AgentStatus") (S_IDLE : Sta Z h0 "com/example/ouessant/ouessant/model/AgentStatus" "IDLE" "Lcom/example/ouessant/ouessant/model/AgentStatus;" (.ref u_IDLE)) (E_IDLE : Exa Z h0 u_IDLE "com/example/ouessant/ouessant/model/AgentStatus") (S_RUNNING : Sta Z h0 "com/example/ouessant/ouessant/model/AgentStatus" "RUNNING" "Lcom/example/ouessant/ouessant/model/AgentStatus;" (.ref u_RUNNING)) (E_RUNNING : Exa Z h0 u_RUNNING "com/example/ouessant/ouessant/model/AgentStatus") (S_DEGRADED : Sta Z h0 "com/example/ouessant/ouessant/model/AgentStatus" "DEGRADED" "Lcom/example/ouessant/ouessant/model/AgentStatus;" (.ref u_DEGRADED)) (E_DEGRADED : Exa Z h0 u_DEGRADED "com/example/ouessant/ouessant/model/AgentStatus") (S_UNRESPONSIVE : Sta Z h0 "com/example/ouessant/ouessant/model/AgentStatus" "UNRESPONSIVE" "Lcom/example/ouessant/ouessant/model/AgentStatus;" (.ref u_UNRESPONSIVE)) (E_UNRESPONSIVE : Exa Z h0 u_UNRESPONSIVE "com/example/ouessant/ouessant/model/AgentStatus") (S_FAILED : Sta Z h0 "com/example/ouessant/ouessant/model/AgentStatus" "FAILED" "Lcom/example/ouessant/ouessant/model/AgentStatus;" (.ref u_FAILED)) (E_FAILED : Exa Z h0 u_FAILED "com/example/ouessant/ouessant/model/AgentStatus") (S_QUARANTINED : Sta Z h0 "com/example/ouessant/ouessant/model/AgentStatus" "QUARANTINED" "Lcom/example/ouessant/ouessant/model/AgentStatus;" (.ref u_QUARANTINED)) (E_QUARANTINED : Exa Z h0 u_QUARANTINED "com/example/ouessant/ouessant/model/AgentStatus") (S_TERMINATED : Sta Z h0 "com/example/ouessant/ouessant/model/AgentStatus" "TERMINATED" "Lcom/example/ouessant/ouessant/model/AgentStatus;" (.ref u_TERMINATED)) (E_TERMINATED : Exa Z h0 u_TERMINATED "com/example/ouessant/ouessant/model/AgentStatus") (E_wr : Exa Z h0 wr "com/example/ouessant/ouessant/model/AgentStatus") (hj : ¬ ((p1 &&& (2147483647 : Int32)) % (8 : Int32)) < 0 ∧ ((p1 &&& (2147483647 : Int32)) % (8 : Int32)) < (8 : Int32)) (hget : ([.ref u_SPAWNING, .ref u_IDLE, .ref u_RUNNING, .ref u_DEGRADED, .ref u_UNRESPONSIVE, .ref u_FAILED, .ref u_QUARANTINED, .ref u_TERMINATED] : List Value).getD ((p1 &&& (2147483647 : Int32)) % (8 : Int32)).toNatClampNeg .null = .ref wr) (hC : ∀ h, Keep h0 h [] → n0 ≤ h.size → own_C1 l Z wr (some (.int (1 : Int32))) h n0) (hD : ∀ h, Keep h0 h [] → n0 ≤ h.size → own_C2 l Z wr (some (.int (1 : Int32))) h n0) (hc76 : ((p1 &&& (2147483647 : Int32)) % (8 : Int32)) = (4 : Int32)) (ha102 : ¬ (wr = u_TERMINATED)) :
    MetFree l x (head1 (Jvm.Cond.code x code maxLocals ret :: ws) room_1) (fun a U => a = #[(.int p1)] ∧ Z.Warmed39 U.vm ∧ U.heap = h0) (fun _ _ _ _ _ => True) (fun _ U o U' => ∃ v L, o = .returned v ∧ QL n0 v U'.heap L ∧ FrameEnd U o U' L room_1.cells room_1.slots) := by
  refine MetFree.of_bodySF (plainFor_of_name pn_0) hisR ?_
  intro p e s m args below meth c s₁ Bd hml0 hP hK
  obtain ⟨rfl, hZ, hh⟩ := hP
  have hx := Bd.exec
  have hby := Bd.bytes
  have hml : c.maxLocals = 7 := hml0
  have hown : s.vm.findClass "com/example/ouessant/ouessant/model/AgentStatusIsMarkedPinLaw" = some m.cls := findClass_of_methodNamed Bd.named
  have hnm := (name_of_methodNamed Bd.named Bd.method).1
  have X0 : Stand p l e room_1 s m #[(.int p1)] below meth c s₁ [] 0 0 := Stand.of_body Bd
  have e0 : s₁.heap = h0 := by rw [← hh, Bd.state]; rfl
  have N0 := Fr.nil n0
  have pre0 : ∀ t, Steps p.tables e below (s₁.setTop (mkF m 0 #[.val (.int p1), .unset, .unset, .unset, .unset, .unset, .unset] [])) t → Steps p.tables e below (s₁.setTop (entryFrame m #[(.int p1)] maxLocals)) t := fun t k => castTop (ef_0 m p1) k
  obtain ⟨TF, hF, b2, kF, locsF, XF, eF, KF, NF, VF, stF⟩ := own_fill hw X0 hx hZ hby hown e0 Z0 (#[.val (.int p1), .unset, .unset, .unset, .unset, .unset, .unset]) u_SPAWNING u_IDLE u_RUNNING u_DEGRADED u_UNRESPONSIVE u_FAILED u_QUARANTINED u_TERMINATED S_SPAWNING E_SPAWNING S_IDLE E_IDLE S_RUNNING E_RUNNING S_DEGRADED E_DEGRADED S_UNRESPONSIVE E_UNRESPONSIVE S_FAILED E_FAILED S_QUARANTINED E_QUARANTINED S_TERMINATED E_TERMINATED
  obtain ⟨cl_b2, Ar_b2, q_b2, Sz_b2, Nn_b2, H_b2, G_b2⟩ := VF
  have ZF : n0 ≤ hF.size := Nat.le_trans Z0 KF.1
  have hinF : ¬ (((p1 &&& (2147483647 : Int32)) % (8 : Int32)) < 0 ∨ cl_b2.slots.size ≤ ((p1 &&& (2147483647 : Int32)) % (8 : Int32)).toNatClampNeg) := inb_of Sz_b2 hj
  have hatF := Has.at H_b2 hinF hget
  obtain ⟨cq28, kq28, q28a, q28b, q28c⟩ := isOf hZ eF (E_wr.keep KF)
  obtain ⟨_, _, ⟨T28, L28, k28, n28⟩, -, X28, ⟨Lc28, hQ28, l28, y28, z28⟩, st28⟩ := XF.virtualBack hx (y := (⟨"com/example/ouessant/ouessant/model/AgentStatus", "isMarked", "()Z"⟩ : MethodName)) (z := (⟨"com/example/ouessant/ouessant/model/AgentStatus", "isMarked", "()Z"⟩ : MethodName)) hown (mvT hZ (hw _ (List.mem_of_getElem? (i := 21) rfl))) (mvT hZ (hw _ (List.mem_of_getElem? (i := 22) rfl))) (notFace_of_selects (args := #[]) (mvT hZ (hw _ (List.mem_of_getElem? (i := 24) rfl)))) (mvT hZ (hw _ (List.mem_of_getElem? (i := 24) rfl))) (mvT hZ (hw _ (List.mem_of_getElem? (i := 23) rfl))) (by decide) (backOf (W := 0) (hC hF KF ZF) hZ (hw _ (List.mem_of_getElem? (i := 25) rfl)) (hw _ (List.mem_of_getElem? (i := 3) rfl)) (by decide) (by decide)) q28a q28c (g := (mkF m 69 #[.val (.int p1), .val (.ref b2), .val (.int ((p1 &&& (2147483647 : Int32)) % (8 : Int32))), .val (.ref wr), .unset, .unset, .unset] [(.ref wr)])) rfl (by rw [hml]; rfl) (Steps.refl _) (argsL := []) (rest := []) (lenOf pd0 rfl) rfl (by show 2 * 0 + _ ≤ _; exact Nat.le_of_eq rfl) (hb hby at_69) (fun _ _ => ⟨rfl, eF, (by decide : 1 + 0 ≤ _), (by decide : 8 + 0 ≤ _)⟩)
  dsimp only [Pt.U, Pt.locs, Pt.cells, Pt.slots] at X28 l28 y28 z28 st28 hQ28
  subst l28 y28 z28
  obtain ⟨rfl, N28q, eQ28⟩ := hQ28
  have N28 := Fr.app NF N28q
  obtain ⟨cq29, kq29, q29a, q29b, q29c⟩ := isOf hZ eQ28 (E_wr.keep KF)
  obtain ⟨_, _, ⟨T29, L29, k29, n29⟩, -, X29, ⟨Lc29, hQ29, l29, y29, z29⟩, st29⟩ := X28.virtualBack hx (y := (⟨"com/example/ouessant/ouessant/model/AgentStatus", "isFenced", "()Z"⟩ : MethodName)) (z := (⟨"com/example/ouessant/ouessant/model/AgentStatus", "isFenced", "()Z"⟩ : MethodName)) hown (mvT hZ (hw _ (List.mem_of_getElem? (i := 28) rfl))) (mvT hZ (hw _ (List.mem_of_getElem? (i := 29) rfl))) (notFace_of_selects (args := #[]) (mvT hZ (hw _ (List.mem_of_getElem? (i := 31) rfl)))) (mvT hZ (hw _ (List.mem_of_getElem? (i := 31) rfl))) (mvT hZ (hw _ (List.mem_of_getElem? (i := 30) rfl))) (by decide) (backOf (W := 0) (hD hF KF ZF) hZ (hw _ (List.mem_of_getElem? (i := 32) rfl)) (hw _ (List.mem_of_getElem? (i := 3) rfl)) (by decide) (by decide)) q29a q29c (g := (mkF m 92 #[.val (.int p1), .val (.ref b2), .val (.int ((p1 &&& (2147483647 : Int32)) % (8 : Int32))), .val (.ref wr), .val (.int (1 : Int32)), .val (.int (1 : Int32)), .unset] [(.ref wr)])) rfl (by rw [hml]; rfl) (Steps.refl _) (argsL := []) (rest := []) (lenOf pd0 rfl) rfl (by show 2 * 0 + _ ≤ _; exact Nat.le_of_eq rfl) (hb hby at_92) (fun _ _ => ⟨rfl, eQ28, (by decide : 1 + 0 ≤ _), (by decide : 8 + 0 ≤ _)⟩)
  dsimp only [Pt.U, Pt.locs, Pt.cells, Pt.slots] at X29 l29 y29 z29 st29 hQ29
  subst l29 y29 z29
  obtain ⟨rfl, N29q, eQ29⟩ := hQ29
  have N29 := Fr.app N28 N29q
  obtain ⟨T30, X30, e30, st30⟩ := getS2 X29 hx hZ hown (host := "") (Or.inl (hw _ (List.mem_of_getElem? (i := 18) rfl))) Via.refl eQ29 (own_staK S_TERMINATED KF) (g := (mkF m 99 #[.val (.int p1), .val (.ref b2), .val (.int ((p1 &&& (2147483647 : Int32)) % (8 : Int32))), .val (.ref wr), .val (.int (1 : Int32)), .val (.int (1 : Int32)), .unset] [(.ref wr)])) rfl (hb hby at_99)
  obtain ⟨fs, hr, hrun, hended, hW, hsame⟩ := X30.leave (v := some (.int (1 : Int32))) (fun h => by rw [Bd.returns] at h; cases h)
  refine ⟨_, _, pre0 _ ?_, hrun, hended, _, _, rfl, ?_, ⟨_, rfl⟩, hW, hsame.mono (by decide) (by decide)⟩
  · show Steps p.tables e below (s₁.setTop (mkF m 0 #[.val (.int p1), .unset, .unset, .unset, .unset, .unset, .unset] [])) _
    refine stF _ ?_
    show Steps p.tables e below (TF.setTop (mkF m 55 #[.val (.int p1), .unset, .unset, .unset, .unset, .unset, .unset] [(.ref b2)])) _
    refine XS.astoreN XF.here hx rfl (hb hby at_55) rfl rfl (l' := #[.val (.int p1), .val (.ref b2), .unset, .unset, .unset, .unset, .unset]) rfl ?_
    show Steps p.tables e below (TF.setTop (mkF m 56 #[.val (.int p1), .val (.ref b2), .unset, .unset, .unset, .unset, .unset] [])) _
    refine XS.iloadN XF.here hx rfl (hb hby at_56) rfl ?_
    show Steps p.tables e below (TF.setTop (mkF m 57 #[.val (.int p1), .val (.ref b2), .unset, .unset, .unset, .unset, .unset] [(.int p1)])) _
    refine XF.ldcInt hx hown (mvT hZ (hw _ (List.mem_of_getElem? (i := 20) rfl))) (g := (mkF m 57 #[.val (.int p1), .val (.ref b2), .unset, .unset, .unset, .unset, .unset] [(.int p1)])) rfl (hb hby at_57) _ ?_
    show Steps p.tables e below (TF.setTop (mkF m 59 #[.val (.int p1), .val (.ref b2), .unset, .unset, .unset, .unset, .unset] [(.int (2147483647 : Int32)), (.int p1)])) _
    refine XS.iand XF.here hx rfl (hb hby at_59) rfl ?_
    show Steps p.tables e below (TF.setTop (mkF m 60 #[.val (.int p1), .val (.ref b2), .unset, .unset, .unset, .unset, .unset] [(.int (p1 &&& (2147483647 : Int32)))])) _
    refine XS.bipush XF.here hx rfl (hb hby at_60) ?_
    show Steps p.tables e below (TF.setTop (mkF m 62 #[.val (.int p1), .val (.ref b2), .unset, .unset, .unset, .unset, .unset] [(.int (8 : Int32)), (.int (p1 &&& (2147483647 : Int32)))])) _
    refine iremM XF hx rfl (hb hby at_62) rfl (by decide) ?_
    show Steps p.tables e below (TF.setTop (mkF m 63 #[.val (.int p1), .val (.ref b2), .unset, .unset, .unset, .unset, .unset] [(.int ((p1 &&& (2147483647 : Int32)) % (8 : Int32)))])) _
    refine XS.istoreN XF.here hx rfl (hb hby at_63) rfl (l' := #[.val (.int p1), .val (.ref b2), .val (.int ((p1 &&& (2147483647 : Int32)) % (8 : Int32))), .unset, .unset, .unset, .unset]) rfl ?_
    show Steps p.tables e below (TF.setTop (mkF m 64 #[.val (.int p1), .val (.ref b2), .val (.int ((p1 &&& (2147483647 : Int32)) % (8 : Int32))), .unset, .unset, .unset, .unset] [])) _
    refine XS.aloadN XF.here hx rfl (hb hby at_64) rfl rfl ?_
    show Steps p.tables e below (TF.setTop (mkF m 65 #[.val (.int p1), .val (.ref b2), .val (.int ((p1 &&& (2147483647 : Int32)) % (8 : Int32))), .unset, .unset, .unset, .unset] [(.ref b2)])) _
    refine XS.iloadN XF.here hx rfl (hb hby at_65) rfl ?_
    show Steps p.tables e below (TF.setTop (mkF m 66 #[.val (.int p1), .val (.ref b2), .val (.int ((p1 &&& (2147483647 : Int32)) % (8 : Int32))), .unset, .unset, .unset, .unset] [(.int ((p1 &&& (2147483647 : Int32)) % (8 : Int32))), (.ref b2)])) _
    refine XF.aaload hx (j := ((p1 &&& (2147483647 : Int32)) % (8 : Int32))) (v := (.ref wr)) (by rw [eF]; exact Ar_b2.1) (State.isArrayOf_alike hZ.alike Ar_b2.2.1) rfl Ar_b2.2.2 hinF hatF (g := (mkF m 66 #[.val (.int p1), .val (.ref b2), .val (.int ((p1 &&& (2147483647 : Int32)) % (8 : Int32))), .unset, .unset, .unset, .unset] [(.int ((p1 &&& (2147483647 : Int32)) % (8 : Int32))), (.ref b2)])) rfl rfl (hb hby at_66) _ ?_
    show Steps p.tables e below (TF.setTop (mkF m 67 #[.val (.int p1), .val (.ref b2), .val (.int ((p1 &&& (2147483647 : Int32)) % (8 : Int32))), .unset, .unset, .unset, .unset] [(.ref wr)])) _
    refine XS.astoreN XF.here hx rfl (hb hby at_67) rfl rfl (l' := #[.val (.int p1), .val (.ref b2), .val (.int ((p1 &&& (2147483647 : Int32)) % (8 : Int32))), .val (.ref wr), .unset, .unset, .unset]) rfl ?_
    show Steps p.tables e below (TF.setTop (mkF m 68 #[.val (.int p1), .val (.ref b2), .val (.int ((p1 &&& (2147483647 : Int32)) % (8 : Int32))), .val (.ref wr), .unset, .unset, .unset] [])) _
    refine XS.aloadN XF.here hx rfl (hb hby at_68) rfl rfl ?_
    show Steps p.tables e below (TF.setTop (mkF m 69 #[.val (.int p1), .val (.ref b2), .val (.int ((p1 &&& (2147483647 : Int32)) % (8 : Int32))), .val (.ref wr), .unset, .unset, .unset] [(.ref wr)])) _
    refine st28.trans ?_
    show Steps p.tables e below (T28.setTop (mkF m 72 #[.val (.int p1), .val (.ref b2), .val (.int ((p1 &&& (2147483647 : Int32)) % (8 : Int32))), .val (.ref wr), .unset, .unset, .unset] [(.int (1 : Int32))])) _
    refine XS.istore X28.here hx rfl (hb hby at_72) rfl (l' := #[.val (.int p1), .val (.ref b2), .val (.int ((p1 &&& (2147483647 : Int32)) % (8 : Int32))), .val (.ref wr), .val (.int (1 : Int32)), .unset, .unset]) rfl ?_
    show Steps p.tables e below (T28.setTop (mkF m 74 #[.val (.int p1), .val (.ref b2), .val (.int ((p1 &&& (2147483647 : Int32)) % (8 : Int32))), .val (.ref wr), .val (.int (1 : Int32)), .unset, .unset] [])) _
    refine XS.iloadN X28.here hx rfl (hb hby at_74) rfl ?_
    show Steps p.tables e below (T28.setTop (mkF m 75 #[.val (.int p1), .val (.ref b2), .val (.int ((p1 &&& (2147483647 : Int32)) % (8 : Int32))), .val (.ref wr), .val (.int (1 : Int32)), .unset, .unset] [(.int ((p1 &&& (2147483647 : Int32)) % (8 : Int32)))])) _
    refine XS.iconst X28.here hx rfl (hb hby at_75) ?_
    show Steps p.tables e below (T28.setTop (mkF m 76 #[.val (.int p1), .val (.ref b2), .val (.int ((p1 &&& (2147483647 : Int32)) % (8 : Int32))), .val (.ref wr), .val (.int (1 : Int32)), .unset, .unset] [(.int (4 : Int32)), (.int ((p1 &&& (2147483647 : Int32)) % (8 : Int32)))])) _
    refine XS.icmpYes X28.here hx rfl (pc0 := 76) (pc' := 84) rfl (hb hby at_76) rfl (teq hc76).1 (by decide) (by decide) ?_
    show Steps p.tables e below (T28.setTop (mkF m 84 #[.val (.int p1), .val (.ref b2), .val (.int ((p1 &&& (2147483647 : Int32)) % (8 : Int32))), .val (.ref wr), .val (.int (1 : Int32)), .unset, .unset] [])) _
    refine XS.iconst X28.here hx rfl (hb hby at_84) ?_
    show Steps p.tables e below (T28.setTop (mkF m 85 #[.val (.int p1), .val (.ref b2), .val (.int ((p1 &&& (2147483647 : Int32)) % (8 : Int32))), .val (.ref wr), .val (.int (1 : Int32)), .unset, .unset] [(.int (1 : Int32))])) _
    refine XS.goto X28.here hx rfl (pc0 := 85) (pc' := 89) rfl (hb hby at_85) (by decide) (by decide) ?_
    show Steps p.tables e below (T28.setTop (mkF m 89 #[.val (.int p1), .val (.ref b2), .val (.int ((p1 &&& (2147483647 : Int32)) % (8 : Int32))), .val (.ref wr), .val (.int (1 : Int32)), .unset, .unset] [(.int (1 : Int32))])) _
    refine XS.istore X28.here hx rfl (hb hby at_89) rfl (l' := #[.val (.int p1), .val (.ref b2), .val (.int ((p1 &&& (2147483647 : Int32)) % (8 : Int32))), .val (.ref wr), .val (.int (1 : Int32)), .val (.int (1 : Int32)), .unset]) rfl ?_
    show Steps p.tables e below (T28.setTop (mkF m 91 #[.val (.int p1), .val (.ref b2), .val (.int ((p1 &&& (2147483647 : Int32)) % (8 : Int32))), .val (.ref wr), .val (.int (1 : Int32)), .val (.int (1 : Int32)), .unset] [])) _
    refine XS.aloadN X28.here hx rfl (hb hby at_91) rfl rfl ?_
    show Steps p.tables e below (T28.setTop (mkF m 92 #[.val (.int p1), .val (.ref b2), .val (.int ((p1 &&& (2147483647 : Int32)) % (8 : Int32))), .val (.ref wr), .val (.int (1 : Int32)), .val (.int (1 : Int32)), .unset] [(.ref wr)])) _
    refine st29.trans ?_
    show Steps p.tables e below (T29.setTop (mkF m 95 #[.val (.int p1), .val (.ref b2), .val (.int ((p1 &&& (2147483647 : Int32)) % (8 : Int32))), .val (.ref wr), .val (.int (1 : Int32)), .val (.int (1 : Int32)), .unset] [(.int (1 : Int32))])) _
    refine XS.ifNo X29.here hx rfl (hb hby at_95) rfl ((if0 _ _).trans (feq ((by decide) : ¬ ((1 : Int32) = (0 : Int32)))).1) ?_
    show Steps p.tables e below (T29.setTop (mkF m 98 #[.val (.int p1), .val (.ref b2), .val (.int ((p1 &&& (2147483647 : Int32)) % (8 : Int32))), .val (.ref wr), .val (.int (1 : Int32)), .val (.int (1 : Int32)), .unset] [])) _
    refine XS.aloadN X29.here hx rfl (hb hby at_98) rfl rfl ?_
    show Steps p.tables e below (T29.setTop (mkF m 99 #[.val (.int p1), .val (.ref b2), .val (.int ((p1 &&& (2147483647 : Int32)) % (8 : Int32))), .val (.ref wr), .val (.int (1 : Int32)), .val (.int (1 : Int32)), .unset] [(.ref wr)])) _
    refine st30 _ ?_
    show Steps p.tables e below (T30.setTop (mkF m 102 #[.val (.int p1), .val (.ref b2), .val (.int ((p1 &&& (2147483647 : Int32)) % (8 : Int32))), .val (.ref wr), .val (.int (1 : Int32)), .val (.int (1 : Int32)), .unset] [(.ref u_TERMINATED), (.ref wr)])) _
    refine Jvm.RoadKit.acmp (g := (mkF m 102 #[.val (.int p1), .val (.ref b2), .val (.int ((p1 &&& (2147483647 : Int32)) % (8 : Int32))), .val (.ref wr), .val (.int (1 : Int32)), .val (.int (1 : Int32)), .unset] [(.ref u_TERMINATED), (.ref wr)])) X30 hx rfl rfl rfl (pc0 := 102) (pc' := 105) (same := false) rfl (hb hby at_102) rfl (decide_eq_false fun q => ha102 (Value.ref.inj q)) (by decide) (by decide) ?_
    show Steps p.tables e below (T30.setTop (mkF m 105 #[.val (.int p1), .val (.ref b2), .val (.int ((p1 &&& (2147483647 : Int32)) % (8 : Int32))), .val (.ref wr), .val (.int (1 : Int32)), .val (.int (1 : Int32)), .unset] [])) _
    refine XS.iconst X30.here hx rfl (hb hby at_105) ?_
    show Steps p.tables e below (T30.setTop (mkF m 106 #[.val (.int p1), .val (.ref b2), .val (.int ((p1 &&& (2147483647 : Int32)) % (8 : Int32))), .val (.ref wr), .val (.int (1 : Int32)), .val (.int (1 : Int32)), .unset] [(.int (1 : Int32))])) _
    refine XS.goto X30.here hx rfl (pc0 := 106) (pc' := 110) rfl (hb hby at_106) (by decide) (by decide) ?_
    show Steps p.tables e below (T30.setTop (mkF m 110 #[.val (.int p1), .val (.ref b2), .val (.int ((p1 &&& (2147483647 : Int32)) % (8 : Int32))), .val (.ref wr), .val (.int (1 : Int32)), .val (.int (1 : Int32)), .unset] [(.int (1 : Int32))])) _
    refine XS.istore X30.here hx rfl (hb hby at_110) rfl (l' := #[.val (.int p1), .val (.ref b2), .val (.int ((p1 &&& (2147483647 : Int32)) % (8 : Int32))), .val (.ref wr), .val (.int (1 : Int32)), .val (.int (1 : Int32)), .val (.int (1 : Int32))]) rfl ?_
    show Steps p.tables e below (T30.setTop (mkF m 112 #[.val (.int p1), .val (.ref b2), .val (.int ((p1 &&& (2147483647 : Int32)) % (8 : Int32))), .val (.ref wr), .val (.int (1 : Int32)), .val (.int (1 : Int32)), .val (.int (1 : Int32))] [])) _
    refine XS.iload X30.here hx rfl (hb hby at_112) rfl ?_
    show Steps p.tables e below (T30.setTop (mkF m 114 #[.val (.int p1), .val (.ref b2), .val (.int ((p1 &&& (2147483647 : Int32)) % (8 : Int32))), .val (.ref wr), .val (.int (1 : Int32)), .val (.int (1 : Int32)), .val (.int (1 : Int32))] [(.int (1 : Int32))])) _
    refine XS.iload X30.here hx rfl (hb hby at_114) rfl ?_
    show Steps p.tables e below (T30.setTop (mkF m 116 #[.val (.int p1), .val (.ref b2), .val (.int ((p1 &&& (2147483647 : Int32)) % (8 : Int32))), .val (.ref wr), .val (.int (1 : Int32)), .val (.int (1 : Int32)), .val (.int (1 : Int32))] [(.int (1 : Int32)), (.int (1 : Int32))])) _
    refine XS.icmpNo X30.here hx rfl (hb hby at_116) rfl (teq (rfl : (1 : Int32) = (1 : Int32))).2 ?_
    show Steps p.tables e below (T30.setTop (mkF m 119 #[.val (.int p1), .val (.ref b2), .val (.int ((p1 &&& (2147483647 : Int32)) % (8 : Int32))), .val (.ref wr), .val (.int (1 : Int32)), .val (.int (1 : Int32)), .val (.int (1 : Int32))] [])) _
    refine XS.iload X30.here hx rfl (hb hby at_119) rfl ?_
    show Steps p.tables e below (T30.setTop (mkF m 121 #[.val (.int p1), .val (.ref b2), .val (.int ((p1 &&& (2147483647 : Int32)) % (8 : Int32))), .val (.ref wr), .val (.int (1 : Int32)), .val (.int (1 : Int32)), .val (.int (1 : Int32))] [(.int (1 : Int32))])) _
    refine XS.iload X30.here hx rfl (hb hby at_121) rfl ?_
    show Steps p.tables e below (T30.setTop (mkF m 123 #[.val (.int p1), .val (.ref b2), .val (.int ((p1 &&& (2147483647 : Int32)) % (8 : Int32))), .val (.ref wr), .val (.int (1 : Int32)), .val (.int (1 : Int32)), .val (.int (1 : Int32))] [(.int (1 : Int32)), (.int (1 : Int32))])) _
    refine XS.icmpNo X30.here hx rfl (hb hby at_123) rfl (teq (rfl : (1 : Int32) = (1 : Int32))).2 ?_
    show Steps p.tables e below (T30.setTop (mkF m 126 #[.val (.int p1), .val (.ref b2), .val (.int ((p1 &&& (2147483647 : Int32)) % (8 : Int32))), .val (.ref wr), .val (.int (1 : Int32)), .val (.int (1 : Int32)), .val (.int (1 : Int32))] [])) _
    refine XS.iconst X30.here hx rfl (hb hby at_126) ?_
    show Steps p.tables e below (T30.setTop (mkF m 127 #[.val (.int p1), .val (.ref b2), .val (.int ((p1 &&& (2147483647 : Int32)) % (8 : Int32))), .val (.ref wr), .val (.int (1 : Int32)), .val (.int (1 : Int32)), .val (.int (1 : Int32))] [(.int (1 : Int32))])) _
    refine XS.goto X30.here hx rfl (pc0 := 127) (pc' := 131) rfl (hb hby at_127) (by decide) (by decide) ?_
    show Steps p.tables e below (T30.setTop (mkF m 131 #[.val (.int p1), .val (.ref b2), .val (.int ((p1 &&& (2147483647 : Int32)) % (8 : Int32))), .val (.ref wr), .val (.int (1 : Int32)), .val (.int (1 : Int32)), .val (.int (1 : Int32))] [(.int (1 : Int32))])) _
    exact retN X30 hx (t := .boolean) Bd.returns (by simp) (hb hby at_131) hr
  · show QL n0 _ T30.heap _
    rw [e30]
    exact ⟨rfl, N29⟩
set_option maxRecDepth 65536 in
set_option maxHeartbeats 40000000 in
theorem rm0B (l : Launch) (Z : State) (a0 : Array Value) (hw : ∀ d ∈ tables_1, d.before a0 Z = true) (ws : List Jvm.Cond) (p1 : Int32) (u_SPAWNING u_IDLE u_RUNNING u_DEGRADED u_UNRESPONSIVE u_FAILED u_QUARANTINED u_TERMINATED : Addr) (wr : Addr) (h0 : Heap) (n0 : Nat) (Z0 : n0 ≤ h0.size) (S_SPAWNING : Sta Z h0 "com/example/ouessant/ouessant/model/AgentStatus" "SPAWNING" "Lcom/example/ouessant/ouessant/model/AgentStatus;" (.ref u_SPAWNING)) (E_SPAWNING : Exa Z h0 u_SPAWNING "com/example/ouessant/ouessant/model/AgentStatus") (S_IDLE : Sta Z h0 "com/example/ouessant/ouessant/model/AgentStatus" "IDLE" "Lcom/example/ouessant/ouessant/model/AgentStatus;" (.ref u_IDLE)) (E_IDLE : Exa Z h0 u_IDLE "com/example/ouessant/ouessant/model/AgentStatus") (S_RUNNING : Sta Z h0 "com/example/ouessant/ouessant/model/AgentStatus" "RUNNING" "Lcom/example/ouessant/ouessant/model/AgentStatus;" (.ref u_RUNNING)) (E_RUNNING : Exa Z h0 u_RUNNING "com/example/ouessant/ouessant/model/AgentStatus") (S_DEGRADED : Sta Z h0 "com/example/ouessant/ouessant/model/AgentStatus" "DEGRADED" "Lcom/example/ouessant/ouessant/model/AgentStatus;" (.ref u_DEGRADED)) (E_DEGRADED : Exa Z h0 u_DEGRADED "com/example/ouessant/ouessant/model/AgentStatus") (S_UNRESPONSIVE : Sta Z h0 "com/example/ouessant/ouessant/model/AgentStatus" "UNRESPONSIVE" "Lcom/example/ouessant/ouessant/model/AgentStatus;" (.ref u_UNRESPONSIVE)) (E_UNRESPONSIVE : Exa Z h0 u_UNRESPONSIVE "com/example/ouessant/ouessant/model/AgentStatus") (S_FAILED : Sta Z h0 "com/example/ouessant/ouessant/model/AgentStatus" "FAILED" "Lcom/example/ouessant/ouessant/model/AgentStatus;" (.ref u_FAILED)) (E_FAILED : Exa Z h0 u_FAILED "com/example/ouessant/ouessant/model/AgentStatus") (S_QUARANTINED : Sta Z h0 "com/example/ouessant/ouessant/model/AgentStatus" "QUARANTINED" "Lcom/example/ouessant/ouessant/model/AgentStatus;" (.ref u_QUARANTINED)) (E_QUARANTINED : Exa Z h0 u_QUARANTINED "com/example/ouessant/ouessant/model/AgentStatus") (S_TERMINATED : Sta Z h0 "com/example/ouessant/ouessant/model/AgentStatus" "TERMINATED" "Lcom/example/ouessant/ouessant/model/AgentStatus;" (.ref u_TERMINATED)) (E_TERMINATED : Exa Z h0 u_TERMINATED "com/example/ouessant/ouessant/model/AgentStatus") (E_wr : Exa Z h0 wr "com/example/ouessant/ouessant/model/AgentStatus") (hj : ¬ ((p1 &&& (2147483647 : Int32)) % (8 : Int32)) < 0 ∧ ((p1 &&& (2147483647 : Int32)) % (8 : Int32)) < (8 : Int32)) (hget : ([.ref u_SPAWNING, .ref u_IDLE, .ref u_RUNNING, .ref u_DEGRADED, .ref u_UNRESPONSIVE, .ref u_FAILED, .ref u_QUARANTINED, .ref u_TERMINATED] : List Value).getD ((p1 &&& (2147483647 : Int32)) % (8 : Int32)).toNatClampNeg .null = .ref wr) (hC : ∀ h, Keep h0 h [] → n0 ≤ h.size → own_C1 l Z wr (some (.int (1 : Int32))) h n0) (hD : ∀ h, Keep h0 h [] → n0 ≤ h.size → own_C2 l Z wr (some (.int (1 : Int32))) h n0) (hc76 : ¬ (((p1 &&& (2147483647 : Int32)) % (8 : Int32)) = (4 : Int32))) (hc81 : ((p1 &&& (2147483647 : Int32)) % (8 : Int32)) = (5 : Int32)) (ha102 : ¬ (wr = u_TERMINATED)) :
    MetFree l x (head1 (Jvm.Cond.code x code maxLocals ret :: ws) room_1) (fun a U => a = #[(.int p1)] ∧ Z.Warmed39 U.vm ∧ U.heap = h0) (fun _ _ _ _ _ => True) (fun _ U o U' => ∃ v L, o = .returned v ∧ QL n0 v U'.heap L ∧ FrameEnd U o U' L room_1.cells room_1.slots) := by
  refine MetFree.of_bodySF (plainFor_of_name pn_0) hisR ?_
  intro p e s m args below meth c s₁ Bd hml0 hP hK
  obtain ⟨rfl, hZ, hh⟩ := hP
  have hx := Bd.exec
  have hby := Bd.bytes
  have hml : c.maxLocals = 7 := hml0
  have hown : s.vm.findClass "com/example/ouessant/ouessant/model/AgentStatusIsMarkedPinLaw" = some m.cls := findClass_of_methodNamed Bd.named
  have hnm := (name_of_methodNamed Bd.named Bd.method).1
  have X0 : Stand p l e room_1 s m #[(.int p1)] below meth c s₁ [] 0 0 := Stand.of_body Bd
  have e0 : s₁.heap = h0 := by rw [← hh, Bd.state]; rfl
  have N0 := Fr.nil n0
  have pre0 : ∀ t, Steps p.tables e below (s₁.setTop (mkF m 0 #[.val (.int p1), .unset, .unset, .unset, .unset, .unset, .unset] [])) t → Steps p.tables e below (s₁.setTop (entryFrame m #[(.int p1)] maxLocals)) t := fun t k => castTop (ef_0 m p1) k
  obtain ⟨TF, hF, b2, kF, locsF, XF, eF, KF, NF, VF, stF⟩ := own_fill hw X0 hx hZ hby hown e0 Z0 (#[.val (.int p1), .unset, .unset, .unset, .unset, .unset, .unset]) u_SPAWNING u_IDLE u_RUNNING u_DEGRADED u_UNRESPONSIVE u_FAILED u_QUARANTINED u_TERMINATED S_SPAWNING E_SPAWNING S_IDLE E_IDLE S_RUNNING E_RUNNING S_DEGRADED E_DEGRADED S_UNRESPONSIVE E_UNRESPONSIVE S_FAILED E_FAILED S_QUARANTINED E_QUARANTINED S_TERMINATED E_TERMINATED
  obtain ⟨cl_b2, Ar_b2, q_b2, Sz_b2, Nn_b2, H_b2, G_b2⟩ := VF
  have ZF : n0 ≤ hF.size := Nat.le_trans Z0 KF.1
  have hinF : ¬ (((p1 &&& (2147483647 : Int32)) % (8 : Int32)) < 0 ∨ cl_b2.slots.size ≤ ((p1 &&& (2147483647 : Int32)) % (8 : Int32)).toNatClampNeg) := inb_of Sz_b2 hj
  have hatF := Has.at H_b2 hinF hget
  obtain ⟨cq28, kq28, q28a, q28b, q28c⟩ := isOf hZ eF (E_wr.keep KF)
  obtain ⟨_, _, ⟨T28, L28, k28, n28⟩, -, X28, ⟨Lc28, hQ28, l28, y28, z28⟩, st28⟩ := XF.virtualBack hx (y := (⟨"com/example/ouessant/ouessant/model/AgentStatus", "isMarked", "()Z"⟩ : MethodName)) (z := (⟨"com/example/ouessant/ouessant/model/AgentStatus", "isMarked", "()Z"⟩ : MethodName)) hown (mvT hZ (hw _ (List.mem_of_getElem? (i := 21) rfl))) (mvT hZ (hw _ (List.mem_of_getElem? (i := 22) rfl))) (notFace_of_selects (args := #[]) (mvT hZ (hw _ (List.mem_of_getElem? (i := 24) rfl)))) (mvT hZ (hw _ (List.mem_of_getElem? (i := 24) rfl))) (mvT hZ (hw _ (List.mem_of_getElem? (i := 23) rfl))) (by decide) (backOf (W := 0) (hC hF KF ZF) hZ (hw _ (List.mem_of_getElem? (i := 25) rfl)) (hw _ (List.mem_of_getElem? (i := 3) rfl)) (by decide) (by decide)) q28a q28c (g := (mkF m 69 #[.val (.int p1), .val (.ref b2), .val (.int ((p1 &&& (2147483647 : Int32)) % (8 : Int32))), .val (.ref wr), .unset, .unset, .unset] [(.ref wr)])) rfl (by rw [hml]; rfl) (Steps.refl _) (argsL := []) (rest := []) (lenOf pd0 rfl) rfl (by show 2 * 0 + _ ≤ _; exact Nat.le_of_eq rfl) (hb hby at_69) (fun _ _ => ⟨rfl, eF, (by decide : 1 + 0 ≤ _), (by decide : 8 + 0 ≤ _)⟩)
  dsimp only [Pt.U, Pt.locs, Pt.cells, Pt.slots] at X28 l28 y28 z28 st28 hQ28
  subst l28 y28 z28
  obtain ⟨rfl, N28q, eQ28⟩ := hQ28
  have N28 := Fr.app NF N28q
  obtain ⟨cq29, kq29, q29a, q29b, q29c⟩ := isOf hZ eQ28 (E_wr.keep KF)
  obtain ⟨_, _, ⟨T29, L29, k29, n29⟩, -, X29, ⟨Lc29, hQ29, l29, y29, z29⟩, st29⟩ := X28.virtualBack hx (y := (⟨"com/example/ouessant/ouessant/model/AgentStatus", "isFenced", "()Z"⟩ : MethodName)) (z := (⟨"com/example/ouessant/ouessant/model/AgentStatus", "isFenced", "()Z"⟩ : MethodName)) hown (mvT hZ (hw _ (List.mem_of_getElem? (i := 28) rfl))) (mvT hZ (hw _ (List.mem_of_getElem? (i := 29) rfl))) (notFace_of_selects (args := #[]) (mvT hZ (hw _ (List.mem_of_getElem? (i := 31) rfl)))) (mvT hZ (hw _ (List.mem_of_getElem? (i := 31) rfl))) (mvT hZ (hw _ (List.mem_of_getElem? (i := 30) rfl))) (by decide) (backOf (W := 0) (hD hF KF ZF) hZ (hw _ (List.mem_of_getElem? (i := 32) rfl)) (hw _ (List.mem_of_getElem? (i := 3) rfl)) (by decide) (by decide)) q29a q29c (g := (mkF m 92 #[.val (.int p1), .val (.ref b2), .val (.int ((p1 &&& (2147483647 : Int32)) % (8 : Int32))), .val (.ref wr), .val (.int (1 : Int32)), .val (.int (1 : Int32)), .unset] [(.ref wr)])) rfl (by rw [hml]; rfl) (Steps.refl _) (argsL := []) (rest := []) (lenOf pd0 rfl) rfl (by show 2 * 0 + _ ≤ _; exact Nat.le_of_eq rfl) (hb hby at_92) (fun _ _ => ⟨rfl, eQ28, (by decide : 1 + 0 ≤ _), (by decide : 8 + 0 ≤ _)⟩)
  dsimp only [Pt.U, Pt.locs, Pt.cells, Pt.slots] at X29 l29 y29 z29 st29 hQ29
  subst l29 y29 z29
  obtain ⟨rfl, N29q, eQ29⟩ := hQ29
  have N29 := Fr.app N28 N29q
  obtain ⟨T30, X30, e30, st30⟩ := getS2 X29 hx hZ hown (host := "") (Or.inl (hw _ (List.mem_of_getElem? (i := 18) rfl))) Via.refl eQ29 (own_staK S_TERMINATED KF) (g := (mkF m 99 #[.val (.int p1), .val (.ref b2), .val (.int ((p1 &&& (2147483647 : Int32)) % (8 : Int32))), .val (.ref wr), .val (.int (1 : Int32)), .val (.int (1 : Int32)), .unset] [(.ref wr)])) rfl (hb hby at_99)
  obtain ⟨fs, hr, hrun, hended, hW, hsame⟩ := X30.leave (v := some (.int (1 : Int32))) (fun h => by rw [Bd.returns] at h; cases h)
  refine ⟨_, _, pre0 _ ?_, hrun, hended, _, _, rfl, ?_, ⟨_, rfl⟩, hW, hsame.mono (by decide) (by decide)⟩
  · show Steps p.tables e below (s₁.setTop (mkF m 0 #[.val (.int p1), .unset, .unset, .unset, .unset, .unset, .unset] [])) _
    refine stF _ ?_
    show Steps p.tables e below (TF.setTop (mkF m 55 #[.val (.int p1), .unset, .unset, .unset, .unset, .unset, .unset] [(.ref b2)])) _
    refine XS.astoreN XF.here hx rfl (hb hby at_55) rfl rfl (l' := #[.val (.int p1), .val (.ref b2), .unset, .unset, .unset, .unset, .unset]) rfl ?_
    show Steps p.tables e below (TF.setTop (mkF m 56 #[.val (.int p1), .val (.ref b2), .unset, .unset, .unset, .unset, .unset] [])) _
    refine XS.iloadN XF.here hx rfl (hb hby at_56) rfl ?_
    show Steps p.tables e below (TF.setTop (mkF m 57 #[.val (.int p1), .val (.ref b2), .unset, .unset, .unset, .unset, .unset] [(.int p1)])) _
    refine XF.ldcInt hx hown (mvT hZ (hw _ (List.mem_of_getElem? (i := 20) rfl))) (g := (mkF m 57 #[.val (.int p1), .val (.ref b2), .unset, .unset, .unset, .unset, .unset] [(.int p1)])) rfl (hb hby at_57) _ ?_
    show Steps p.tables e below (TF.setTop (mkF m 59 #[.val (.int p1), .val (.ref b2), .unset, .unset, .unset, .unset, .unset] [(.int (2147483647 : Int32)), (.int p1)])) _
    refine XS.iand XF.here hx rfl (hb hby at_59) rfl ?_
    show Steps p.tables e below (TF.setTop (mkF m 60 #[.val (.int p1), .val (.ref b2), .unset, .unset, .unset, .unset, .unset] [(.int (p1 &&& (2147483647 : Int32)))])) _
    refine XS.bipush XF.here hx rfl (hb hby at_60) ?_
    show Steps p.tables e below (TF.setTop (mkF m 62 #[.val (.int p1), .val (.ref b2), .unset, .unset, .unset, .unset, .unset] [(.int (8 : Int32)), (.int (p1 &&& (2147483647 : Int32)))])) _
    refine iremM XF hx rfl (hb hby at_62) rfl (by decide) ?_
    show Steps p.tables e below (TF.setTop (mkF m 63 #[.val (.int p1), .val (.ref b2), .unset, .unset, .unset, .unset, .unset] [(.int ((p1 &&& (2147483647 : Int32)) % (8 : Int32)))])) _
    refine XS.istoreN XF.here hx rfl (hb hby at_63) rfl (l' := #[.val (.int p1), .val (.ref b2), .val (.int ((p1 &&& (2147483647 : Int32)) % (8 : Int32))), .unset, .unset, .unset, .unset]) rfl ?_
    show Steps p.tables e below (TF.setTop (mkF m 64 #[.val (.int p1), .val (.ref b2), .val (.int ((p1 &&& (2147483647 : Int32)) % (8 : Int32))), .unset, .unset, .unset, .unset] [])) _
    refine XS.aloadN XF.here hx rfl (hb hby at_64) rfl rfl ?_
    show Steps p.tables e below (TF.setTop (mkF m 65 #[.val (.int p1), .val (.ref b2), .val (.int ((p1 &&& (2147483647 : Int32)) % (8 : Int32))), .unset, .unset, .unset, .unset] [(.ref b2)])) _
    refine XS.iloadN XF.here hx rfl (hb hby at_65) rfl ?_
    show Steps p.tables e below (TF.setTop (mkF m 66 #[.val (.int p1), .val (.ref b2), .val (.int ((p1 &&& (2147483647 : Int32)) % (8 : Int32))), .unset, .unset, .unset, .unset] [(.int ((p1 &&& (2147483647 : Int32)) % (8 : Int32))), (.ref b2)])) _
    refine XF.aaload hx (j := ((p1 &&& (2147483647 : Int32)) % (8 : Int32))) (v := (.ref wr)) (by rw [eF]; exact Ar_b2.1) (State.isArrayOf_alike hZ.alike Ar_b2.2.1) rfl Ar_b2.2.2 hinF hatF (g := (mkF m 66 #[.val (.int p1), .val (.ref b2), .val (.int ((p1 &&& (2147483647 : Int32)) % (8 : Int32))), .unset, .unset, .unset, .unset] [(.int ((p1 &&& (2147483647 : Int32)) % (8 : Int32))), (.ref b2)])) rfl rfl (hb hby at_66) _ ?_
    show Steps p.tables e below (TF.setTop (mkF m 67 #[.val (.int p1), .val (.ref b2), .val (.int ((p1 &&& (2147483647 : Int32)) % (8 : Int32))), .unset, .unset, .unset, .unset] [(.ref wr)])) _
    refine XS.astoreN XF.here hx rfl (hb hby at_67) rfl rfl (l' := #[.val (.int p1), .val (.ref b2), .val (.int ((p1 &&& (2147483647 : Int32)) % (8 : Int32))), .val (.ref wr), .unset, .unset, .unset]) rfl ?_
    show Steps p.tables e below (TF.setTop (mkF m 68 #[.val (.int p1), .val (.ref b2), .val (.int ((p1 &&& (2147483647 : Int32)) % (8 : Int32))), .val (.ref wr), .unset, .unset, .unset] [])) _
    refine XS.aloadN XF.here hx rfl (hb hby at_68) rfl rfl ?_
    show Steps p.tables e below (TF.setTop (mkF m 69 #[.val (.int p1), .val (.ref b2), .val (.int ((p1 &&& (2147483647 : Int32)) % (8 : Int32))), .val (.ref wr), .unset, .unset, .unset] [(.ref wr)])) _
    refine st28.trans ?_
    show Steps p.tables e below (T28.setTop (mkF m 72 #[.val (.int p1), .val (.ref b2), .val (.int ((p1 &&& (2147483647 : Int32)) % (8 : Int32))), .val (.ref wr), .unset, .unset, .unset] [(.int (1 : Int32))])) _
    refine XS.istore X28.here hx rfl (hb hby at_72) rfl (l' := #[.val (.int p1), .val (.ref b2), .val (.int ((p1 &&& (2147483647 : Int32)) % (8 : Int32))), .val (.ref wr), .val (.int (1 : Int32)), .unset, .unset]) rfl ?_
    show Steps p.tables e below (T28.setTop (mkF m 74 #[.val (.int p1), .val (.ref b2), .val (.int ((p1 &&& (2147483647 : Int32)) % (8 : Int32))), .val (.ref wr), .val (.int (1 : Int32)), .unset, .unset] [])) _
    refine XS.iloadN X28.here hx rfl (hb hby at_74) rfl ?_
    show Steps p.tables e below (T28.setTop (mkF m 75 #[.val (.int p1), .val (.ref b2), .val (.int ((p1 &&& (2147483647 : Int32)) % (8 : Int32))), .val (.ref wr), .val (.int (1 : Int32)), .unset, .unset] [(.int ((p1 &&& (2147483647 : Int32)) % (8 : Int32)))])) _
    refine XS.iconst X28.here hx rfl (hb hby at_75) ?_
    show Steps p.tables e below (T28.setTop (mkF m 76 #[.val (.int p1), .val (.ref b2), .val (.int ((p1 &&& (2147483647 : Int32)) % (8 : Int32))), .val (.ref wr), .val (.int (1 : Int32)), .unset, .unset] [(.int (4 : Int32)), (.int ((p1 &&& (2147483647 : Int32)) % (8 : Int32)))])) _
    refine XS.icmpNo X28.here hx rfl (hb hby at_76) rfl (feq hc76).1 ?_
    show Steps p.tables e below (T28.setTop (mkF m 79 #[.val (.int p1), .val (.ref b2), .val (.int ((p1 &&& (2147483647 : Int32)) % (8 : Int32))), .val (.ref wr), .val (.int (1 : Int32)), .unset, .unset] [])) _
    refine XS.iloadN X28.here hx rfl (hb hby at_79) rfl ?_
    show Steps p.tables e below (T28.setTop (mkF m 80 #[.val (.int p1), .val (.ref b2), .val (.int ((p1 &&& (2147483647 : Int32)) % (8 : Int32))), .val (.ref wr), .val (.int (1 : Int32)), .unset, .unset] [(.int ((p1 &&& (2147483647 : Int32)) % (8 : Int32)))])) _
    refine XS.iconst X28.here hx rfl (hb hby at_80) ?_
    show Steps p.tables e below (T28.setTop (mkF m 81 #[.val (.int p1), .val (.ref b2), .val (.int ((p1 &&& (2147483647 : Int32)) % (8 : Int32))), .val (.ref wr), .val (.int (1 : Int32)), .unset, .unset] [(.int (5 : Int32)), (.int ((p1 &&& (2147483647 : Int32)) % (8 : Int32)))])) _
    refine XS.icmpNo X28.here hx rfl (hb hby at_81) rfl (teq hc81).2 ?_
    show Steps p.tables e below (T28.setTop (mkF m 84 #[.val (.int p1), .val (.ref b2), .val (.int ((p1 &&& (2147483647 : Int32)) % (8 : Int32))), .val (.ref wr), .val (.int (1 : Int32)), .unset, .unset] [])) _
    refine XS.iconst X28.here hx rfl (hb hby at_84) ?_
    show Steps p.tables e below (T28.setTop (mkF m 85 #[.val (.int p1), .val (.ref b2), .val (.int ((p1 &&& (2147483647 : Int32)) % (8 : Int32))), .val (.ref wr), .val (.int (1 : Int32)), .unset, .unset] [(.int (1 : Int32))])) _
    refine XS.goto X28.here hx rfl (pc0 := 85) (pc' := 89) rfl (hb hby at_85) (by decide) (by decide) ?_
    show Steps p.tables e below (T28.setTop (mkF m 89 #[.val (.int p1), .val (.ref b2), .val (.int ((p1 &&& (2147483647 : Int32)) % (8 : Int32))), .val (.ref wr), .val (.int (1 : Int32)), .unset, .unset] [(.int (1 : Int32))])) _
    refine XS.istore X28.here hx rfl (hb hby at_89) rfl (l' := #[.val (.int p1), .val (.ref b2), .val (.int ((p1 &&& (2147483647 : Int32)) % (8 : Int32))), .val (.ref wr), .val (.int (1 : Int32)), .val (.int (1 : Int32)), .unset]) rfl ?_
    show Steps p.tables e below (T28.setTop (mkF m 91 #[.val (.int p1), .val (.ref b2), .val (.int ((p1 &&& (2147483647 : Int32)) % (8 : Int32))), .val (.ref wr), .val (.int (1 : Int32)), .val (.int (1 : Int32)), .unset] [])) _
    refine XS.aloadN X28.here hx rfl (hb hby at_91) rfl rfl ?_
    show Steps p.tables e below (T28.setTop (mkF m 92 #[.val (.int p1), .val (.ref b2), .val (.int ((p1 &&& (2147483647 : Int32)) % (8 : Int32))), .val (.ref wr), .val (.int (1 : Int32)), .val (.int (1 : Int32)), .unset] [(.ref wr)])) _
    refine st29.trans ?_
    show Steps p.tables e below (T29.setTop (mkF m 95 #[.val (.int p1), .val (.ref b2), .val (.int ((p1 &&& (2147483647 : Int32)) % (8 : Int32))), .val (.ref wr), .val (.int (1 : Int32)), .val (.int (1 : Int32)), .unset] [(.int (1 : Int32))])) _
    refine XS.ifNo X29.here hx rfl (hb hby at_95) rfl ((if0 _ _).trans (feq ((by decide) : ¬ ((1 : Int32) = (0 : Int32)))).1) ?_
    show Steps p.tables e below (T29.setTop (mkF m 98 #[.val (.int p1), .val (.ref b2), .val (.int ((p1 &&& (2147483647 : Int32)) % (8 : Int32))), .val (.ref wr), .val (.int (1 : Int32)), .val (.int (1 : Int32)), .unset] [])) _
    refine XS.aloadN X29.here hx rfl (hb hby at_98) rfl rfl ?_
    show Steps p.tables e below (T29.setTop (mkF m 99 #[.val (.int p1), .val (.ref b2), .val (.int ((p1 &&& (2147483647 : Int32)) % (8 : Int32))), .val (.ref wr), .val (.int (1 : Int32)), .val (.int (1 : Int32)), .unset] [(.ref wr)])) _
    refine st30 _ ?_
    show Steps p.tables e below (T30.setTop (mkF m 102 #[.val (.int p1), .val (.ref b2), .val (.int ((p1 &&& (2147483647 : Int32)) % (8 : Int32))), .val (.ref wr), .val (.int (1 : Int32)), .val (.int (1 : Int32)), .unset] [(.ref u_TERMINATED), (.ref wr)])) _
    refine Jvm.RoadKit.acmp (g := (mkF m 102 #[.val (.int p1), .val (.ref b2), .val (.int ((p1 &&& (2147483647 : Int32)) % (8 : Int32))), .val (.ref wr), .val (.int (1 : Int32)), .val (.int (1 : Int32)), .unset] [(.ref u_TERMINATED), (.ref wr)])) X30 hx rfl rfl rfl (pc0 := 102) (pc' := 105) (same := false) rfl (hb hby at_102) rfl (decide_eq_false fun q => ha102 (Value.ref.inj q)) (by decide) (by decide) ?_
    show Steps p.tables e below (T30.setTop (mkF m 105 #[.val (.int p1), .val (.ref b2), .val (.int ((p1 &&& (2147483647 : Int32)) % (8 : Int32))), .val (.ref wr), .val (.int (1 : Int32)), .val (.int (1 : Int32)), .unset] [])) _
    refine XS.iconst X30.here hx rfl (hb hby at_105) ?_
    show Steps p.tables e below (T30.setTop (mkF m 106 #[.val (.int p1), .val (.ref b2), .val (.int ((p1 &&& (2147483647 : Int32)) % (8 : Int32))), .val (.ref wr), .val (.int (1 : Int32)), .val (.int (1 : Int32)), .unset] [(.int (1 : Int32))])) _
    refine XS.goto X30.here hx rfl (pc0 := 106) (pc' := 110) rfl (hb hby at_106) (by decide) (by decide) ?_
    show Steps p.tables e below (T30.setTop (mkF m 110 #[.val (.int p1), .val (.ref b2), .val (.int ((p1 &&& (2147483647 : Int32)) % (8 : Int32))), .val (.ref wr), .val (.int (1 : Int32)), .val (.int (1 : Int32)), .unset] [(.int (1 : Int32))])) _
    refine XS.istore X30.here hx rfl (hb hby at_110) rfl (l' := #[.val (.int p1), .val (.ref b2), .val (.int ((p1 &&& (2147483647 : Int32)) % (8 : Int32))), .val (.ref wr), .val (.int (1 : Int32)), .val (.int (1 : Int32)), .val (.int (1 : Int32))]) rfl ?_
    show Steps p.tables e below (T30.setTop (mkF m 112 #[.val (.int p1), .val (.ref b2), .val (.int ((p1 &&& (2147483647 : Int32)) % (8 : Int32))), .val (.ref wr), .val (.int (1 : Int32)), .val (.int (1 : Int32)), .val (.int (1 : Int32))] [])) _
    refine XS.iload X30.here hx rfl (hb hby at_112) rfl ?_
    show Steps p.tables e below (T30.setTop (mkF m 114 #[.val (.int p1), .val (.ref b2), .val (.int ((p1 &&& (2147483647 : Int32)) % (8 : Int32))), .val (.ref wr), .val (.int (1 : Int32)), .val (.int (1 : Int32)), .val (.int (1 : Int32))] [(.int (1 : Int32))])) _
    refine XS.iload X30.here hx rfl (hb hby at_114) rfl ?_
    show Steps p.tables e below (T30.setTop (mkF m 116 #[.val (.int p1), .val (.ref b2), .val (.int ((p1 &&& (2147483647 : Int32)) % (8 : Int32))), .val (.ref wr), .val (.int (1 : Int32)), .val (.int (1 : Int32)), .val (.int (1 : Int32))] [(.int (1 : Int32)), (.int (1 : Int32))])) _
    refine XS.icmpNo X30.here hx rfl (hb hby at_116) rfl (teq (rfl : (1 : Int32) = (1 : Int32))).2 ?_
    show Steps p.tables e below (T30.setTop (mkF m 119 #[.val (.int p1), .val (.ref b2), .val (.int ((p1 &&& (2147483647 : Int32)) % (8 : Int32))), .val (.ref wr), .val (.int (1 : Int32)), .val (.int (1 : Int32)), .val (.int (1 : Int32))] [])) _
    refine XS.iload X30.here hx rfl (hb hby at_119) rfl ?_
    show Steps p.tables e below (T30.setTop (mkF m 121 #[.val (.int p1), .val (.ref b2), .val (.int ((p1 &&& (2147483647 : Int32)) % (8 : Int32))), .val (.ref wr), .val (.int (1 : Int32)), .val (.int (1 : Int32)), .val (.int (1 : Int32))] [(.int (1 : Int32))])) _
    refine XS.iload X30.here hx rfl (hb hby at_121) rfl ?_
    show Steps p.tables e below (T30.setTop (mkF m 123 #[.val (.int p1), .val (.ref b2), .val (.int ((p1 &&& (2147483647 : Int32)) % (8 : Int32))), .val (.ref wr), .val (.int (1 : Int32)), .val (.int (1 : Int32)), .val (.int (1 : Int32))] [(.int (1 : Int32)), (.int (1 : Int32))])) _
    refine XS.icmpNo X30.here hx rfl (hb hby at_123) rfl (teq (rfl : (1 : Int32) = (1 : Int32))).2 ?_
    show Steps p.tables e below (T30.setTop (mkF m 126 #[.val (.int p1), .val (.ref b2), .val (.int ((p1 &&& (2147483647 : Int32)) % (8 : Int32))), .val (.ref wr), .val (.int (1 : Int32)), .val (.int (1 : Int32)), .val (.int (1 : Int32))] [])) _
    refine XS.iconst X30.here hx rfl (hb hby at_126) ?_
    show Steps p.tables e below (T30.setTop (mkF m 127 #[.val (.int p1), .val (.ref b2), .val (.int ((p1 &&& (2147483647 : Int32)) % (8 : Int32))), .val (.ref wr), .val (.int (1 : Int32)), .val (.int (1 : Int32)), .val (.int (1 : Int32))] [(.int (1 : Int32))])) _
    refine XS.goto X30.here hx rfl (pc0 := 127) (pc' := 131) rfl (hb hby at_127) (by decide) (by decide) ?_
    show Steps p.tables e below (T30.setTop (mkF m 131 #[.val (.int p1), .val (.ref b2), .val (.int ((p1 &&& (2147483647 : Int32)) % (8 : Int32))), .val (.ref wr), .val (.int (1 : Int32)), .val (.int (1 : Int32)), .val (.int (1 : Int32))] [(.int (1 : Int32))])) _
    exact retN X30 hx (t := .boolean) Bd.returns (by simp) (hb hby at_131) hr
  · show QL n0 _ T30.heap _
    rw [e30]
    exact ⟨rfl, N29⟩
set_option maxRecDepth 65536 in
set_option maxHeartbeats 40000000 in
theorem rm0C (l : Launch) (Z : State) (a0 : Array Value) (hw : ∀ d ∈ tables_1, d.before a0 Z = true) (ws : List Jvm.Cond) (p1 : Int32) (u_SPAWNING u_IDLE u_RUNNING u_DEGRADED u_UNRESPONSIVE u_FAILED u_QUARANTINED u_TERMINATED : Addr) (wr : Addr) (h0 : Heap) (n0 : Nat) (Z0 : n0 ≤ h0.size) (S_SPAWNING : Sta Z h0 "com/example/ouessant/ouessant/model/AgentStatus" "SPAWNING" "Lcom/example/ouessant/ouessant/model/AgentStatus;" (.ref u_SPAWNING)) (E_SPAWNING : Exa Z h0 u_SPAWNING "com/example/ouessant/ouessant/model/AgentStatus") (S_IDLE : Sta Z h0 "com/example/ouessant/ouessant/model/AgentStatus" "IDLE" "Lcom/example/ouessant/ouessant/model/AgentStatus;" (.ref u_IDLE)) (E_IDLE : Exa Z h0 u_IDLE "com/example/ouessant/ouessant/model/AgentStatus") (S_RUNNING : Sta Z h0 "com/example/ouessant/ouessant/model/AgentStatus" "RUNNING" "Lcom/example/ouessant/ouessant/model/AgentStatus;" (.ref u_RUNNING)) (E_RUNNING : Exa Z h0 u_RUNNING "com/example/ouessant/ouessant/model/AgentStatus") (S_DEGRADED : Sta Z h0 "com/example/ouessant/ouessant/model/AgentStatus" "DEGRADED" "Lcom/example/ouessant/ouessant/model/AgentStatus;" (.ref u_DEGRADED)) (E_DEGRADED : Exa Z h0 u_DEGRADED "com/example/ouessant/ouessant/model/AgentStatus") (S_UNRESPONSIVE : Sta Z h0 "com/example/ouessant/ouessant/model/AgentStatus" "UNRESPONSIVE" "Lcom/example/ouessant/ouessant/model/AgentStatus;" (.ref u_UNRESPONSIVE)) (E_UNRESPONSIVE : Exa Z h0 u_UNRESPONSIVE "com/example/ouessant/ouessant/model/AgentStatus") (S_FAILED : Sta Z h0 "com/example/ouessant/ouessant/model/AgentStatus" "FAILED" "Lcom/example/ouessant/ouessant/model/AgentStatus;" (.ref u_FAILED)) (E_FAILED : Exa Z h0 u_FAILED "com/example/ouessant/ouessant/model/AgentStatus") (S_QUARANTINED : Sta Z h0 "com/example/ouessant/ouessant/model/AgentStatus" "QUARANTINED" "Lcom/example/ouessant/ouessant/model/AgentStatus;" (.ref u_QUARANTINED)) (E_QUARANTINED : Exa Z h0 u_QUARANTINED "com/example/ouessant/ouessant/model/AgentStatus") (S_TERMINATED : Sta Z h0 "com/example/ouessant/ouessant/model/AgentStatus" "TERMINATED" "Lcom/example/ouessant/ouessant/model/AgentStatus;" (.ref u_TERMINATED)) (E_TERMINATED : Exa Z h0 u_TERMINATED "com/example/ouessant/ouessant/model/AgentStatus") (E_wr : Exa Z h0 wr "com/example/ouessant/ouessant/model/AgentStatus") (hj : ¬ ((p1 &&& (2147483647 : Int32)) % (8 : Int32)) < 0 ∧ ((p1 &&& (2147483647 : Int32)) % (8 : Int32)) < (8 : Int32)) (hget : ([.ref u_SPAWNING, .ref u_IDLE, .ref u_RUNNING, .ref u_DEGRADED, .ref u_UNRESPONSIVE, .ref u_FAILED, .ref u_QUARANTINED, .ref u_TERMINATED] : List Value).getD ((p1 &&& (2147483647 : Int32)) % (8 : Int32)).toNatClampNeg .null = .ref wr) (hC : ∀ h, Keep h0 h [] → n0 ≤ h.size → own_C1 l Z wr (some (.int (0 : Int32))) h n0) (hD : ∀ h, Keep h0 h [] → n0 ≤ h.size → own_C2 l Z wr (some (.int (1 : Int32))) h n0) (hc76 : ¬ (((p1 &&& (2147483647 : Int32)) % (8 : Int32)) = (4 : Int32))) (hc81 : ¬ (((p1 &&& (2147483647 : Int32)) % (8 : Int32)) = (5 : Int32))) (ha102 : wr = u_TERMINATED) :
    MetFree l x (head1 (Jvm.Cond.code x code maxLocals ret :: ws) room_1) (fun a U => a = #[(.int p1)] ∧ Z.Warmed39 U.vm ∧ U.heap = h0) (fun _ _ _ _ _ => True) (fun _ U o U' => ∃ v L, o = .returned v ∧ QL n0 v U'.heap L ∧ FrameEnd U o U' L room_1.cells room_1.slots) := by
  refine MetFree.of_bodySF (plainFor_of_name pn_0) hisR ?_
  intro p e s m args below meth c s₁ Bd hml0 hP hK
  obtain ⟨rfl, hZ, hh⟩ := hP
  have hx := Bd.exec
  have hby := Bd.bytes
  have hml : c.maxLocals = 7 := hml0
  have hown : s.vm.findClass "com/example/ouessant/ouessant/model/AgentStatusIsMarkedPinLaw" = some m.cls := findClass_of_methodNamed Bd.named
  have hnm := (name_of_methodNamed Bd.named Bd.method).1
  have X0 : Stand p l e room_1 s m #[(.int p1)] below meth c s₁ [] 0 0 := Stand.of_body Bd
  have e0 : s₁.heap = h0 := by rw [← hh, Bd.state]; rfl
  have N0 := Fr.nil n0
  have pre0 : ∀ t, Steps p.tables e below (s₁.setTop (mkF m 0 #[.val (.int p1), .unset, .unset, .unset, .unset, .unset, .unset] [])) t → Steps p.tables e below (s₁.setTop (entryFrame m #[(.int p1)] maxLocals)) t := fun t k => castTop (ef_0 m p1) k
  obtain ⟨TF, hF, b2, kF, locsF, XF, eF, KF, NF, VF, stF⟩ := own_fill hw X0 hx hZ hby hown e0 Z0 (#[.val (.int p1), .unset, .unset, .unset, .unset, .unset, .unset]) u_SPAWNING u_IDLE u_RUNNING u_DEGRADED u_UNRESPONSIVE u_FAILED u_QUARANTINED u_TERMINATED S_SPAWNING E_SPAWNING S_IDLE E_IDLE S_RUNNING E_RUNNING S_DEGRADED E_DEGRADED S_UNRESPONSIVE E_UNRESPONSIVE S_FAILED E_FAILED S_QUARANTINED E_QUARANTINED S_TERMINATED E_TERMINATED
  obtain ⟨cl_b2, Ar_b2, q_b2, Sz_b2, Nn_b2, H_b2, G_b2⟩ := VF
  have ZF : n0 ≤ hF.size := Nat.le_trans Z0 KF.1
  have hinF : ¬ (((p1 &&& (2147483647 : Int32)) % (8 : Int32)) < 0 ∨ cl_b2.slots.size ≤ ((p1 &&& (2147483647 : Int32)) % (8 : Int32)).toNatClampNeg) := inb_of Sz_b2 hj
  have hatF := Has.at H_b2 hinF hget
  obtain ⟨cq28, kq28, q28a, q28b, q28c⟩ := isOf hZ eF (E_wr.keep KF)
  obtain ⟨_, _, ⟨T28, L28, k28, n28⟩, -, X28, ⟨Lc28, hQ28, l28, y28, z28⟩, st28⟩ := XF.virtualBack hx (y := (⟨"com/example/ouessant/ouessant/model/AgentStatus", "isMarked", "()Z"⟩ : MethodName)) (z := (⟨"com/example/ouessant/ouessant/model/AgentStatus", "isMarked", "()Z"⟩ : MethodName)) hown (mvT hZ (hw _ (List.mem_of_getElem? (i := 21) rfl))) (mvT hZ (hw _ (List.mem_of_getElem? (i := 22) rfl))) (notFace_of_selects (args := #[]) (mvT hZ (hw _ (List.mem_of_getElem? (i := 24) rfl)))) (mvT hZ (hw _ (List.mem_of_getElem? (i := 24) rfl))) (mvT hZ (hw _ (List.mem_of_getElem? (i := 23) rfl))) (by decide) (backOf (W := 0) (hC hF KF ZF) hZ (hw _ (List.mem_of_getElem? (i := 25) rfl)) (hw _ (List.mem_of_getElem? (i := 3) rfl)) (by decide) (by decide)) q28a q28c (g := (mkF m 69 #[.val (.int p1), .val (.ref b2), .val (.int ((p1 &&& (2147483647 : Int32)) % (8 : Int32))), .val (.ref wr), .unset, .unset, .unset] [(.ref wr)])) rfl (by rw [hml]; rfl) (Steps.refl _) (argsL := []) (rest := []) (lenOf pd0 rfl) rfl (by show 2 * 0 + _ ≤ _; exact Nat.le_of_eq rfl) (hb hby at_69) (fun _ _ => ⟨rfl, eF, (by decide : 1 + 0 ≤ _), (by decide : 8 + 0 ≤ _)⟩)
  dsimp only [Pt.U, Pt.locs, Pt.cells, Pt.slots] at X28 l28 y28 z28 st28 hQ28
  subst l28 y28 z28
  obtain ⟨rfl, N28q, eQ28⟩ := hQ28
  have N28 := Fr.app NF N28q
  obtain ⟨cq29, kq29, q29a, q29b, q29c⟩ := isOf hZ eQ28 (E_wr.keep KF)
  obtain ⟨_, _, ⟨T29, L29, k29, n29⟩, -, X29, ⟨Lc29, hQ29, l29, y29, z29⟩, st29⟩ := X28.virtualBack hx (y := (⟨"com/example/ouessant/ouessant/model/AgentStatus", "isFenced", "()Z"⟩ : MethodName)) (z := (⟨"com/example/ouessant/ouessant/model/AgentStatus", "isFenced", "()Z"⟩ : MethodName)) hown (mvT hZ (hw _ (List.mem_of_getElem? (i := 28) rfl))) (mvT hZ (hw _ (List.mem_of_getElem? (i := 29) rfl))) (notFace_of_selects (args := #[]) (mvT hZ (hw _ (List.mem_of_getElem? (i := 31) rfl)))) (mvT hZ (hw _ (List.mem_of_getElem? (i := 31) rfl))) (mvT hZ (hw _ (List.mem_of_getElem? (i := 30) rfl))) (by decide) (backOf (W := 0) (hD hF KF ZF) hZ (hw _ (List.mem_of_getElem? (i := 32) rfl)) (hw _ (List.mem_of_getElem? (i := 3) rfl)) (by decide) (by decide)) q29a q29c (g := (mkF m 92 #[.val (.int p1), .val (.ref b2), .val (.int ((p1 &&& (2147483647 : Int32)) % (8 : Int32))), .val (.ref wr), .val (.int (0 : Int32)), .val (.int (0 : Int32)), .unset] [(.ref wr)])) rfl (by rw [hml]; rfl) (Steps.refl _) (argsL := []) (rest := []) (lenOf pd0 rfl) rfl (by show 2 * 0 + _ ≤ _; exact Nat.le_of_eq rfl) (hb hby at_92) (fun _ _ => ⟨rfl, eQ28, (by decide : 1 + 0 ≤ _), (by decide : 8 + 0 ≤ _)⟩)
  dsimp only [Pt.U, Pt.locs, Pt.cells, Pt.slots] at X29 l29 y29 z29 st29 hQ29
  subst l29 y29 z29
  obtain ⟨rfl, N29q, eQ29⟩ := hQ29
  have N29 := Fr.app N28 N29q
  obtain ⟨T30, X30, e30, st30⟩ := getS2 X29 hx hZ hown (host := "") (Or.inl (hw _ (List.mem_of_getElem? (i := 18) rfl))) Via.refl eQ29 (own_staK S_TERMINATED KF) (g := (mkF m 99 #[.val (.int p1), .val (.ref b2), .val (.int ((p1 &&& (2147483647 : Int32)) % (8 : Int32))), .val (.ref wr), .val (.int (0 : Int32)), .val (.int (0 : Int32)), .unset] [(.ref wr)])) rfl (hb hby at_99)
  obtain ⟨fs, hr, hrun, hended, hW, hsame⟩ := X30.leave (v := some (.int (1 : Int32))) (fun h => by rw [Bd.returns] at h; cases h)
  refine ⟨_, _, pre0 _ ?_, hrun, hended, _, _, rfl, ?_, ⟨_, rfl⟩, hW, hsame.mono (by decide) (by decide)⟩
  · show Steps p.tables e below (s₁.setTop (mkF m 0 #[.val (.int p1), .unset, .unset, .unset, .unset, .unset, .unset] [])) _
    refine stF _ ?_
    show Steps p.tables e below (TF.setTop (mkF m 55 #[.val (.int p1), .unset, .unset, .unset, .unset, .unset, .unset] [(.ref b2)])) _
    refine XS.astoreN XF.here hx rfl (hb hby at_55) rfl rfl (l' := #[.val (.int p1), .val (.ref b2), .unset, .unset, .unset, .unset, .unset]) rfl ?_
    show Steps p.tables e below (TF.setTop (mkF m 56 #[.val (.int p1), .val (.ref b2), .unset, .unset, .unset, .unset, .unset] [])) _
    refine XS.iloadN XF.here hx rfl (hb hby at_56) rfl ?_
    show Steps p.tables e below (TF.setTop (mkF m 57 #[.val (.int p1), .val (.ref b2), .unset, .unset, .unset, .unset, .unset] [(.int p1)])) _
    refine XF.ldcInt hx hown (mvT hZ (hw _ (List.mem_of_getElem? (i := 20) rfl))) (g := (mkF m 57 #[.val (.int p1), .val (.ref b2), .unset, .unset, .unset, .unset, .unset] [(.int p1)])) rfl (hb hby at_57) _ ?_
    show Steps p.tables e below (TF.setTop (mkF m 59 #[.val (.int p1), .val (.ref b2), .unset, .unset, .unset, .unset, .unset] [(.int (2147483647 : Int32)), (.int p1)])) _
    refine XS.iand XF.here hx rfl (hb hby at_59) rfl ?_
    show Steps p.tables e below (TF.setTop (mkF m 60 #[.val (.int p1), .val (.ref b2), .unset, .unset, .unset, .unset, .unset] [(.int (p1 &&& (2147483647 : Int32)))])) _
    refine XS.bipush XF.here hx rfl (hb hby at_60) ?_
    show Steps p.tables e below (TF.setTop (mkF m 62 #[.val (.int p1), .val (.ref b2), .unset, .unset, .unset, .unset, .unset] [(.int (8 : Int32)), (.int (p1 &&& (2147483647 : Int32)))])) _
    refine iremM XF hx rfl (hb hby at_62) rfl (by decide) ?_
    show Steps p.tables e below (TF.setTop (mkF m 63 #[.val (.int p1), .val (.ref b2), .unset, .unset, .unset, .unset, .unset] [(.int ((p1 &&& (2147483647 : Int32)) % (8 : Int32)))])) _
    refine XS.istoreN XF.here hx rfl (hb hby at_63) rfl (l' := #[.val (.int p1), .val (.ref b2), .val (.int ((p1 &&& (2147483647 : Int32)) % (8 : Int32))), .unset, .unset, .unset, .unset]) rfl ?_
    show Steps p.tables e below (TF.setTop (mkF m 64 #[.val (.int p1), .val (.ref b2), .val (.int ((p1 &&& (2147483647 : Int32)) % (8 : Int32))), .unset, .unset, .unset, .unset] [])) _
    refine XS.aloadN XF.here hx rfl (hb hby at_64) rfl rfl ?_
    show Steps p.tables e below (TF.setTop (mkF m 65 #[.val (.int p1), .val (.ref b2), .val (.int ((p1 &&& (2147483647 : Int32)) % (8 : Int32))), .unset, .unset, .unset, .unset] [(.ref b2)])) _
    refine XS.iloadN XF.here hx rfl (hb hby at_65) rfl ?_
    show Steps p.tables e below (TF.setTop (mkF m 66 #[.val (.int p1), .val (.ref b2), .val (.int ((p1 &&& (2147483647 : Int32)) % (8 : Int32))), .unset, .unset, .unset, .unset] [(.int ((p1 &&& (2147483647 : Int32)) % (8 : Int32))), (.ref b2)])) _
    refine XF.aaload hx (j := ((p1 &&& (2147483647 : Int32)) % (8 : Int32))) (v := (.ref wr)) (by rw [eF]; exact Ar_b2.1) (State.isArrayOf_alike hZ.alike Ar_b2.2.1) rfl Ar_b2.2.2 hinF hatF (g := (mkF m 66 #[.val (.int p1), .val (.ref b2), .val (.int ((p1 &&& (2147483647 : Int32)) % (8 : Int32))), .unset, .unset, .unset, .unset] [(.int ((p1 &&& (2147483647 : Int32)) % (8 : Int32))), (.ref b2)])) rfl rfl (hb hby at_66) _ ?_
    show Steps p.tables e below (TF.setTop (mkF m 67 #[.val (.int p1), .val (.ref b2), .val (.int ((p1 &&& (2147483647 : Int32)) % (8 : Int32))), .unset, .unset, .unset, .unset] [(.ref wr)])) _
    refine XS.astoreN XF.here hx rfl (hb hby at_67) rfl rfl (l' := #[.val (.int p1), .val (.ref b2), .val (.int ((p1 &&& (2147483647 : Int32)) % (8 : Int32))), .val (.ref wr), .unset, .unset, .unset]) rfl ?_
    show Steps p.tables e below (TF.setTop (mkF m 68 #[.val (.int p1), .val (.ref b2), .val (.int ((p1 &&& (2147483647 : Int32)) % (8 : Int32))), .val (.ref wr), .unset, .unset, .unset] [])) _
    refine XS.aloadN XF.here hx rfl (hb hby at_68) rfl rfl ?_
    show Steps p.tables e below (TF.setTop (mkF m 69 #[.val (.int p1), .val (.ref b2), .val (.int ((p1 &&& (2147483647 : Int32)) % (8 : Int32))), .val (.ref wr), .unset, .unset, .unset] [(.ref wr)])) _
    refine st28.trans ?_
    show Steps p.tables e below (T28.setTop (mkF m 72 #[.val (.int p1), .val (.ref b2), .val (.int ((p1 &&& (2147483647 : Int32)) % (8 : Int32))), .val (.ref wr), .unset, .unset, .unset] [(.int (0 : Int32))])) _
    refine XS.istore X28.here hx rfl (hb hby at_72) rfl (l' := #[.val (.int p1), .val (.ref b2), .val (.int ((p1 &&& (2147483647 : Int32)) % (8 : Int32))), .val (.ref wr), .val (.int (0 : Int32)), .unset, .unset]) rfl ?_
    show Steps p.tables e below (T28.setTop (mkF m 74 #[.val (.int p1), .val (.ref b2), .val (.int ((p1 &&& (2147483647 : Int32)) % (8 : Int32))), .val (.ref wr), .val (.int (0 : Int32)), .unset, .unset] [])) _
    refine XS.iloadN X28.here hx rfl (hb hby at_74) rfl ?_
    show Steps p.tables e below (T28.setTop (mkF m 75 #[.val (.int p1), .val (.ref b2), .val (.int ((p1 &&& (2147483647 : Int32)) % (8 : Int32))), .val (.ref wr), .val (.int (0 : Int32)), .unset, .unset] [(.int ((p1 &&& (2147483647 : Int32)) % (8 : Int32)))])) _
    refine XS.iconst X28.here hx rfl (hb hby at_75) ?_
    show Steps p.tables e below (T28.setTop (mkF m 76 #[.val (.int p1), .val (.ref b2), .val (.int ((p1 &&& (2147483647 : Int32)) % (8 : Int32))), .val (.ref wr), .val (.int (0 : Int32)), .unset, .unset] [(.int (4 : Int32)), (.int ((p1 &&& (2147483647 : Int32)) % (8 : Int32)))])) _
    refine XS.icmpNo X28.here hx rfl (hb hby at_76) rfl (feq hc76).1 ?_
    show Steps p.tables e below (T28.setTop (mkF m 79 #[.val (.int p1), .val (.ref b2), .val (.int ((p1 &&& (2147483647 : Int32)) % (8 : Int32))), .val (.ref wr), .val (.int (0 : Int32)), .unset, .unset] [])) _
    refine XS.iloadN X28.here hx rfl (hb hby at_79) rfl ?_
    show Steps p.tables e below (T28.setTop (mkF m 80 #[.val (.int p1), .val (.ref b2), .val (.int ((p1 &&& (2147483647 : Int32)) % (8 : Int32))), .val (.ref wr), .val (.int (0 : Int32)), .unset, .unset] [(.int ((p1 &&& (2147483647 : Int32)) % (8 : Int32)))])) _
    refine XS.iconst X28.here hx rfl (hb hby at_80) ?_
    show Steps p.tables e below (T28.setTop (mkF m 81 #[.val (.int p1), .val (.ref b2), .val (.int ((p1 &&& (2147483647 : Int32)) % (8 : Int32))), .val (.ref wr), .val (.int (0 : Int32)), .unset, .unset] [(.int (5 : Int32)), (.int ((p1 &&& (2147483647 : Int32)) % (8 : Int32)))])) _
    refine XS.icmpYes X28.here hx rfl (pc0 := 81) (pc' := 88) rfl (hb hby at_81) rfl (feq hc81).2 (by decide) (by decide) ?_
    show Steps p.tables e below (T28.setTop (mkF m 88 #[.val (.int p1), .val (.ref b2), .val (.int ((p1 &&& (2147483647 : Int32)) % (8 : Int32))), .val (.ref wr), .val (.int (0 : Int32)), .unset, .unset] [])) _
    refine XS.iconst X28.here hx rfl (hb hby at_88) ?_
    show Steps p.tables e below (T28.setTop (mkF m 89 #[.val (.int p1), .val (.ref b2), .val (.int ((p1 &&& (2147483647 : Int32)) % (8 : Int32))), .val (.ref wr), .val (.int (0 : Int32)), .unset, .unset] [(.int (0 : Int32))])) _
    refine XS.istore X28.here hx rfl (hb hby at_89) rfl (l' := #[.val (.int p1), .val (.ref b2), .val (.int ((p1 &&& (2147483647 : Int32)) % (8 : Int32))), .val (.ref wr), .val (.int (0 : Int32)), .val (.int (0 : Int32)), .unset]) rfl ?_
    show Steps p.tables e below (T28.setTop (mkF m 91 #[.val (.int p1), .val (.ref b2), .val (.int ((p1 &&& (2147483647 : Int32)) % (8 : Int32))), .val (.ref wr), .val (.int (0 : Int32)), .val (.int (0 : Int32)), .unset] [])) _
    refine XS.aloadN X28.here hx rfl (hb hby at_91) rfl rfl ?_
    show Steps p.tables e below (T28.setTop (mkF m 92 #[.val (.int p1), .val (.ref b2), .val (.int ((p1 &&& (2147483647 : Int32)) % (8 : Int32))), .val (.ref wr), .val (.int (0 : Int32)), .val (.int (0 : Int32)), .unset] [(.ref wr)])) _
    refine st29.trans ?_
    show Steps p.tables e below (T29.setTop (mkF m 95 #[.val (.int p1), .val (.ref b2), .val (.int ((p1 &&& (2147483647 : Int32)) % (8 : Int32))), .val (.ref wr), .val (.int (0 : Int32)), .val (.int (0 : Int32)), .unset] [(.int (1 : Int32))])) _
    refine XS.ifNo X29.here hx rfl (hb hby at_95) rfl ((if0 _ _).trans (feq ((by decide) : ¬ ((1 : Int32) = (0 : Int32)))).1) ?_
    show Steps p.tables e below (T29.setTop (mkF m 98 #[.val (.int p1), .val (.ref b2), .val (.int ((p1 &&& (2147483647 : Int32)) % (8 : Int32))), .val (.ref wr), .val (.int (0 : Int32)), .val (.int (0 : Int32)), .unset] [])) _
    refine XS.aloadN X29.here hx rfl (hb hby at_98) rfl rfl ?_
    show Steps p.tables e below (T29.setTop (mkF m 99 #[.val (.int p1), .val (.ref b2), .val (.int ((p1 &&& (2147483647 : Int32)) % (8 : Int32))), .val (.ref wr), .val (.int (0 : Int32)), .val (.int (0 : Int32)), .unset] [(.ref wr)])) _
    refine st30 _ ?_
    show Steps p.tables e below (T30.setTop (mkF m 102 #[.val (.int p1), .val (.ref b2), .val (.int ((p1 &&& (2147483647 : Int32)) % (8 : Int32))), .val (.ref wr), .val (.int (0 : Int32)), .val (.int (0 : Int32)), .unset] [(.ref u_TERMINATED), (.ref wr)])) _
    refine Jvm.RoadKit.acmp (g := (mkF m 102 #[.val (.int p1), .val (.ref b2), .val (.int ((p1 &&& (2147483647 : Int32)) % (8 : Int32))), .val (.ref wr), .val (.int (0 : Int32)), .val (.int (0 : Int32)), .unset] [(.ref u_TERMINATED), (.ref wr)])) X30 hx rfl rfl rfl (pc0 := 102) (pc' := 109) (same := true) rfl (hb hby at_102) rfl (decide_eq_true (congrArg Value.ref ha102)) (by decide) (by decide) ?_
    show Steps p.tables e below (T30.setTop (mkF m 109 #[.val (.int p1), .val (.ref b2), .val (.int ((p1 &&& (2147483647 : Int32)) % (8 : Int32))), .val (.ref wr), .val (.int (0 : Int32)), .val (.int (0 : Int32)), .unset] [])) _
    refine XS.iconst X30.here hx rfl (hb hby at_109) ?_
    show Steps p.tables e below (T30.setTop (mkF m 110 #[.val (.int p1), .val (.ref b2), .val (.int ((p1 &&& (2147483647 : Int32)) % (8 : Int32))), .val (.ref wr), .val (.int (0 : Int32)), .val (.int (0 : Int32)), .unset] [(.int (0 : Int32))])) _
    refine XS.istore X30.here hx rfl (hb hby at_110) rfl (l' := #[.val (.int p1), .val (.ref b2), .val (.int ((p1 &&& (2147483647 : Int32)) % (8 : Int32))), .val (.ref wr), .val (.int (0 : Int32)), .val (.int (0 : Int32)), .val (.int (0 : Int32))]) rfl ?_
    show Steps p.tables e below (T30.setTop (mkF m 112 #[.val (.int p1), .val (.ref b2), .val (.int ((p1 &&& (2147483647 : Int32)) % (8 : Int32))), .val (.ref wr), .val (.int (0 : Int32)), .val (.int (0 : Int32)), .val (.int (0 : Int32))] [])) _
    refine XS.iload X30.here hx rfl (hb hby at_112) rfl ?_
    show Steps p.tables e below (T30.setTop (mkF m 114 #[.val (.int p1), .val (.ref b2), .val (.int ((p1 &&& (2147483647 : Int32)) % (8 : Int32))), .val (.ref wr), .val (.int (0 : Int32)), .val (.int (0 : Int32)), .val (.int (0 : Int32))] [(.int (0 : Int32))])) _
    refine XS.iload X30.here hx rfl (hb hby at_114) rfl ?_
    show Steps p.tables e below (T30.setTop (mkF m 116 #[.val (.int p1), .val (.ref b2), .val (.int ((p1 &&& (2147483647 : Int32)) % (8 : Int32))), .val (.ref wr), .val (.int (0 : Int32)), .val (.int (0 : Int32)), .val (.int (0 : Int32))] [(.int (0 : Int32)), (.int (0 : Int32))])) _
    refine XS.icmpNo X30.here hx rfl (hb hby at_116) rfl (teq (rfl : (0 : Int32) = (0 : Int32))).2 ?_
    show Steps p.tables e below (T30.setTop (mkF m 119 #[.val (.int p1), .val (.ref b2), .val (.int ((p1 &&& (2147483647 : Int32)) % (8 : Int32))), .val (.ref wr), .val (.int (0 : Int32)), .val (.int (0 : Int32)), .val (.int (0 : Int32))] [])) _
    refine XS.iload X30.here hx rfl (hb hby at_119) rfl ?_
    show Steps p.tables e below (T30.setTop (mkF m 121 #[.val (.int p1), .val (.ref b2), .val (.int ((p1 &&& (2147483647 : Int32)) % (8 : Int32))), .val (.ref wr), .val (.int (0 : Int32)), .val (.int (0 : Int32)), .val (.int (0 : Int32))] [(.int (0 : Int32))])) _
    refine XS.iload X30.here hx rfl (hb hby at_121) rfl ?_
    show Steps p.tables e below (T30.setTop (mkF m 123 #[.val (.int p1), .val (.ref b2), .val (.int ((p1 &&& (2147483647 : Int32)) % (8 : Int32))), .val (.ref wr), .val (.int (0 : Int32)), .val (.int (0 : Int32)), .val (.int (0 : Int32))] [(.int (0 : Int32)), (.int (0 : Int32))])) _
    refine XS.icmpNo X30.here hx rfl (hb hby at_123) rfl (teq (rfl : (0 : Int32) = (0 : Int32))).2 ?_
    show Steps p.tables e below (T30.setTop (mkF m 126 #[.val (.int p1), .val (.ref b2), .val (.int ((p1 &&& (2147483647 : Int32)) % (8 : Int32))), .val (.ref wr), .val (.int (0 : Int32)), .val (.int (0 : Int32)), .val (.int (0 : Int32))] [])) _
    refine XS.iconst X30.here hx rfl (hb hby at_126) ?_
    show Steps p.tables e below (T30.setTop (mkF m 127 #[.val (.int p1), .val (.ref b2), .val (.int ((p1 &&& (2147483647 : Int32)) % (8 : Int32))), .val (.ref wr), .val (.int (0 : Int32)), .val (.int (0 : Int32)), .val (.int (0 : Int32))] [(.int (1 : Int32))])) _
    refine XS.goto X30.here hx rfl (pc0 := 127) (pc' := 131) rfl (hb hby at_127) (by decide) (by decide) ?_
    show Steps p.tables e below (T30.setTop (mkF m 131 #[.val (.int p1), .val (.ref b2), .val (.int ((p1 &&& (2147483647 : Int32)) % (8 : Int32))), .val (.ref wr), .val (.int (0 : Int32)), .val (.int (0 : Int32)), .val (.int (0 : Int32))] [(.int (1 : Int32))])) _
    exact retN X30 hx (t := .boolean) Bd.returns (by simp) (hb hby at_131) hr
  · show QL n0 _ T30.heap _
    rw [e30]
    exact ⟨rfl, N29⟩
set_option maxRecDepth 65536 in
set_option maxHeartbeats 40000000 in
theorem rm0D (l : Launch) (Z : State) (a0 : Array Value) (hw : ∀ d ∈ tables_1, d.before a0 Z = true) (ws : List Jvm.Cond) (p1 : Int32) (u_SPAWNING u_IDLE u_RUNNING u_DEGRADED u_UNRESPONSIVE u_FAILED u_QUARANTINED u_TERMINATED : Addr) (wr : Addr) (h0 : Heap) (n0 : Nat) (Z0 : n0 ≤ h0.size) (S_SPAWNING : Sta Z h0 "com/example/ouessant/ouessant/model/AgentStatus" "SPAWNING" "Lcom/example/ouessant/ouessant/model/AgentStatus;" (.ref u_SPAWNING)) (E_SPAWNING : Exa Z h0 u_SPAWNING "com/example/ouessant/ouessant/model/AgentStatus") (S_IDLE : Sta Z h0 "com/example/ouessant/ouessant/model/AgentStatus" "IDLE" "Lcom/example/ouessant/ouessant/model/AgentStatus;" (.ref u_IDLE)) (E_IDLE : Exa Z h0 u_IDLE "com/example/ouessant/ouessant/model/AgentStatus") (S_RUNNING : Sta Z h0 "com/example/ouessant/ouessant/model/AgentStatus" "RUNNING" "Lcom/example/ouessant/ouessant/model/AgentStatus;" (.ref u_RUNNING)) (E_RUNNING : Exa Z h0 u_RUNNING "com/example/ouessant/ouessant/model/AgentStatus") (S_DEGRADED : Sta Z h0 "com/example/ouessant/ouessant/model/AgentStatus" "DEGRADED" "Lcom/example/ouessant/ouessant/model/AgentStatus;" (.ref u_DEGRADED)) (E_DEGRADED : Exa Z h0 u_DEGRADED "com/example/ouessant/ouessant/model/AgentStatus") (S_UNRESPONSIVE : Sta Z h0 "com/example/ouessant/ouessant/model/AgentStatus" "UNRESPONSIVE" "Lcom/example/ouessant/ouessant/model/AgentStatus;" (.ref u_UNRESPONSIVE)) (E_UNRESPONSIVE : Exa Z h0 u_UNRESPONSIVE "com/example/ouessant/ouessant/model/AgentStatus") (S_FAILED : Sta Z h0 "com/example/ouessant/ouessant/model/AgentStatus" "FAILED" "Lcom/example/ouessant/ouessant/model/AgentStatus;" (.ref u_FAILED)) (E_FAILED : Exa Z h0 u_FAILED "com/example/ouessant/ouessant/model/AgentStatus") (S_QUARANTINED : Sta Z h0 "com/example/ouessant/ouessant/model/AgentStatus" "QUARANTINED" "Lcom/example/ouessant/ouessant/model/AgentStatus;" (.ref u_QUARANTINED)) (E_QUARANTINED : Exa Z h0 u_QUARANTINED "com/example/ouessant/ouessant/model/AgentStatus") (S_TERMINATED : Sta Z h0 "com/example/ouessant/ouessant/model/AgentStatus" "TERMINATED" "Lcom/example/ouessant/ouessant/model/AgentStatus;" (.ref u_TERMINATED)) (E_TERMINATED : Exa Z h0 u_TERMINATED "com/example/ouessant/ouessant/model/AgentStatus") (E_wr : Exa Z h0 wr "com/example/ouessant/ouessant/model/AgentStatus") (hj : ¬ ((p1 &&& (2147483647 : Int32)) % (8 : Int32)) < 0 ∧ ((p1 &&& (2147483647 : Int32)) % (8 : Int32)) < (8 : Int32)) (hget : ([.ref u_SPAWNING, .ref u_IDLE, .ref u_RUNNING, .ref u_DEGRADED, .ref u_UNRESPONSIVE, .ref u_FAILED, .ref u_QUARANTINED, .ref u_TERMINATED] : List Value).getD ((p1 &&& (2147483647 : Int32)) % (8 : Int32)).toNatClampNeg .null = .ref wr) (hC : ∀ h, Keep h0 h [] → n0 ≤ h.size → own_C1 l Z wr (some (.int (0 : Int32))) h n0) (hD : ∀ h, Keep h0 h [] → n0 ≤ h.size → own_C2 l Z wr (some (.int (0 : Int32))) h n0) (hc76 : ¬ (((p1 &&& (2147483647 : Int32)) % (8 : Int32)) = (4 : Int32))) (hc81 : ¬ (((p1 &&& (2147483647 : Int32)) % (8 : Int32)) = (5 : Int32))) :
    MetFree l x (head1 (Jvm.Cond.code x code maxLocals ret :: ws) room_1) (fun a U => a = #[(.int p1)] ∧ Z.Warmed39 U.vm ∧ U.heap = h0) (fun _ _ _ _ _ => True) (fun _ U o U' => ∃ v L, o = .returned v ∧ QL n0 v U'.heap L ∧ FrameEnd U o U' L room_1.cells room_1.slots) := by
  refine MetFree.of_bodySF (plainFor_of_name pn_0) hisR ?_
  intro p e s m args below meth c s₁ Bd hml0 hP hK
  obtain ⟨rfl, hZ, hh⟩ := hP
  have hx := Bd.exec
  have hby := Bd.bytes
  have hml : c.maxLocals = 7 := hml0
  have hown : s.vm.findClass "com/example/ouessant/ouessant/model/AgentStatusIsMarkedPinLaw" = some m.cls := findClass_of_methodNamed Bd.named
  have hnm := (name_of_methodNamed Bd.named Bd.method).1
  have X0 : Stand p l e room_1 s m #[(.int p1)] below meth c s₁ [] 0 0 := Stand.of_body Bd
  have e0 : s₁.heap = h0 := by rw [← hh, Bd.state]; rfl
  have N0 := Fr.nil n0
  have pre0 : ∀ t, Steps p.tables e below (s₁.setTop (mkF m 0 #[.val (.int p1), .unset, .unset, .unset, .unset, .unset, .unset] [])) t → Steps p.tables e below (s₁.setTop (entryFrame m #[(.int p1)] maxLocals)) t := fun t k => castTop (ef_0 m p1) k
  obtain ⟨TF, hF, b2, kF, locsF, XF, eF, KF, NF, VF, stF⟩ := own_fill hw X0 hx hZ hby hown e0 Z0 (#[.val (.int p1), .unset, .unset, .unset, .unset, .unset, .unset]) u_SPAWNING u_IDLE u_RUNNING u_DEGRADED u_UNRESPONSIVE u_FAILED u_QUARANTINED u_TERMINATED S_SPAWNING E_SPAWNING S_IDLE E_IDLE S_RUNNING E_RUNNING S_DEGRADED E_DEGRADED S_UNRESPONSIVE E_UNRESPONSIVE S_FAILED E_FAILED S_QUARANTINED E_QUARANTINED S_TERMINATED E_TERMINATED
  obtain ⟨cl_b2, Ar_b2, q_b2, Sz_b2, Nn_b2, H_b2, G_b2⟩ := VF
  have ZF : n0 ≤ hF.size := Nat.le_trans Z0 KF.1
  have hinF : ¬ (((p1 &&& (2147483647 : Int32)) % (8 : Int32)) < 0 ∨ cl_b2.slots.size ≤ ((p1 &&& (2147483647 : Int32)) % (8 : Int32)).toNatClampNeg) := inb_of Sz_b2 hj
  have hatF := Has.at H_b2 hinF hget
  obtain ⟨cq28, kq28, q28a, q28b, q28c⟩ := isOf hZ eF (E_wr.keep KF)
  obtain ⟨_, _, ⟨T28, L28, k28, n28⟩, -, X28, ⟨Lc28, hQ28, l28, y28, z28⟩, st28⟩ := XF.virtualBack hx (y := (⟨"com/example/ouessant/ouessant/model/AgentStatus", "isMarked", "()Z"⟩ : MethodName)) (z := (⟨"com/example/ouessant/ouessant/model/AgentStatus", "isMarked", "()Z"⟩ : MethodName)) hown (mvT hZ (hw _ (List.mem_of_getElem? (i := 21) rfl))) (mvT hZ (hw _ (List.mem_of_getElem? (i := 22) rfl))) (notFace_of_selects (args := #[]) (mvT hZ (hw _ (List.mem_of_getElem? (i := 24) rfl)))) (mvT hZ (hw _ (List.mem_of_getElem? (i := 24) rfl))) (mvT hZ (hw _ (List.mem_of_getElem? (i := 23) rfl))) (by decide) (backOf (W := 0) (hC hF KF ZF) hZ (hw _ (List.mem_of_getElem? (i := 25) rfl)) (hw _ (List.mem_of_getElem? (i := 3) rfl)) (by decide) (by decide)) q28a q28c (g := (mkF m 69 #[.val (.int p1), .val (.ref b2), .val (.int ((p1 &&& (2147483647 : Int32)) % (8 : Int32))), .val (.ref wr), .unset, .unset, .unset] [(.ref wr)])) rfl (by rw [hml]; rfl) (Steps.refl _) (argsL := []) (rest := []) (lenOf pd0 rfl) rfl (by show 2 * 0 + _ ≤ _; exact Nat.le_of_eq rfl) (hb hby at_69) (fun _ _ => ⟨rfl, eF, (by decide : 1 + 0 ≤ _), (by decide : 8 + 0 ≤ _)⟩)
  dsimp only [Pt.U, Pt.locs, Pt.cells, Pt.slots] at X28 l28 y28 z28 st28 hQ28
  subst l28 y28 z28
  obtain ⟨rfl, N28q, eQ28⟩ := hQ28
  have N28 := Fr.app NF N28q
  obtain ⟨cq29, kq29, q29a, q29b, q29c⟩ := isOf hZ eQ28 (E_wr.keep KF)
  obtain ⟨_, _, ⟨T29, L29, k29, n29⟩, -, X29, ⟨Lc29, hQ29, l29, y29, z29⟩, st29⟩ := X28.virtualBack hx (y := (⟨"com/example/ouessant/ouessant/model/AgentStatus", "isFenced", "()Z"⟩ : MethodName)) (z := (⟨"com/example/ouessant/ouessant/model/AgentStatus", "isFenced", "()Z"⟩ : MethodName)) hown (mvT hZ (hw _ (List.mem_of_getElem? (i := 28) rfl))) (mvT hZ (hw _ (List.mem_of_getElem? (i := 29) rfl))) (notFace_of_selects (args := #[]) (mvT hZ (hw _ (List.mem_of_getElem? (i := 31) rfl)))) (mvT hZ (hw _ (List.mem_of_getElem? (i := 31) rfl))) (mvT hZ (hw _ (List.mem_of_getElem? (i := 30) rfl))) (by decide) (backOf (W := 0) (hD hF KF ZF) hZ (hw _ (List.mem_of_getElem? (i := 32) rfl)) (hw _ (List.mem_of_getElem? (i := 3) rfl)) (by decide) (by decide)) q29a q29c (g := (mkF m 92 #[.val (.int p1), .val (.ref b2), .val (.int ((p1 &&& (2147483647 : Int32)) % (8 : Int32))), .val (.ref wr), .val (.int (0 : Int32)), .val (.int (0 : Int32)), .unset] [(.ref wr)])) rfl (by rw [hml]; rfl) (Steps.refl _) (argsL := []) (rest := []) (lenOf pd0 rfl) rfl (by show 2 * 0 + _ ≤ _; exact Nat.le_of_eq rfl) (hb hby at_92) (fun _ _ => ⟨rfl, eQ28, (by decide : 1 + 0 ≤ _), (by decide : 8 + 0 ≤ _)⟩)
  dsimp only [Pt.U, Pt.locs, Pt.cells, Pt.slots] at X29 l29 y29 z29 st29 hQ29
  subst l29 y29 z29
  obtain ⟨rfl, N29q, eQ29⟩ := hQ29
  have N29 := Fr.app N28 N29q
  obtain ⟨fs, hr, hrun, hended, hW, hsame⟩ := X29.leave (v := some (.int (1 : Int32))) (fun h => by rw [Bd.returns] at h; cases h)
  refine ⟨_, _, pre0 _ ?_, hrun, hended, _, _, rfl, ?_, ⟨_, rfl⟩, hW, hsame.mono (by decide) (by decide)⟩
  · show Steps p.tables e below (s₁.setTop (mkF m 0 #[.val (.int p1), .unset, .unset, .unset, .unset, .unset, .unset] [])) _
    refine stF _ ?_
    show Steps p.tables e below (TF.setTop (mkF m 55 #[.val (.int p1), .unset, .unset, .unset, .unset, .unset, .unset] [(.ref b2)])) _
    refine XS.astoreN XF.here hx rfl (hb hby at_55) rfl rfl (l' := #[.val (.int p1), .val (.ref b2), .unset, .unset, .unset, .unset, .unset]) rfl ?_
    show Steps p.tables e below (TF.setTop (mkF m 56 #[.val (.int p1), .val (.ref b2), .unset, .unset, .unset, .unset, .unset] [])) _
    refine XS.iloadN XF.here hx rfl (hb hby at_56) rfl ?_
    show Steps p.tables e below (TF.setTop (mkF m 57 #[.val (.int p1), .val (.ref b2), .unset, .unset, .unset, .unset, .unset] [(.int p1)])) _
    refine XF.ldcInt hx hown (mvT hZ (hw _ (List.mem_of_getElem? (i := 20) rfl))) (g := (mkF m 57 #[.val (.int p1), .val (.ref b2), .unset, .unset, .unset, .unset, .unset] [(.int p1)])) rfl (hb hby at_57) _ ?_
    show Steps p.tables e below (TF.setTop (mkF m 59 #[.val (.int p1), .val (.ref b2), .unset, .unset, .unset, .unset, .unset] [(.int (2147483647 : Int32)), (.int p1)])) _
    refine XS.iand XF.here hx rfl (hb hby at_59) rfl ?_
    show Steps p.tables e below (TF.setTop (mkF m 60 #[.val (.int p1), .val (.ref b2), .unset, .unset, .unset, .unset, .unset] [(.int (p1 &&& (2147483647 : Int32)))])) _
    refine XS.bipush XF.here hx rfl (hb hby at_60) ?_
    show Steps p.tables e below (TF.setTop (mkF m 62 #[.val (.int p1), .val (.ref b2), .unset, .unset, .unset, .unset, .unset] [(.int (8 : Int32)), (.int (p1 &&& (2147483647 : Int32)))])) _
    refine iremM XF hx rfl (hb hby at_62) rfl (by decide) ?_
    show Steps p.tables e below (TF.setTop (mkF m 63 #[.val (.int p1), .val (.ref b2), .unset, .unset, .unset, .unset, .unset] [(.int ((p1 &&& (2147483647 : Int32)) % (8 : Int32)))])) _
    refine XS.istoreN XF.here hx rfl (hb hby at_63) rfl (l' := #[.val (.int p1), .val (.ref b2), .val (.int ((p1 &&& (2147483647 : Int32)) % (8 : Int32))), .unset, .unset, .unset, .unset]) rfl ?_
    show Steps p.tables e below (TF.setTop (mkF m 64 #[.val (.int p1), .val (.ref b2), .val (.int ((p1 &&& (2147483647 : Int32)) % (8 : Int32))), .unset, .unset, .unset, .unset] [])) _
    refine XS.aloadN XF.here hx rfl (hb hby at_64) rfl rfl ?_
    show Steps p.tables e below (TF.setTop (mkF m 65 #[.val (.int p1), .val (.ref b2), .val (.int ((p1 &&& (2147483647 : Int32)) % (8 : Int32))), .unset, .unset, .unset, .unset] [(.ref b2)])) _
    refine XS.iloadN XF.here hx rfl (hb hby at_65) rfl ?_
    show Steps p.tables e below (TF.setTop (mkF m 66 #[.val (.int p1), .val (.ref b2), .val (.int ((p1 &&& (2147483647 : Int32)) % (8 : Int32))), .unset, .unset, .unset, .unset] [(.int ((p1 &&& (2147483647 : Int32)) % (8 : Int32))), (.ref b2)])) _
    refine XF.aaload hx (j := ((p1 &&& (2147483647 : Int32)) % (8 : Int32))) (v := (.ref wr)) (by rw [eF]; exact Ar_b2.1) (State.isArrayOf_alike hZ.alike Ar_b2.2.1) rfl Ar_b2.2.2 hinF hatF (g := (mkF m 66 #[.val (.int p1), .val (.ref b2), .val (.int ((p1 &&& (2147483647 : Int32)) % (8 : Int32))), .unset, .unset, .unset, .unset] [(.int ((p1 &&& (2147483647 : Int32)) % (8 : Int32))), (.ref b2)])) rfl rfl (hb hby at_66) _ ?_
    show Steps p.tables e below (TF.setTop (mkF m 67 #[.val (.int p1), .val (.ref b2), .val (.int ((p1 &&& (2147483647 : Int32)) % (8 : Int32))), .unset, .unset, .unset, .unset] [(.ref wr)])) _
    refine XS.astoreN XF.here hx rfl (hb hby at_67) rfl rfl (l' := #[.val (.int p1), .val (.ref b2), .val (.int ((p1 &&& (2147483647 : Int32)) % (8 : Int32))), .val (.ref wr), .unset, .unset, .unset]) rfl ?_
    show Steps p.tables e below (TF.setTop (mkF m 68 #[.val (.int p1), .val (.ref b2), .val (.int ((p1 &&& (2147483647 : Int32)) % (8 : Int32))), .val (.ref wr), .unset, .unset, .unset] [])) _
    refine XS.aloadN XF.here hx rfl (hb hby at_68) rfl rfl ?_
    show Steps p.tables e below (TF.setTop (mkF m 69 #[.val (.int p1), .val (.ref b2), .val (.int ((p1 &&& (2147483647 : Int32)) % (8 : Int32))), .val (.ref wr), .unset, .unset, .unset] [(.ref wr)])) _
    refine st28.trans ?_
    show Steps p.tables e below (T28.setTop (mkF m 72 #[.val (.int p1), .val (.ref b2), .val (.int ((p1 &&& (2147483647 : Int32)) % (8 : Int32))), .val (.ref wr), .unset, .unset, .unset] [(.int (0 : Int32))])) _
    refine XS.istore X28.here hx rfl (hb hby at_72) rfl (l' := #[.val (.int p1), .val (.ref b2), .val (.int ((p1 &&& (2147483647 : Int32)) % (8 : Int32))), .val (.ref wr), .val (.int (0 : Int32)), .unset, .unset]) rfl ?_
    show Steps p.tables e below (T28.setTop (mkF m 74 #[.val (.int p1), .val (.ref b2), .val (.int ((p1 &&& (2147483647 : Int32)) % (8 : Int32))), .val (.ref wr), .val (.int (0 : Int32)), .unset, .unset] [])) _
    refine XS.iloadN X28.here hx rfl (hb hby at_74) rfl ?_
    show Steps p.tables e below (T28.setTop (mkF m 75 #[.val (.int p1), .val (.ref b2), .val (.int ((p1 &&& (2147483647 : Int32)) % (8 : Int32))), .val (.ref wr), .val (.int (0 : Int32)), .unset, .unset] [(.int ((p1 &&& (2147483647 : Int32)) % (8 : Int32)))])) _
    refine XS.iconst X28.here hx rfl (hb hby at_75) ?_
    show Steps p.tables e below (T28.setTop (mkF m 76 #[.val (.int p1), .val (.ref b2), .val (.int ((p1 &&& (2147483647 : Int32)) % (8 : Int32))), .val (.ref wr), .val (.int (0 : Int32)), .unset, .unset] [(.int (4 : Int32)), (.int ((p1 &&& (2147483647 : Int32)) % (8 : Int32)))])) _
    refine XS.icmpNo X28.here hx rfl (hb hby at_76) rfl (feq hc76).1 ?_
    show Steps p.tables e below (T28.setTop (mkF m 79 #[.val (.int p1), .val (.ref b2), .val (.int ((p1 &&& (2147483647 : Int32)) % (8 : Int32))), .val (.ref wr), .val (.int (0 : Int32)), .unset, .unset] [])) _
    refine XS.iloadN X28.here hx rfl (hb hby at_79) rfl ?_
    show Steps p.tables e below (T28.setTop (mkF m 80 #[.val (.int p1), .val (.ref b2), .val (.int ((p1 &&& (2147483647 : Int32)) % (8 : Int32))), .val (.ref wr), .val (.int (0 : Int32)), .unset, .unset] [(.int ((p1 &&& (2147483647 : Int32)) % (8 : Int32)))])) _
    refine XS.iconst X28.here hx rfl (hb hby at_80) ?_
    show Steps p.tables e below (T28.setTop (mkF m 81 #[.val (.int p1), .val (.ref b2), .val (.int ((p1 &&& (2147483647 : Int32)) % (8 : Int32))), .val (.ref wr), .val (.int (0 : Int32)), .unset, .unset] [(.int (5 : Int32)), (.int ((p1 &&& (2147483647 : Int32)) % (8 : Int32)))])) _
    refine XS.icmpYes X28.here hx rfl (pc0 := 81) (pc' := 88) rfl (hb hby at_81) rfl (feq hc81).2 (by decide) (by decide) ?_
    show Steps p.tables e below (T28.setTop (mkF m 88 #[.val (.int p1), .val (.ref b2), .val (.int ((p1 &&& (2147483647 : Int32)) % (8 : Int32))), .val (.ref wr), .val (.int (0 : Int32)), .unset, .unset] [])) _
    refine XS.iconst X28.here hx rfl (hb hby at_88) ?_
    show Steps p.tables e below (T28.setTop (mkF m 89 #[.val (.int p1), .val (.ref b2), .val (.int ((p1 &&& (2147483647 : Int32)) % (8 : Int32))), .val (.ref wr), .val (.int (0 : Int32)), .unset, .unset] [(.int (0 : Int32))])) _
    refine XS.istore X28.here hx rfl (hb hby at_89) rfl (l' := #[.val (.int p1), .val (.ref b2), .val (.int ((p1 &&& (2147483647 : Int32)) % (8 : Int32))), .val (.ref wr), .val (.int (0 : Int32)), .val (.int (0 : Int32)), .unset]) rfl ?_
    show Steps p.tables e below (T28.setTop (mkF m 91 #[.val (.int p1), .val (.ref b2), .val (.int ((p1 &&& (2147483647 : Int32)) % (8 : Int32))), .val (.ref wr), .val (.int (0 : Int32)), .val (.int (0 : Int32)), .unset] [])) _
    refine XS.aloadN X28.here hx rfl (hb hby at_91) rfl rfl ?_
    show Steps p.tables e below (T28.setTop (mkF m 92 #[.val (.int p1), .val (.ref b2), .val (.int ((p1 &&& (2147483647 : Int32)) % (8 : Int32))), .val (.ref wr), .val (.int (0 : Int32)), .val (.int (0 : Int32)), .unset] [(.ref wr)])) _
    refine st29.trans ?_
    show Steps p.tables e below (T29.setTop (mkF m 95 #[.val (.int p1), .val (.ref b2), .val (.int ((p1 &&& (2147483647 : Int32)) % (8 : Int32))), .val (.ref wr), .val (.int (0 : Int32)), .val (.int (0 : Int32)), .unset] [(.int (0 : Int32))])) _
    refine XS.ifYes X29.here hx rfl (pc0 := 95) (pc' := 109) rfl (hb hby at_95) rfl ((if0 _ _).trans (teq (rfl : (0 : Int32) = (0 : Int32))).1) (by decide) (by decide) ?_
    show Steps p.tables e below (T29.setTop (mkF m 109 #[.val (.int p1), .val (.ref b2), .val (.int ((p1 &&& (2147483647 : Int32)) % (8 : Int32))), .val (.ref wr), .val (.int (0 : Int32)), .val (.int (0 : Int32)), .unset] [])) _
    refine XS.iconst X29.here hx rfl (hb hby at_109) ?_
    show Steps p.tables e below (T29.setTop (mkF m 110 #[.val (.int p1), .val (.ref b2), .val (.int ((p1 &&& (2147483647 : Int32)) % (8 : Int32))), .val (.ref wr), .val (.int (0 : Int32)), .val (.int (0 : Int32)), .unset] [(.int (0 : Int32))])) _
    refine XS.istore X29.here hx rfl (hb hby at_110) rfl (l' := #[.val (.int p1), .val (.ref b2), .val (.int ((p1 &&& (2147483647 : Int32)) % (8 : Int32))), .val (.ref wr), .val (.int (0 : Int32)), .val (.int (0 : Int32)), .val (.int (0 : Int32))]) rfl ?_
    show Steps p.tables e below (T29.setTop (mkF m 112 #[.val (.int p1), .val (.ref b2), .val (.int ((p1 &&& (2147483647 : Int32)) % (8 : Int32))), .val (.ref wr), .val (.int (0 : Int32)), .val (.int (0 : Int32)), .val (.int (0 : Int32))] [])) _
    refine XS.iload X29.here hx rfl (hb hby at_112) rfl ?_
    show Steps p.tables e below (T29.setTop (mkF m 114 #[.val (.int p1), .val (.ref b2), .val (.int ((p1 &&& (2147483647 : Int32)) % (8 : Int32))), .val (.ref wr), .val (.int (0 : Int32)), .val (.int (0 : Int32)), .val (.int (0 : Int32))] [(.int (0 : Int32))])) _
    refine XS.iload X29.here hx rfl (hb hby at_114) rfl ?_
    show Steps p.tables e below (T29.setTop (mkF m 116 #[.val (.int p1), .val (.ref b2), .val (.int ((p1 &&& (2147483647 : Int32)) % (8 : Int32))), .val (.ref wr), .val (.int (0 : Int32)), .val (.int (0 : Int32)), .val (.int (0 : Int32))] [(.int (0 : Int32)), (.int (0 : Int32))])) _
    refine XS.icmpNo X29.here hx rfl (hb hby at_116) rfl (teq (rfl : (0 : Int32) = (0 : Int32))).2 ?_
    show Steps p.tables e below (T29.setTop (mkF m 119 #[.val (.int p1), .val (.ref b2), .val (.int ((p1 &&& (2147483647 : Int32)) % (8 : Int32))), .val (.ref wr), .val (.int (0 : Int32)), .val (.int (0 : Int32)), .val (.int (0 : Int32))] [])) _
    refine XS.iload X29.here hx rfl (hb hby at_119) rfl ?_
    show Steps p.tables e below (T29.setTop (mkF m 121 #[.val (.int p1), .val (.ref b2), .val (.int ((p1 &&& (2147483647 : Int32)) % (8 : Int32))), .val (.ref wr), .val (.int (0 : Int32)), .val (.int (0 : Int32)), .val (.int (0 : Int32))] [(.int (0 : Int32))])) _
    refine XS.iload X29.here hx rfl (hb hby at_121) rfl ?_
    show Steps p.tables e below (T29.setTop (mkF m 123 #[.val (.int p1), .val (.ref b2), .val (.int ((p1 &&& (2147483647 : Int32)) % (8 : Int32))), .val (.ref wr), .val (.int (0 : Int32)), .val (.int (0 : Int32)), .val (.int (0 : Int32))] [(.int (0 : Int32)), (.int (0 : Int32))])) _
    refine XS.icmpNo X29.here hx rfl (hb hby at_123) rfl (teq (rfl : (0 : Int32) = (0 : Int32))).2 ?_
    show Steps p.tables e below (T29.setTop (mkF m 126 #[.val (.int p1), .val (.ref b2), .val (.int ((p1 &&& (2147483647 : Int32)) % (8 : Int32))), .val (.ref wr), .val (.int (0 : Int32)), .val (.int (0 : Int32)), .val (.int (0 : Int32))] [])) _
    refine XS.iconst X29.here hx rfl (hb hby at_126) ?_
    show Steps p.tables e below (T29.setTop (mkF m 127 #[.val (.int p1), .val (.ref b2), .val (.int ((p1 &&& (2147483647 : Int32)) % (8 : Int32))), .val (.ref wr), .val (.int (0 : Int32)), .val (.int (0 : Int32)), .val (.int (0 : Int32))] [(.int (1 : Int32))])) _
    refine XS.goto X29.here hx rfl (pc0 := 127) (pc' := 131) rfl (hb hby at_127) (by decide) (by decide) ?_
    show Steps p.tables e below (T29.setTop (mkF m 131 #[.val (.int p1), .val (.ref b2), .val (.int ((p1 &&& (2147483647 : Int32)) % (8 : Int32))), .val (.ref wr), .val (.int (0 : Int32)), .val (.int (0 : Int32)), .val (.int (0 : Int32))] [(.int (1 : Int32))])) _
    exact retN X29 hx (t := .boolean) Bd.returns (by simp) (hb hby at_131) hr
  · show QL n0 _ T29.heap _
    exact ⟨rfl, N29⟩
theorem rm0 (l : Launch) (Z : State) (a0 : Array Value) (hw : ∀ d ∈ tables_1, d.before a0 Z = true) (ws : List Jvm.Cond) (p1 : Int32) (u_SPAWNING u_IDLE u_RUNNING u_DEGRADED u_UNRESPONSIVE u_FAILED u_QUARANTINED u_TERMINATED : Addr) (h0 : Heap) (n0 : Nat) (Z0 : n0 ≤ h0.size) (S_SPAWNING : Sta Z h0 "com/example/ouessant/ouessant/model/AgentStatus" "SPAWNING" "Lcom/example/ouessant/ouessant/model/AgentStatus;" (.ref u_SPAWNING)) (E_SPAWNING : Exa Z h0 u_SPAWNING "com/example/ouessant/ouessant/model/AgentStatus") (S_IDLE : Sta Z h0 "com/example/ouessant/ouessant/model/AgentStatus" "IDLE" "Lcom/example/ouessant/ouessant/model/AgentStatus;" (.ref u_IDLE)) (E_IDLE : Exa Z h0 u_IDLE "com/example/ouessant/ouessant/model/AgentStatus") (S_RUNNING : Sta Z h0 "com/example/ouessant/ouessant/model/AgentStatus" "RUNNING" "Lcom/example/ouessant/ouessant/model/AgentStatus;" (.ref u_RUNNING)) (E_RUNNING : Exa Z h0 u_RUNNING "com/example/ouessant/ouessant/model/AgentStatus") (S_DEGRADED : Sta Z h0 "com/example/ouessant/ouessant/model/AgentStatus" "DEGRADED" "Lcom/example/ouessant/ouessant/model/AgentStatus;" (.ref u_DEGRADED)) (E_DEGRADED : Exa Z h0 u_DEGRADED "com/example/ouessant/ouessant/model/AgentStatus") (S_UNRESPONSIVE : Sta Z h0 "com/example/ouessant/ouessant/model/AgentStatus" "UNRESPONSIVE" "Lcom/example/ouessant/ouessant/model/AgentStatus;" (.ref u_UNRESPONSIVE)) (E_UNRESPONSIVE : Exa Z h0 u_UNRESPONSIVE "com/example/ouessant/ouessant/model/AgentStatus") (S_FAILED : Sta Z h0 "com/example/ouessant/ouessant/model/AgentStatus" "FAILED" "Lcom/example/ouessant/ouessant/model/AgentStatus;" (.ref u_FAILED)) (E_FAILED : Exa Z h0 u_FAILED "com/example/ouessant/ouessant/model/AgentStatus") (S_QUARANTINED : Sta Z h0 "com/example/ouessant/ouessant/model/AgentStatus" "QUARANTINED" "Lcom/example/ouessant/ouessant/model/AgentStatus;" (.ref u_QUARANTINED)) (E_QUARANTINED : Exa Z h0 u_QUARANTINED "com/example/ouessant/ouessant/model/AgentStatus") (S_TERMINATED : Sta Z h0 "com/example/ouessant/ouessant/model/AgentStatus" "TERMINATED" "Lcom/example/ouessant/ouessant/model/AgentStatus;" (.ref u_TERMINATED)) (E_TERMINATED : Exa Z h0 u_TERMINATED "com/example/ouessant/ouessant/model/AgentStatus") (F_SPAWNING : Fld Z h0 u_SPAWNING "java/lang/Enum" "ordinal" "I" (.int (0 : Int32))) (F_UNRESPONSIVE : Fld Z h0 u_UNRESPONSIVE "java/lang/Enum" "ordinal" "I" (.int (4 : Int32))) (F_FAILED : Fld Z h0 u_FAILED "java/lang/Enum" "ordinal" "I" (.int (5 : Int32))) (F_TERMINATED : Fld Z h0 u_TERMINATED "java/lang/Enum" "ordinal" "I" (.int (7 : Int32))) (F_DEGRADED : Fld Z h0 u_DEGRADED "java/lang/Enum" "ordinal" "I" (.int (3 : Int32))) (F_QUARANTINED : Fld Z h0 u_QUARANTINED "java/lang/Enum" "ordinal" "I" (.int (6 : Int32))) (F_RUNNING : Fld Z h0 u_RUNNING "java/lang/Enum" "ordinal" "I" (.int (2 : Int32))) (F_IDLE : Fld Z h0 u_IDLE "java/lang/Enum" "ordinal" "I" (.int (1 : Int32))) :
    MetFree l x (head1 (Jvm.Cond.code x code maxLocals ret :: ws) room_1) (fun a U => a = #[(.int p1)] ∧ Z.Warmed39 U.vm ∧ U.heap = h0) (fun _ _ _ _ _ => True) (fun _ U o U' => ∃ v L, o = .returned v ∧ QL n0 v U'.heap L ∧ FrameEnd U o U' L room_1.cells room_1.slots) := by
  rcases own_cases ((p1 &&& (2147483647 : Int32)) % (8 : Int32)) (own_rem p1 8 (by decide)) with hK | hK | hK | hK | hK | hK | hK | hK
  · exact rm0D l Z a0 hw ws p1 u_SPAWNING u_IDLE u_RUNNING u_DEGRADED u_UNRESPONSIVE u_FAILED u_QUARANTINED u_TERMINATED u_SPAWNING h0 n0 Z0 S_SPAWNING E_SPAWNING S_IDLE E_IDLE S_RUNNING E_RUNNING S_DEGRADED E_DEGRADED S_UNRESPONSIVE E_UNRESPONSIVE S_FAILED E_FAILED S_QUARANTINED E_QUARANTINED S_TERMINATED E_TERMINATED E_SPAWNING (by rw [hK] <;> decide) (by rw [hK]; rfl) (fun h K Zh => (rm1ft l Z a0 hw [] u_SPAWNING u_UNRESPONSIVE u_FAILED h n0 Zh (own_staK S_UNRESPONSIVE K) (own_staK S_FAILED K) (own_ne F_SPAWNING F_UNRESPONSIVE (by decide)) (own_ne F_SPAWNING F_FAILED (by decide)))) (fun h K Zh => (rm2fft l Z a0 hw [] u_SPAWNING u_UNRESPONSIVE u_FAILED u_TERMINATED h n0 Zh (own_staK S_UNRESPONSIVE K) (own_staK S_FAILED K) (own_staK S_TERMINATED K) (own_ne F_SPAWNING F_UNRESPONSIVE (by decide)) (own_ne F_SPAWNING F_FAILED (by decide)) (own_ne F_SPAWNING F_TERMINATED (by decide)))) (by rw [hK] <;> decide) (by rw [hK] <;> decide)
  · exact rm0D l Z a0 hw ws p1 u_SPAWNING u_IDLE u_RUNNING u_DEGRADED u_UNRESPONSIVE u_FAILED u_QUARANTINED u_TERMINATED u_IDLE h0 n0 Z0 S_SPAWNING E_SPAWNING S_IDLE E_IDLE S_RUNNING E_RUNNING S_DEGRADED E_DEGRADED S_UNRESPONSIVE E_UNRESPONSIVE S_FAILED E_FAILED S_QUARANTINED E_QUARANTINED S_TERMINATED E_TERMINATED E_IDLE (by rw [hK] <;> decide) (by rw [hK]; rfl) (fun h K Zh => (rm1ft l Z a0 hw [] u_IDLE u_UNRESPONSIVE u_FAILED h n0 Zh (own_staK S_UNRESPONSIVE K) (own_staK S_FAILED K) (own_ne F_IDLE F_UNRESPONSIVE (by decide)) (own_ne F_IDLE F_FAILED (by decide)))) (fun h K Zh => (rm2fft l Z a0 hw [] u_IDLE u_UNRESPONSIVE u_FAILED u_TERMINATED h n0 Zh (own_staK S_UNRESPONSIVE K) (own_staK S_FAILED K) (own_staK S_TERMINATED K) (own_ne F_IDLE F_UNRESPONSIVE (by decide)) (own_ne F_IDLE F_FAILED (by decide)) (own_ne F_IDLE F_TERMINATED (by decide)))) (by rw [hK] <;> decide) (by rw [hK] <;> decide)
  · exact rm0D l Z a0 hw ws p1 u_SPAWNING u_IDLE u_RUNNING u_DEGRADED u_UNRESPONSIVE u_FAILED u_QUARANTINED u_TERMINATED u_RUNNING h0 n0 Z0 S_SPAWNING E_SPAWNING S_IDLE E_IDLE S_RUNNING E_RUNNING S_DEGRADED E_DEGRADED S_UNRESPONSIVE E_UNRESPONSIVE S_FAILED E_FAILED S_QUARANTINED E_QUARANTINED S_TERMINATED E_TERMINATED E_RUNNING (by rw [hK] <;> decide) (by rw [hK]; rfl) (fun h K Zh => (rm1ft l Z a0 hw [] u_RUNNING u_UNRESPONSIVE u_FAILED h n0 Zh (own_staK S_UNRESPONSIVE K) (own_staK S_FAILED K) (own_ne F_RUNNING F_UNRESPONSIVE (by decide)) (own_ne F_RUNNING F_FAILED (by decide)))) (fun h K Zh => (rm2fft l Z a0 hw [] u_RUNNING u_UNRESPONSIVE u_FAILED u_TERMINATED h n0 Zh (own_staK S_UNRESPONSIVE K) (own_staK S_FAILED K) (own_staK S_TERMINATED K) (own_ne F_RUNNING F_UNRESPONSIVE (by decide)) (own_ne F_RUNNING F_FAILED (by decide)) (own_ne F_RUNNING F_TERMINATED (by decide)))) (by rw [hK] <;> decide) (by rw [hK] <;> decide)
  · exact rm0D l Z a0 hw ws p1 u_SPAWNING u_IDLE u_RUNNING u_DEGRADED u_UNRESPONSIVE u_FAILED u_QUARANTINED u_TERMINATED u_DEGRADED h0 n0 Z0 S_SPAWNING E_SPAWNING S_IDLE E_IDLE S_RUNNING E_RUNNING S_DEGRADED E_DEGRADED S_UNRESPONSIVE E_UNRESPONSIVE S_FAILED E_FAILED S_QUARANTINED E_QUARANTINED S_TERMINATED E_TERMINATED E_DEGRADED (by rw [hK] <;> decide) (by rw [hK]; rfl) (fun h K Zh => (rm1ft l Z a0 hw [] u_DEGRADED u_UNRESPONSIVE u_FAILED h n0 Zh (own_staK S_UNRESPONSIVE K) (own_staK S_FAILED K) (own_ne F_DEGRADED F_UNRESPONSIVE (by decide)) (own_ne F_DEGRADED F_FAILED (by decide)))) (fun h K Zh => (rm2fft l Z a0 hw [] u_DEGRADED u_UNRESPONSIVE u_FAILED u_TERMINATED h n0 Zh (own_staK S_UNRESPONSIVE K) (own_staK S_FAILED K) (own_staK S_TERMINATED K) (own_ne F_DEGRADED F_UNRESPONSIVE (by decide)) (own_ne F_DEGRADED F_FAILED (by decide)) (own_ne F_DEGRADED F_TERMINATED (by decide)))) (by rw [hK] <;> decide) (by rw [hK] <;> decide)
  · exact rm0A l Z a0 hw ws p1 u_SPAWNING u_IDLE u_RUNNING u_DEGRADED u_UNRESPONSIVE u_FAILED u_QUARANTINED u_TERMINATED u_UNRESPONSIVE h0 n0 Z0 S_SPAWNING E_SPAWNING S_IDLE E_IDLE S_RUNNING E_RUNNING S_DEGRADED E_DEGRADED S_UNRESPONSIVE E_UNRESPONSIVE S_FAILED E_FAILED S_QUARANTINED E_QUARANTINED S_TERMINATED E_TERMINATED E_UNRESPONSIVE (by rw [hK] <;> decide) (by rw [hK]; rfl) (fun h K Zh => (rm1t l Z a0 hw [] u_UNRESPONSIVE u_UNRESPONSIVE h n0 Zh (own_staK S_UNRESPONSIVE K) rfl)) (fun h K Zh => (rm2t l Z a0 hw [] u_UNRESPONSIVE u_UNRESPONSIVE h n0 Zh (own_staK S_UNRESPONSIVE K) rfl)) (by rw [hK] <;> decide) (own_ne F_UNRESPONSIVE F_TERMINATED (by decide))
  · exact rm0B l Z a0 hw ws p1 u_SPAWNING u_IDLE u_RUNNING u_DEGRADED u_UNRESPONSIVE u_FAILED u_QUARANTINED u_TERMINATED u_FAILED h0 n0 Z0 S_SPAWNING E_SPAWNING S_IDLE E_IDLE S_RUNNING E_RUNNING S_DEGRADED E_DEGRADED S_UNRESPONSIVE E_UNRESPONSIVE S_FAILED E_FAILED S_QUARANTINED E_QUARANTINED S_TERMINATED E_TERMINATED E_FAILED (by rw [hK] <;> decide) (by rw [hK]; rfl) (fun h K Zh => (rm1ff l Z a0 hw [] u_FAILED u_UNRESPONSIVE u_FAILED h n0 Zh (own_staK S_UNRESPONSIVE K) (own_staK S_FAILED K) (own_ne F_FAILED F_UNRESPONSIVE (by decide)) rfl)) (fun h K Zh => (rm2ft l Z a0 hw [] u_FAILED u_UNRESPONSIVE u_FAILED h n0 Zh (own_staK S_UNRESPONSIVE K) (own_staK S_FAILED K) (own_ne F_FAILED F_UNRESPONSIVE (by decide)) rfl)) (by rw [hK] <;> decide) (by rw [hK] <;> decide) (own_ne F_FAILED F_TERMINATED (by decide))
  · exact rm0D l Z a0 hw ws p1 u_SPAWNING u_IDLE u_RUNNING u_DEGRADED u_UNRESPONSIVE u_FAILED u_QUARANTINED u_TERMINATED u_QUARANTINED h0 n0 Z0 S_SPAWNING E_SPAWNING S_IDLE E_IDLE S_RUNNING E_RUNNING S_DEGRADED E_DEGRADED S_UNRESPONSIVE E_UNRESPONSIVE S_FAILED E_FAILED S_QUARANTINED E_QUARANTINED S_TERMINATED E_TERMINATED E_QUARANTINED (by rw [hK] <;> decide) (by rw [hK]; rfl) (fun h K Zh => (rm1ft l Z a0 hw [] u_QUARANTINED u_UNRESPONSIVE u_FAILED h n0 Zh (own_staK S_UNRESPONSIVE K) (own_staK S_FAILED K) (own_ne F_QUARANTINED F_UNRESPONSIVE (by decide)) (own_ne F_QUARANTINED F_FAILED (by decide)))) (fun h K Zh => (rm2fft l Z a0 hw [] u_QUARANTINED u_UNRESPONSIVE u_FAILED u_TERMINATED h n0 Zh (own_staK S_UNRESPONSIVE K) (own_staK S_FAILED K) (own_staK S_TERMINATED K) (own_ne F_QUARANTINED F_UNRESPONSIVE (by decide)) (own_ne F_QUARANTINED F_FAILED (by decide)) (own_ne F_QUARANTINED F_TERMINATED (by decide)))) (by rw [hK] <;> decide) (by rw [hK] <;> decide)
  · exact rm0C l Z a0 hw ws p1 u_SPAWNING u_IDLE u_RUNNING u_DEGRADED u_UNRESPONSIVE u_FAILED u_QUARANTINED u_TERMINATED u_TERMINATED h0 n0 Z0 S_SPAWNING E_SPAWNING S_IDLE E_IDLE S_RUNNING E_RUNNING S_DEGRADED E_DEGRADED S_UNRESPONSIVE E_UNRESPONSIVE S_FAILED E_FAILED S_QUARANTINED E_QUARANTINED S_TERMINATED E_TERMINATED E_TERMINATED (by rw [hK] <;> decide) (by rw [hK]; rfl) (fun h K Zh => (rm1ft l Z a0 hw [] u_TERMINATED u_UNRESPONSIVE u_FAILED h n0 Zh (own_staK S_UNRESPONSIVE K) (own_staK S_FAILED K) (own_ne F_TERMINATED F_UNRESPONSIVE (by decide)) (own_ne F_TERMINATED F_FAILED (by decide)))) (fun h K Zh => (rm2fff l Z a0 hw [] u_TERMINATED u_UNRESPONSIVE u_FAILED u_TERMINATED h n0 Zh (own_staK S_UNRESPONSIVE K) (own_staK S_FAILED K) (own_staK S_TERMINATED K) (own_ne F_TERMINATED F_UNRESPONSIVE (by decide)) (own_ne F_TERMINATED F_FAILED (by decide)) rfl)) (by rw [hK] <;> decide) (by rw [hK] <;> decide) rfl
set_option maxRecDepth 65536 in
set_option maxHeartbeats 40000000 in
theorem comes_1 {Post : Tables → Env → Array Value → State → Outcome → State → Prop} (hpost : ∀ tb e args s v u, (limb_1_1.after args s (.returned v) u = true ∧ limb_1_2.after args s (.returned v) u = true ∧ True) → FrameEnd s (.returned v) u (Jvm.fieldLocs frame_1_writes args s ++ Jvm.arrayLocs frame_1_arrays args s ++ Jvm.staticLocs frame_1_statics s) 16 128 → Post tb e args s (.returned v) u) :
    ArmFor flags0 classFile x code maxLocals ret World_1 tables_1 room_1 Calls_1 rest_1 Pre_1 Post := by
  intro l hfl _ _ p e ha hc hk s m args below hf hA hF happ hP
  obtain ⟨hcalls, hrest, hpre⟩ := hP
  obtain ⟨-, -, -, hnamed, -, -, -, hat⟩ := (Spec.applies_iff hf).mp happ
  obtain ⟨hg, hn⟩ := and_e (Cond.before_iff.mp (show (Jvm.Cond.and given_1 narrow_1).before args s = true from hpre))
  obtain ⟨g30, g31⟩ := and_e hg
  obtain ⟨w0, rfl⟩ : ∃ w0 : Value, args = #[w0] := by
    have hs : args.size = 1 := by simpa [Cond.value, given_1] using g30
    obtain ⟨L⟩ := args
    match L, hs with
    | [w0], _ => exact ⟨w0, rfl⟩
  have hw := fun d (hd : d ∈ tables_1) => atoms_spec (ws := Jvm.Cond.code x code maxLocals ret :: tables_1) hat d (List.mem_cons_of_mem _ hd)
  have hfit : Fit s := fun {y c} hc i hi => by
    obtain ⟨ha, rfl⟩ := Array.getElem?_eq_some_iff.mp hc
    have q := List.all_eq_true.mp ((Array.all_eq_true_iff_forall_mem.mp hF) _ (Array.getElem_mem ha)) i (List.mem_range.mpr hi)
    simpa [Array.getElem?_eq_getElem hi] using q
  obtain ⟨i0, ei0⟩ := is_v g31
  obtain rfl : w0 = (.int i0) := Option.some.inj ei0
  obtain ⟨nn0, nr0⟩ := and_e hn
  obtain ⟨nn1, nr1⟩ := and_e nr0
  obtain ⟨nn2, nr2⟩ := and_e nr1
  obtain ⟨nn3, nr3⟩ := and_e nr2
  obtain ⟨nn4, nr4⟩ := and_e nr3
  obtain ⟨nn5, nr5⟩ := and_e nr4
  obtain ⟨nn6, nr6⟩ := and_e nr5
  obtain ⟨nn7, nr7⟩ := and_e nr6
  obtain ⟨nn8, nr8⟩ := and_e nr7
  obtain ⟨nn9, nr9⟩ := and_e nr8
  obtain ⟨nn10, nr10⟩ := and_e nr9
  obtain ⟨nn11, nr11⟩ := and_e nr10
  obtain ⟨nn12, nr12⟩ := and_e nr11
  obtain ⟨nn13, nr13⟩ := and_e nr12
  obtain ⟨nn14, nr14⟩ := and_e nr13
  obtain ⟨u_SPAWNING, ev_SPAWNING, S_SPAWNING, E_SPAWNING⟩ := own_sta nn0 (hw _ (List.mem_of_getElem? (i := 3) rfl)) (hw _ (List.mem_of_getElem? (i := 4) rfl))
  obtain ⟨u_IDLE, ev_IDLE, S_IDLE, E_IDLE⟩ := own_sta nn1 (hw _ (List.mem_of_getElem? (i := 3) rfl)) (hw _ (List.mem_of_getElem? (i := 7) rfl))
  obtain ⟨u_RUNNING, ev_RUNNING, S_RUNNING, E_RUNNING⟩ := own_sta nn2 (hw _ (List.mem_of_getElem? (i := 3) rfl)) (hw _ (List.mem_of_getElem? (i := 9) rfl))
  obtain ⟨u_DEGRADED, ev_DEGRADED, S_DEGRADED, E_DEGRADED⟩ := own_sta nn3 (hw _ (List.mem_of_getElem? (i := 3) rfl)) (hw _ (List.mem_of_getElem? (i := 11) rfl))
  obtain ⟨u_UNRESPONSIVE, ev_UNRESPONSIVE, S_UNRESPONSIVE, E_UNRESPONSIVE⟩ := own_sta nn4 (hw _ (List.mem_of_getElem? (i := 3) rfl)) (hw _ (List.mem_of_getElem? (i := 13) rfl))
  obtain ⟨u_FAILED, ev_FAILED, S_FAILED, E_FAILED⟩ := own_sta nn5 (hw _ (List.mem_of_getElem? (i := 3) rfl)) (hw _ (List.mem_of_getElem? (i := 15) rfl))
  obtain ⟨u_QUARANTINED, ev_QUARANTINED, S_QUARANTINED, E_QUARANTINED⟩ := own_sta nn6 (hw _ (List.mem_of_getElem? (i := 3) rfl)) (hw _ (List.mem_of_getElem? (i := 17) rfl))
  obtain ⟨u_TERMINATED, ev_TERMINATED, S_TERMINATED, E_TERMINATED⟩ := own_sta nn7 (hw _ (List.mem_of_getElem? (i := 3) rfl)) (hw _ (List.mem_of_getElem? (i := 19) rfl))
  have F_SPAWNING := own_fld ev_SPAWNING nn8
  have F_UNRESPONSIVE := own_fld ev_UNRESPONSIVE nn9
  have F_FAILED := own_fld ev_FAILED nn10
  have F_TERMINATED := own_fld ev_TERMINATED nn11
  have F_DEGRADED := own_fld ev_DEGRADED nn12
  have F_QUARANTINED := own_fld ev_QUARANTINED nn13
  have F_RUNNING := own_fld ev_RUNNING nn14
  have F_IDLE := own_fld ev_IDLE nr14
  obtain ⟨n, o, h1, h2, h3, _, L, rfl, ⟨rfl, N⟩, hq⟩ := rm0 l s _ hw tables_1 i0 u_SPAWNING u_IDLE u_RUNNING u_DEGRADED u_UNRESPONSIVE u_FAILED u_QUARANTINED u_TERMINATED s.heap s.heap.size (Nat.le_refl _) S_SPAWNING E_SPAWNING S_IDLE E_IDLE S_RUNNING E_RUNNING S_DEGRADED E_DEGRADED S_UNRESPONSIVE E_UNRESPONSIVE S_FAILED E_FAILED S_QUARANTINED E_QUARANTINED S_TERMINATED E_TERMINATED F_SPAWNING F_UNRESPONSIVE F_FAILED F_TERMINATED F_DEGRADED F_QUARANTINED F_RUNNING F_IDLE p e ha hc hk s m _ below hf ((Spec.applies_iff_loose hf).mp happ).1 ⟨rfl, State.Warmed39.refl s, rfl⟩ trivial
  refine ⟨n, _, h1, h2, h3, hpost _ _ _ _ _ _ ⟨Cond.after_iff.mpr rfl, Cond.after_iff.mpr (eq_i res_at (Term.int_eval (1)) rfl), trivial⟩ ⟨hq.1, hq.2.1, (hq.2.2.sift fun y hy => Or.inr (N y hy)).mono (by decide) (by decide)⟩⟩
theorem main_1_1 : Claimed_1_1 := comes_1 fun _ _ _ _ _ _ h hF => ⟨h.1, hF⟩
theorem main_1_2 : Claimed_1_2 := comes_1 fun _ _ _ _ _ _ h hF => ⟨h.2.1, hF⟩
end Jvm.Pilot.@@N@@
namespace Jvm.Pilot.@@N@@
open Jvm Jvm.ClassFile Sem Op Lib Jvm.Free Jvm.Stand Jvm.Pilot.@@N@@.Jvm.D
/-! MADE BY PROGRAM (witnessworld.py) out of the Statement's table words and the real class files: 13 classes; the members and pool entries that the words name. The judged class is class 1, her method 1. -/
namespace start1
open Jvm.ClassFile
def u (s : String) : CpInfo := .utf8 (stringToUtf16 s)
/-- a pool by its gaps: so many unusable entries, then the entry; so many at the end -/
def gap : Nat → List CpInfo → List CpInfo
  | 0, r => r
  | n + 1, r => .unusable :: gap n r
def poolList (es : List (Nat × CpInfo)) (last : Nat) : List CpInfo := es.foldr (fun e r => gap e.1 (e.2 :: r)) (gap last [])
def pool (es : List (Nat × CpInfo)) (last : Nat) : Array CpInfo := ⟨poolList es last⟩
def fileOf (pool : Array CpInfo) (this : Nat) (attrs : Array Attribute := #[]) (ms : Array MethodInfo := #[]) (fl : Nat := 33) (sup : Nat := 0) (ifs : Array Nat := #[]) (fds : Array FieldInfo := #[]) : ClassFile where
  minorVersion := 0
  majorVersion := 65
  constantPool := pool
  accessFlags := fl
  thisClass := this
  superClass := sup
  interfaces := ifs
  fields := fds
  methods := ms
  attributes := attrs
def plain (name : String) (sup : Option ClassId) : Class where
  name := name
  kind := .ordinary
  loader := none
  accessFlags := 33
  super := sup
  interfaces := #[]
  cf := none
  fields := #[]
  methods := #[]
  instanceTypes := #[]
  staticTypes := #[]
  resolved := #[]
  callSites := []
  init := .initialized
  statics := none
  mirror := none

def pool0 : Array CpInfo := pool [(5, u "<init>"), (0, u "()V"), (1, .class_ 10), (1, u "java/lang/Object")] 113

def k0m0 : Method := { name := "<init>", desc := "()V", sig := { parameters := [], returnType := none }, accessFlags := 1, code := none }
/-- java/lang/Object -/
def k0 : Class := { plain "java/lang/Object" none with
  accessFlags := 33
  interfaces := #[]
  cf := some (fileOf pool0 8 #[] #[{ accessFlags := 1, nameIndex := 5, descriptorIndex := 6, attributes := #[] }] 33 0 #[] #[])
  fields := #[]
  methods := #[k0m0]
  instanceTypes := #[]
  staticTypes := #[]
  resolved := Array.replicate 124 none
  statics := none }

def pool1 : Array CpInfo := pool [(2, .class_ 4), (1, u "java/lang/Object"), (0, u "<init>"), (0, u "()V"), (0, .class_ 8), (0, u "com/example/ouessant/ouessant/model/AgentStatus"), (0, .fieldref 7 10), (0, .nameAndType 11 12), (0, u "SPAWNING"), (0, u "Lcom/example/ouessant/ouessant/model/AgentStatus;"), (0, .fieldref 7 14), (0, .nameAndType 15 12), (0, u "IDLE"), (0, .fieldref 7 17), (0, .nameAndType 18 12), (0, u "RUNNING"), (0, .fieldref 7 20), (0, .nameAndType 21 12), (0, u "DEGRADED"), (0, .fieldref 7 23), (0, .nameAndType 24 12), (0, u "UNRESPONSIVE"), (0, .fieldref 7 26), (0, .nameAndType 27 12), (0, u "FAILED"), (0, .fieldref 7 29), (0, .nameAndType 30 12), (0, u "QUARANTINED"), (0, .fieldref 7 32), (0, .nameAndType 33 12), (0, u "TERMINATED"), (0, .integer 2147483647), (0, .methodref 7 36), (0, .nameAndType 37 38), (0, u "isMarked"), (0, u "()Z"), (0, .methodref 7 40), (0, .nameAndType 41 38), (0, u "isFenced"), (0, .class_ 43), (0, u "com/example/ouessant/ouessant/model/AgentStatusIsMarkedPinLaw"), (2, u "law"), (0, u "(I)Z")] 5

def k1m0 : Method := { name := "<init>", desc := "()V", sig := { parameters := [], returnType := none }, accessFlags := 1, code := none }
def k1c1 : Code := { maxStack := 4, maxLocals := 7, code := code, exceptionTable := #[], attributes := #[] }
def k1m1 : Method := { name := "law", desc := "(I)Z", sig := { parameters := [.int], returnType := some .boolean }, accessFlags := 9, code := some k1c1 }
/-- com/example/ouessant/ouessant/model/AgentStatusIsMarkedPinLaw -/
def k1 : Class := { plain "com/example/ouessant/ouessant/model/AgentStatusIsMarkedPinLaw" (some 0) with
  accessFlags := 49
  interfaces := #[]
  cf := some (fileOf pool1 42 #[] #[{ accessFlags := 1, nameIndex := 5, descriptorIndex := 6, attributes := #[] }, { accessFlags := 9, nameIndex := 46, descriptorIndex := 47, attributes := #[] }] 49 2 #[] #[])
  fields := #[]
  methods := #[k1m0, k1m1]
  instanceTypes := #[]
  staticTypes := #[]
  resolved := Array.replicate 53 none
  statics := none }

def pool2 : Array CpInfo := pool [(1, .class_ 2), (0, u "java/lang/constant/Constable"), (0, .class_ 4), (0, u "java/lang/Object")] 6

/-- java/lang/constant/Constable -/
def k2 : Class := { plain "java/lang/constant/Constable" (some 0) with
  accessFlags := 1537
  interfaces := #[]
  cf := some (fileOf pool2 1 #[] #[] 1537 3 #[] #[])
  fields := #[]
  methods := #[]
  instanceTypes := #[]
  staticTypes := #[]
  resolved := Array.replicate 11 none
  statics := none }

def pool3 : Array CpInfo := pool [(1, .class_ 2), (0, u "java/lang/Comparable"), (0, .class_ 4), (0, u "java/lang/Object")] 7

/-- java/lang/Comparable -/
def k3 : Class := { plain "java/lang/Comparable" (some 0) with
  accessFlags := 1537
  interfaces := #[]
  cf := some (fileOf pool3 1 #[] #[] 1537 3 #[] #[])
  fields := #[]
  methods := #[]
  instanceTypes := #[]
  staticTypes := #[]
  resolved := Array.replicate 12 none
  statics := none }

def pool4 : Array CpInfo := pool [(1, .class_ 2), (0, u "java/io/Serializable"), (0, .class_ 4), (0, u "java/lang/Object")] 2

/-- java/io/Serializable -/
def k4 : Class := { plain "java/io/Serializable" (some 0) with
  accessFlags := 1537
  interfaces := #[]
  cf := some (fileOf pool4 1 #[] #[] 1537 3 #[] #[])
  fields := #[]
  methods := #[]
  instanceTypes := #[]
  staticTypes := #[]
  resolved := Array.replicate 7 none
  statics := none }

def pool5 : Array CpInfo := pool [(2, .class_ 4), (1, u "java/lang/Enum"), (0, u "name"), (0, u "Ljava/lang/String;"), (2, u "ordinal"), (0, u "I"), (1, .class_ 14), (1, u "java/lang/Object"), (4, u "hash"), (86, .class_ 108), (1, u "java/lang/Enum$EnumDesc"), (2, .class_ 112), (0, u "java/lang/constant/Constable"), (0, .class_ 114), (0, u "java/lang/Comparable"), (0, .class_ 116), (0, u "java/io/Serializable")] 87

/-- java/lang/Enum -/
def k5 : Class := { plain "java/lang/Enum" (some 0) with
  accessFlags := 1057
  interfaces := #[2, 3, 4]
  cf := some (fileOf pool5 2 #[.nestMembers #[106]] #[] 1057 12 #[111, 113, 115] #[{ accessFlags := 18, nameIndex := 5, descriptorIndex := 6, attributes := #[] }, { accessFlags := 18, nameIndex := 9, descriptorIndex := 10, attributes := #[] }, { accessFlags := 2, nameIndex := 19, descriptorIndex := 10, attributes := #[] }])
  fields := #[{ name := "name", type := (.object "java/lang/String"), accessFlags := 18, slot := 0, constantValue := 0 }, { name := "ordinal", type := .int, accessFlags := 18, slot := 1, constantValue := 0 }, { name := "hash", type := .int, accessFlags := 2, slot := 2, constantValue := 0 }]
  methods := #[]
  instanceTypes := #[(.object "java/lang/String"), .int, .int]
  staticTypes := #[]
  resolved := Array.replicate 204 none
  statics := none }

def pool6 : Array CpInfo := pool [(1, .class_ 2), (0, u "com/example/ouessant/ouessant/model/AgentStatus"), (2, u "SPAWNING"), (0, u "Lcom/example/ouessant/ouessant/model/AgentStatus;"), (2, u "IDLE"), (2, u "RUNNING"), (2, u "DEGRADED"), (0, .fieldref 1 17), (0, .nameAndType 18 6), (0, u "UNRESPONSIVE"), (0, .fieldref 1 20), (0, .nameAndType 21 6), (0, u "FAILED"), (2, u "QUARANTINED"), (0, .fieldref 1 26), (0, .nameAndType 27 6), (0, u "TERMINATED"), (2, u "$VALUES"), (0, u "[Lcom/example/ouessant/ouessant/model/AgentStatus;"), (6, .class_ 40), (1, u "java/lang/Enum"), (8, u "TRANSITIONS"), (0, u "Ljava/util/Map;"), (138, u "()Z"), (1, u "isFenced"), (0, u "isMarked")] 26

def k6c0 : Code := { maxStack := 2, maxLocals := 1, code := prog_14_method_5_code, exceptionTable := #[], attributes := #[] }
def k6m0 : Method := { name := "isFenced", desc := "()Z", sig := { parameters := [], returnType := some .boolean }, accessFlags := 1, code := some k6c0 }
def k6c1 : Code := { maxStack := 2, maxLocals := 1, code := prog_14_method_6_code, exceptionTable := #[], attributes := #[] }
def k6m1 : Method := { name := "isMarked", desc := "()Z", sig := { parameters := [], returnType := some .boolean }, accessFlags := 1, code := some k6c1 }
/-- com/example/ouessant/ouessant/model/AgentStatus -/
def k6 : Class := { plain "com/example/ouessant/ouessant/model/AgentStatus" (some 5) with
  accessFlags := 16433
  interfaces := #[]
  cf := some (fileOf pool6 1 #[] #[{ accessFlags := 1, nameIndex := 191, descriptorIndex := 189, attributes := #[] }, { accessFlags := 1, nameIndex := 192, descriptorIndex := 189, attributes := #[] }] 16433 38 #[] #[{ accessFlags := 16409, nameIndex := 5, descriptorIndex := 6, attributes := #[] }, { accessFlags := 16409, nameIndex := 9, descriptorIndex := 6, attributes := #[] }, { accessFlags := 16409, nameIndex := 12, descriptorIndex := 6, attributes := #[] }, { accessFlags := 16409, nameIndex := 15, descriptorIndex := 6, attributes := #[] }, { accessFlags := 16409, nameIndex := 18, descriptorIndex := 6, attributes := #[] }, { accessFlags := 16409, nameIndex := 21, descriptorIndex := 6, attributes := #[] }, { accessFlags := 16409, nameIndex := 24, descriptorIndex := 6, attributes := #[] }, { accessFlags := 16409, nameIndex := 27, descriptorIndex := 6, attributes := #[] }, { accessFlags := 26, nameIndex := 49, descriptorIndex := 50, attributes := #[] }, { accessFlags := 4122, nameIndex := 30, descriptorIndex := 31, attributes := #[] }])
  fields := #[{ name := "SPAWNING", type := (.object "com/example/ouessant/ouessant/model/AgentStatus"), accessFlags := 16409, slot := 0, constantValue := 0 }, { name := "IDLE", type := (.object "com/example/ouessant/ouessant/model/AgentStatus"), accessFlags := 16409, slot := 1, constantValue := 0 }, { name := "RUNNING", type := (.object "com/example/ouessant/ouessant/model/AgentStatus"), accessFlags := 16409, slot := 2, constantValue := 0 }, { name := "DEGRADED", type := (.object "com/example/ouessant/ouessant/model/AgentStatus"), accessFlags := 16409, slot := 3, constantValue := 0 }, { name := "UNRESPONSIVE", type := (.object "com/example/ouessant/ouessant/model/AgentStatus"), accessFlags := 16409, slot := 4, constantValue := 0 }, { name := "FAILED", type := (.object "com/example/ouessant/ouessant/model/AgentStatus"), accessFlags := 16409, slot := 5, constantValue := 0 }, { name := "QUARANTINED", type := (.object "com/example/ouessant/ouessant/model/AgentStatus"), accessFlags := 16409, slot := 6, constantValue := 0 }, { name := "TERMINATED", type := (.object "com/example/ouessant/ouessant/model/AgentStatus"), accessFlags := 16409, slot := 7, constantValue := 0 }, { name := "TRANSITIONS", type := (.object "java/util/Map"), accessFlags := 26, slot := 8, constantValue := 0 }, { name := "$VALUES", type := (.array (.object "com/example/ouessant/ouessant/model/AgentStatus")), accessFlags := 4122, slot := 9, constantValue := 0 }]
  methods := #[k6m0, k6m1]
  instanceTypes := #[(.object "java/lang/String"), .int, .int]
  staticTypes := #[(.object "com/example/ouessant/ouessant/model/AgentStatus"), (.object "com/example/ouessant/ouessant/model/AgentStatus"), (.object "com/example/ouessant/ouessant/model/AgentStatus"), (.object "com/example/ouessant/ouessant/model/AgentStatus"), (.object "com/example/ouessant/ouessant/model/AgentStatus"), (.object "com/example/ouessant/ouessant/model/AgentStatus"), (.object "com/example/ouessant/ouessant/model/AgentStatus"), (.object "com/example/ouessant/ouessant/model/AgentStatus"), (.object "java/util/Map"), (.array (.object "com/example/ouessant/ouessant/model/AgentStatus"))]
  resolved := Array.replicate 219 none
  statics := some 0 }

def pool7 : Array CpInfo := pool [(1, u "java/lang/Cloneable"), (0, .class_ 1), (0, u "java/lang/Object"), (0, .class_ 3)] 3

/-- java/lang/Cloneable -/
def k7 : Class := { plain "java/lang/Cloneable" (some 0) with
  accessFlags := 1537
  interfaces := #[]
  cf := some (fileOf pool7 2 #[] #[] 1537 4 #[] #[])
  fields := #[]
  methods := #[]
  instanceTypes := #[]
  staticTypes := #[]
  resolved := Array.replicate 8 none
  statics := none }

/-- the primitive byte -/
def k8 : Class := { plain "byte" none with kind := .primitive 'B', accessFlags := 0x411 }
/-- [B -/
def k9 : Class := { plain "[B" (some 0) with kind := .array 8 .byte, interfaces := #[7, 4], accessFlags := 1041 }

/-- the primitive int -/
def k10 : Class := { plain "int" none with kind := .primitive 'I', accessFlags := 0x411 }
/-- [I -/
def k11 : Class := { plain "[I" (some 0) with kind := .array 10 .int, interfaces := #[7, 4], accessFlags := 1041 }

/-- [Lcom/example/ouessant/ouessant/model/AgentStatus; -/
def k12 : Class := { plain "[Lcom/example/ouessant/ouessant/model/AgentStatus;" (some 0) with kind := .array 6 (.object "com/example/ouessant/ouessant/model/AgentStatus"), interfaces := #[7, 4], accessFlags := 1041 }

def heap : Heap := #[{ cls := 6, slots := #[.ref 1, .ref 2, .ref 3, .ref 4, .ref 5, .ref 6, .ref 7, .ref 8, .null, .null], vm := .statics 6 },
  { cls := 6, slots := #[.null, .int 0, .int 0], vm := .none },
  { cls := 6, slots := #[.null, .int 1, .int 0], vm := .none },
  { cls := 6, slots := #[.null, .int 2, .int 0], vm := .none },
  { cls := 6, slots := #[.null, .int 3, .int 0], vm := .none },
  { cls := 6, slots := #[.null, .int 4, .int 0], vm := .none },
  { cls := 6, slots := #[.null, .int 5, .int 0], vm := .none },
  { cls := 6, slots := #[.null, .int 6, .int 0], vm := .none },
  { cls := 6, slots := #[.null, .int 7, .int 0], vm := .none }]
def classes : Array Class := #[k0, k1, k2, k3, k4, k5, k6, k7, k8, k9, k10, k11, k12]
def interned : List (Array UInt16 × Addr) := []
def slotsUsed : Nat := 34
def theMethod : MethodId := ⟨1, 1⟩
def args0 : Array Value := #[.int 5]
def aboutOver (below : List Frame) : State where
  vm := { classes := classes, interned := interned.toArray }
  heap := heap
  slotsUsed := slotsUsed
  threads := #[{ frames := .invoking theMethod args0 :: below }]
def below0 : List Frame := [.native { method := ⟨0, 0⟩, args := #[] }]
def about1 : State := aboutOver below0
def p0 : Program := .bare "" "" ""
def e0 : Env := launch0.env 0 0 0
theorem w_frames : about1.frames = Frame.invoking theMethod args0 :: below0 := rfl
set_option maxRecDepth 65536 in
theorem w_args : argsFit about1.vm theMethod args0 = true := by decide +kernel
set_option maxRecDepth 65536 in
theorem w_heap : heapFits about1 = true := by decide +kernel
set_option maxRecDepth 65536 in
theorem w_runnable : about1.curStatus? = some .runnable := by decide +kernel
set_option maxRecDepth 65536 in
theorem w_alone : about1.alone = true := by decide +kernel
set_option maxRecDepth 65536 in
theorem w_named : about1.methodNamed? x = some theMethod := by decide +kernel
set_option maxRecDepth 65536 in
theorem w_hears : about1.hears theMethod below0 = true := by decide +kernel
set_option maxRecDepth 65536 in
theorem w_ripe : about1.ripe theMethod args0 below0 = true := by decide +kernel
theorem w_running : about1.status = .running := rfl
set_option maxRecDepth 65536 in
theorem w_room : about1.hasRoom e0.platform room_1 = true :=
  launch0.hasRoom_least _ room_1 (by decide +kernel) (by decide +kernel) (by decide +kernel) (by decide +kernel) (by decide +kernel) (by decide +kernel)
theorem allAtoms_all (ts : List Jvm.Cond) (a : Array Jvm.Value) (st : Jvm.State) : (allAtoms ts).before a st = ts.all (fun c => c.before a st) := by
  induction ts with
  | nil => rfl
  | cons c t ih =>
    show (Jvm.Cond.and c (allAtoms t)).before a st = _
    rw [Jvm.Cond.before_and, ih, List.all_cons]
def words1 : List Jvm.Cond := Jvm.Cond.code x code maxLocals ret :: tables_1
/-- a 'code' word, met by the world's own term for the bytes: nothing is compared byte by byte -/
theorem code_word {y : MethodName} {bytes : ByteArray} {mx : Nat} {rt : Option FieldType} {a : Array Value} {s : State} {m : MethodId} {meth : Method} {c : Code} (h1 : s.methodNamed? y = some m) (h2 : s.vm.method? m = some meth) (h3 : meth.code = some c) (h4 : c.code = bytes)
    (h5 : (c.maxLocals == mx && c.exceptionTable.isEmpty && decide (c.maxStack ≤ mostOperands) && decide (meth.sig.returnType = rt) && !meth.locks && decide (parseMethodDescriptor y.desc = some meth.sig)) = true) : (Jvm.Cond.code y bytes mx rt).before a s = true := by
  simp only [Bool.and_eq_true, beq_iff_eq, Bool.not_eq_true', decide_eq_true_eq] at h5
  obtain ⟨⟨⟨⟨⟨g1, g2⟩, g3⟩, g4⟩, g5⟩, g6⟩ := h5
  simp [Cond.before, Cond.holds, Cond.value, h1, h2, h3, h4, g1, g2, g3, g4, g5, g6]
def isCode : Jvm.Cond → Bool
  | .code _ _ _ _ => true
  | _ => false
theorem all_split {L : List Jvm.Cond} {P : Jvm.Cond → Bool} (h1 : L.all (fun c => isCode c || P c) = true) (h2 : ∀ c ∈ L.filter isCode, P c = true) : L.all P = true := by
  refine List.all_eq_true.mpr fun c hc => ?_
  have h := List.all_eq_true.mp h1 c hc
  rcases Bool.eq_false_or_eq_true (isCode c) with hi | hi
  · exact h2 c (List.mem_filter.mpr ⟨hc, hi⟩)
  · simpa [hi] using h
set_option maxRecDepth 65536 in
theorem w_c0 : (Jvm.Cond.code x code maxLocals ret).before args0 about1 = true := code_word (m := ⟨1, 1⟩) (meth := k1m1) (c := k1c1) (by decide +kernel) rfl rfl rfl (by decide +kernel)
set_option maxRecDepth 65536 in
theorem w_c1 : (Jvm.Cond.code ({ cls := "com/example/ouessant/ouessant/model/AgentStatus", name := "isMarked", desc := "()Z" } : Jvm.MethodName) prog_14_method_6_code (1 : Nat) (Option.some Jvm.ClassFile.FieldType.boolean)).before args0 about1 = true := code_word (m := ⟨6, 1⟩) (meth := k6m1) (c := k6c1) (by decide +kernel) rfl rfl rfl (by decide +kernel)
set_option maxRecDepth 65536 in
theorem w_c2 : (Jvm.Cond.code ({ cls := "com/example/ouessant/ouessant/model/AgentStatus", name := "isFenced", desc := "()Z" } : Jvm.MethodName) prog_14_method_5_code (1 : Nat) (Option.some Jvm.ClassFile.FieldType.boolean)).before args0 about1 = true := code_word (m := ⟨6, 0⟩) (meth := k6m0) (c := k6c0) (by decide +kernel) rfl rfl rfl (by decide +kernel)
def codes1 : List Jvm.Cond := [Jvm.Cond.code x code maxLocals ret, Jvm.Cond.code ({ cls := "com/example/ouessant/ouessant/model/AgentStatus", name := "isMarked", desc := "()Z" } : Jvm.MethodName) prog_14_method_6_code (1 : Nat) (Option.some Jvm.ClassFile.FieldType.boolean), Jvm.Cond.code ({ cls := "com/example/ouessant/ouessant/model/AgentStatus", name := "isFenced", desc := "()Z" } : Jvm.MethodName) prog_14_method_5_code (1 : Nat) (Option.some Jvm.ClassFile.FieldType.boolean)]
set_option maxRecDepth 65536 in
theorem codes_eq : words1.filter isCode = codes1 := rfl
theorem w_codes : ∀ c ∈ words1.filter isCode, c.before args0 about1 = true := by
  rw [codes_eq]
  intro c hc
  simp only [codes1, List.mem_cons, List.not_mem_nil, or_false] at hc
  rcases hc with rfl | rfl | rfl
  · exact w_c0
  · exact w_c1
  · exact w_c2
set_option maxRecDepth 65536 in
theorem w_t1 : (words1.take 24).all (fun c => isCode c || c.before args0 about1) = true := by decide +kernel
set_option maxRecDepth 65536 in
theorem w_t2 : (words1.drop 24).all (fun c => isCode c || c.before args0 about1) = true := by decide +kernel
theorem w_tables : (allAtoms (Jvm.Cond.code x code maxLocals ret :: tables_1)).before args0 about1 = true := by
  rw [allAtoms_all]
  show words1.all (fun c => c.before args0 about1) = true
  refine all_split ?_ w_codes
  rw [← List.take_append_drop 24 words1, List.all_append, w_t1, w_t2]
  rfl
set_option maxRecDepth 65536 in
theorem w_case : (Jvm.Cond.and given_1 narrow_1).before args0 about1 = true := by decide +kernel
theorem w_applies : (headSpec (Jvm.Cond.code x code maxLocals ret :: tables_1) room_1).applies x e0.platform about1 = true :=
  (Spec.applies_iff w_frames).mpr ⟨w_running, w_runnable, w_alone, w_named, w_hears, w_ripe, w_room, w_tables⟩
theorem atStart : AtStart classFile x code maxLocals ret World_1 tables_1 room_1 Calls_1 rest_1 Pre_1 launch0 p0 e0 about1 theMethod args0 below0 :=
  ⟨lists_1, trivial, launch0.admits_env _ _ _, launch0.least_env, fairChoices_fair.cas, fairChoices_fair.clock, w_frames, w_args, w_heap, w_applies, trivial, trivial, w_case⟩
end start1
theorem witness_1 : WitnessClaimed_1 := ⟨start1.p0, start1.e0, start1.about1, start1.theMethod, start1.args0, start1.below0, start1.atStart⟩
end Jvm.Pilot.@@N@@
