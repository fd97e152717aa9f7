import JvmDerived
import JvmDerived.Pilot.@@N@@Statement
import JvmDerived.Pilot.@@N@@Code
set_option linter.unusedVariables false
set_option linter.unusedSimpArgs false
namespace Jvm.RoadKit
open Sem ClassFile Op Lib Jvm.Stand Jvm.Free Jvm.LawKit
section New
variable {p : Program} {l : Launch} {e : Env} {R : Room} {s : State} {m : MethodId} {args : Array Value} {below : List Frame} {meth : Method} {c : Code} {T : State} {locs : List Loc} {cells slots : Nat}
theorem retI (X : Stand p l e R s m args below meth c T locs cells slots) (hx : p.tables.exec = Jvm.exec) {pc : Nat} {Ls : Array Slot} {z : Int32} {rest : List Value} (hret : meth.sig.returnType = some .int) (hd : decode c.code pc = .ok (.ireturn, 1)) {fs : List Frame}
    (hl : ∀ (f : JFrame) (acts : List Action), f.method = m → f.locked = none → f.entered = [] → (doReturn e (T.setTop f) acts (some (.int z))).1 = T.setFrames fs) : Steps p.tables e below (T.setTop (mkF m pc Ls (.int z :: rest))) (T.setFrames fs) := by
  have hm' : T.vm.method? m = some meth := X.method'
  have hn : narrow .int (.int z) = .int z := rfl
  show Steps p.tables e below (T.setTop { method := m, pc := pc, locals := Ls, stack := _ :: rest, locked := none }) _
  jvm_step X.here [X.here.top, hx, hd, hm', hret, hn]
  first | (intro acts; rw [hl _ acts rfl rfl rfl]) | rw [hl _ _ rfl rfl rfl]
  exact Steps.refl _
end New
end Jvm.RoadKit
namespace Jvm.Pilot.@@N@@
open Jvm Jvm.ClassFile Sem Op Lib Jvm.Free Jvm.Stand Jvm.LawKit Jvm.RoadKit Bundle Jvm.Pilot.@@N@@.Jvm.D
def QR (r : Option Value) (h0 : Heap) (n0 : Nat) (v : Option Value) (h : Heap) (L : List Loc) : Prop := v = r ∧ Fr n0 L ∧ h = h0
def QL (n0 : Nat) (v : Option Value) (h : Heap) (L : List Loc) : Prop := v = some (.int (1 : Int32)) ∧ Fr n0 L
theorem own_sta {s : State} {args : Array Value} {C n d K : String} (h : (Jvm.Cond.exactly (.static C n d) K).value args s none s [] = some true) (hi : (Jvm.Cond.initialized C).before args s = true) (hl : (Jvm.Cond.laysStatic C n d).before args s = true) :
    ∃ a, (Term.static C n d).eval args s none [] s = some (.ref a) ∧ Sta s s.heap C n d (.ref a) ∧ Exa s s.heap a K := by
  obtain ⟨a, ev⟩ := exa_v h
  exact ⟨a, ev, Sta.start ev (Or.inr ⟨hi, hl⟩), Exa.start ev h⟩
theorem own_fld {s : State} {args : Array Value} {t : Term} {a : Addr} {C n d : String} {k : Int32} (ev : t.eval args s none [] s = some (.ref a)) (h : (Jvm.Cond.eq (.field t C n d) (.int k)).value args s none s [] = some true) : Fld s s.heap a C n d (.int k) := by
  have e := eqv_i (F := .int k) rfl h
  rw [fld_at ev] at e
  exact Fld.start e
theorem own_ne {Z : State} {h : Heap} {a b : Addr} {C n d : String} {j k : Int32} (F : Fld Z h a C n d (.int j)) (G : Fld Z h b C n d (.int k)) (q : j ≠ k) : ¬ (a = b) := F.ne G fun e => q (Value.int.inj e)
def own_perm (c : Int32) : Int32 := if c < 200 then 0 else if c = 204 then 0 else if c = 205 then 0 else if c = 304 then 0 else 1
theorem d2_0 : decode prog_46_method_9_code 0 = .ok (.iload_n 0, 1) := by decide +kernel
theorem d2_1 : decode prog_46_method_9_code 1 = .ok (.sipush 200, 3) := by decide +kernel
theorem d2_4 : decode prog_46_method_9_code 4 = .ok (.if_icmp .lt 37, 3) := by decide +kernel
theorem d2_41 : decode prog_46_method_9_code 41 = .ok (.iconst 0, 1) := by decide +kernel
theorem d2_42 : decode prog_46_method_9_code 42 = .ok (.ireturn, 1) := by decide +kernel
theorem pn_2 : plainName "com/example/rudder1/rudder1/http/HttpStatus" = true := by first | (simp [plainName, overriddenIn]; done) | decide +kernel
theorem ef_2 (m : MethodId) (x0 : Int32) : entryFrame m #[(.int x0)] 1 = mkF m 0 #[.val (.int x0)] [] := by first | (simp [entryFrame, mkF, argsToLocals, Value.category]; done) | rfl
set_option maxRecDepth 65536 in
set_option maxHeartbeats 40000000 in
theorem rm2t (l : Launch) (Z : State) (a0 : Array Value) (hw : ∀ d ∈ tables_1, d.before a0 Z = true) (ws : List Jvm.Cond) (p1 : Int32) (h0 : Heap) (n0 : Nat) (Z0 : n0 ≤ h0.size) (hc4 : p1 < (200 : Int32)) :
    MetFree l (⟨"com/example/rudder1/rudder1/http/HttpStatus", "permitsContent", "(I)Z"⟩ : MethodName) (head1 (Jvm.Cond.code (⟨"com/example/rudder1/rudder1/http/HttpStatus", "permitsContent", "(I)Z"⟩ : MethodName) prog_46_method_9_code 1 (some .boolean) :: ws) ({ frames := 0, cells := 0, slots := 0, locals := 0 } : Room)) (fun a U => a = #[(.int p1)] ∧ Z.Warmed39 U.vm ∧ U.heap = h0) (fun _ _ _ _ _ => True) (fun _ U o U' => ∃ v L, o = .returned v ∧ QR (some (.int (0 : Int32))) h0 n0 v U'.heap L ∧ FrameEnd U o U' L ({ frames := 0, cells := 0, slots := 0, locals := 0 } : Room).cells ({ frames := 0, cells := 0, slots := 0, locals := 0 } : Room).slots) := by
  refine MetFree.of_bodySF (plainFor_of_name pn_2) hisR ?_
  intro p e s m args below meth c s₁ Bd hml0 hP hK
  obtain ⟨rfl, hZ, hh⟩ := hP
  have hx := Bd.exec
  have hby := Bd.bytes
  have hml : c.maxLocals = 1 := hml0
  have hown : s.vm.findClass "com/example/rudder1/rudder1/http/HttpStatus" = some m.cls := findClass_of_methodNamed Bd.named
  have hnm := (name_of_methodNamed Bd.named Bd.method).1
  have X0 : Stand p l e ({ frames := 0, cells := 0, slots := 0, locals := 0 } : Room) s m #[(.int p1)] below meth c s₁ [] 0 0 := Stand.of_body Bd
  have e0 : s₁.heap = h0 := by rw [← hh, Bd.state]; rfl
  have N0 := Fr.nil n0
  have pre0 : ∀ t, Steps p.tables e below (s₁.setTop (mkF m 0 #[.val (.int p1)] [])) t → Steps p.tables e below (s₁.setTop (entryFrame m #[(.int p1)] 1)) t := fun t k => castTop (ef_2 m p1) k

  obtain ⟨fs, hr, hrun, hended, hW, hsame⟩ := X0.leave (v := some (.int (0 : Int32))) (fun h => by rw [Bd.returns] at h; cases h)
  refine ⟨_, _, pre0 _ ?_, hrun, hended, _, _, rfl, ?_, ⟨_, rfl⟩, hW, hsame.mono (by decide) (by decide)⟩
  · show Steps p.tables e below (s₁.setTop (mkF m 0 #[.val (.int p1)] [])) _
    refine XS.iloadN X0.here hx rfl (hb hby d2_0) rfl ?_
    show Steps p.tables e below (s₁.setTop (mkF m 1 #[.val (.int p1)] [(.int p1)])) _
    refine XS.sipush X0.here hx rfl (hb hby d2_1) ?_
    show Steps p.tables e below (s₁.setTop (mkF m 4 #[.val (.int p1)] [(.int (200 : Int32)), (.int p1)])) _
    refine XS.icmpYes X0.here hx rfl (pc0 := 4) (pc' := 41) rfl (hb hby d2_4) rfl (tlt hc4).1 (by decide) (by decide) ?_
    show Steps p.tables e below (s₁.setTop (mkF m 41 #[.val (.int p1)] [])) _
    refine XS.iconst X0.here hx rfl (hb hby d2_41) ?_
    show Steps p.tables e below (s₁.setTop (mkF m 42 #[.val (.int p1)] [(.int (0 : Int32))])) _
    exact retN X0 hx (t := .boolean) Bd.returns (by simp) (hb hby d2_42) hr
  · show QR (some (.int (0 : Int32))) h0 n0 _ s₁.heap _
    rw [e0]
    exact ⟨rfl, N0, rfl⟩
theorem d2_7 : decode prog_46_method_9_code 7 = .ok (.iload_n 0, 1) := by decide +kernel
theorem d2_8 : decode prog_46_method_9_code 8 = .ok (.getstatic 22, 3) := by decide +kernel
theorem d2_11 : decode prog_46_method_9_code 11 = .ok (.getfield 164, 3) := by decide +kernel
theorem d2_14 : decode prog_46_method_9_code 14 = .ok (.if_icmp .eq 27, 3) := by decide +kernel
set_option maxRecDepth 65536 in
set_option maxHeartbeats 40000000 in
theorem rm2ft (l : Launch) (Z : State) (a0 : Array Value) (hw : ∀ d ∈ tables_1, d.before a0 Z = true) (ws : List Jvm.Cond) (p1 : Int32) (w2 : Addr) (w4 : Int32) (h0 : Heap) (n0 : Nat) (Z0 : n0 ≤ h0.size) (S_NO_CONTENT : Sta Z h0 "com/example/rudder1/rudder1/http/HttpStatus" "NO_CONTENT" "Lcom/example/rudder1/rudder1/http/HttpStatus;" (.ref w2)) (F_value_w2 : Fld Z h0 w2 "com/example/rudder1/rudder1/http/HttpStatus" "value" "I" (.int w4)) (hc4 : ¬ (p1 < (200 : Int32))) (hc14 : p1 = w4) :
    MetFree l (⟨"com/example/rudder1/rudder1/http/HttpStatus", "permitsContent", "(I)Z"⟩ : MethodName) (head1 (Jvm.Cond.code (⟨"com/example/rudder1/rudder1/http/HttpStatus", "permitsContent", "(I)Z"⟩ : MethodName) prog_46_method_9_code 1 (some .boolean) :: ws) ({ frames := 0, cells := 0, slots := 0, locals := 0 } : Room)) (fun a U => a = #[(.int p1)] ∧ Z.Warmed39 U.vm ∧ U.heap = h0) (fun _ _ _ _ _ => True) (fun _ U o U' => ∃ v L, o = .returned v ∧ QR (some (.int (0 : Int32))) h0 n0 v U'.heap L ∧ FrameEnd U o U' L ({ frames := 0, cells := 0, slots := 0, locals := 0 } : Room).cells ({ frames := 0, cells := 0, slots := 0, locals := 0 } : Room).slots) := by
  refine MetFree.of_bodySF (plainFor_of_name pn_2) hisR ?_
  intro p e s m args below meth c s₁ Bd hml0 hP hK
  obtain ⟨rfl, hZ, hh⟩ := hP
  have hx := Bd.exec
  have hby := Bd.bytes
  have hml : c.maxLocals = 1 := hml0
  have hown : s.vm.findClass "com/example/rudder1/rudder1/http/HttpStatus" = some m.cls := findClass_of_methodNamed Bd.named
  have hnm := (name_of_methodNamed Bd.named Bd.method).1
  have X0 : Stand p l e ({ frames := 0, cells := 0, slots := 0, locals := 0 } : Room) s m #[(.int p1)] below meth c s₁ [] 0 0 := Stand.of_body Bd
  have e0 : s₁.heap = h0 := by rw [← hh, Bd.state]; rfl
  have N0 := Fr.nil n0
  have pre0 : ∀ t, Steps p.tables e below (s₁.setTop (mkF m 0 #[.val (.int p1)] [])) t → Steps p.tables e below (s₁.setTop (entryFrame m #[(.int p1)] 1)) t := fun t k => castTop (ef_2 m p1) k
  obtain ⟨T3, X3, e3, st3⟩ := getS2 X0 hx hZ hown (host := "") (Or.inl (hw _ (List.mem_of_getElem? (i := 11) rfl))) Via.refl e0 S_NO_CONTENT (g := (mkF m 8 #[.val (.int p1)] [(.int p1)])) rfl (hb hby d2_8)
  obtain ⟨T5, X5, e5, st5⟩ := getF X3 hx hZ hown (host := "") (Or.inl (hw _ (List.mem_of_getElem? (i := 13) rfl))) Via.refl e3 F_value_w2 (g := (mkF m 11 #[.val (.int p1)] [(.ref w2), (.int p1)])) rfl rfl (hb hby d2_11)
  obtain ⟨fs, hr, hrun, hended, hW, hsame⟩ := X5.leave (v := some (.int (0 : Int32))) (fun h => by rw [Bd.returns] at h; cases h)
  refine ⟨_, _, pre0 _ ?_, hrun, hended, _, _, rfl, ?_, ⟨_, rfl⟩, hW, hsame.mono (by decide) (by decide)⟩
  · show Steps p.tables e below (s₁.setTop (mkF m 0 #[.val (.int p1)] [])) _
    refine XS.iloadN X0.here hx rfl (hb hby d2_0) rfl ?_
    show Steps p.tables e below (s₁.setTop (mkF m 1 #[.val (.int p1)] [(.int p1)])) _
    refine XS.sipush X0.here hx rfl (hb hby d2_1) ?_
    show Steps p.tables e below (s₁.setTop (mkF m 4 #[.val (.int p1)] [(.int (200 : Int32)), (.int p1)])) _
    refine XS.icmpNo X0.here hx rfl (hb hby d2_4) rfl (flt hc4).1 ?_
    show Steps p.tables e below (s₁.setTop (mkF m 7 #[.val (.int p1)] [])) _
    refine XS.iloadN X0.here hx rfl (hb hby d2_7) rfl ?_
    show Steps p.tables e below (s₁.setTop (mkF m 8 #[.val (.int p1)] [(.int p1)])) _
    refine st3 _ ?_
    show Steps p.tables e below (T3.setTop (mkF m 11 #[.val (.int p1)] [(.ref w2), (.int p1)])) _
    refine st5 _ ?_
    show Steps p.tables e below (T5.setTop (mkF m 14 #[.val (.int p1)] [(.int w4), (.int p1)])) _
    refine XS.icmpYes X5.here hx rfl (pc0 := 14) (pc' := 41) rfl (hb hby d2_14) rfl (teq hc14).1 (by decide) (by decide) ?_
    show Steps p.tables e below (T5.setTop (mkF m 41 #[.val (.int p1)] [])) _
    refine XS.iconst X5.here hx rfl (hb hby d2_41) ?_
    show Steps p.tables e below (T5.setTop (mkF m 42 #[.val (.int p1)] [(.int (0 : Int32))])) _
    exact retN X5 hx (t := .boolean) Bd.returns (by simp) (hb hby d2_42) hr
  · show QR (some (.int (0 : Int32))) h0 n0 _ T5.heap _
    rw [e5]
    exact ⟨rfl, N0, rfl⟩
theorem d2_17 : decode prog_46_method_9_code 17 = .ok (.iload_n 0, 1) := by decide +kernel
theorem d2_18 : decode prog_46_method_9_code 18 = .ok (.getstatic 25, 3) := by decide +kernel
theorem d2_21 : decode prog_46_method_9_code 21 = .ok (.getfield 164, 3) := by decide +kernel
theorem d2_24 : decode prog_46_method_9_code 24 = .ok (.if_icmp .eq 17, 3) := by decide +kernel
set_option maxRecDepth 65536 in
set_option maxHeartbeats 40000000 in
theorem rm2fft (l : Launch) (Z : State) (a0 : Array Value) (hw : ∀ d ∈ tables_1, d.before a0 Z = true) (ws : List Jvm.Cond) (p1 : Int32) (w2 : Addr) (w4 : Int32) (w6 : Addr) (w8 : Int32) (h0 : Heap) (n0 : Nat) (Z0 : n0 ≤ h0.size) (S_NO_CONTENT : Sta Z h0 "com/example/rudder1/rudder1/http/HttpStatus" "NO_CONTENT" "Lcom/example/rudder1/rudder1/http/HttpStatus;" (.ref w2)) (F_value_w2 : Fld Z h0 w2 "com/example/rudder1/rudder1/http/HttpStatus" "value" "I" (.int w4)) (S_RESET_CONTENT : Sta Z h0 "com/example/rudder1/rudder1/http/HttpStatus" "RESET_CONTENT" "Lcom/example/rudder1/rudder1/http/HttpStatus;" (.ref w6)) (F_value_w6 : Fld Z h0 w6 "com/example/rudder1/rudder1/http/HttpStatus" "value" "I" (.int w8)) (hc4 : ¬ (p1 < (200 : Int32))) (hc14 : ¬ (p1 = w4)) (hc24 : p1 = w8) :
    MetFree l (⟨"com/example/rudder1/rudder1/http/HttpStatus", "permitsContent", "(I)Z"⟩ : MethodName) (head1 (Jvm.Cond.code (⟨"com/example/rudder1/rudder1/http/HttpStatus", "permitsContent", "(I)Z"⟩ : MethodName) prog_46_method_9_code 1 (some .boolean) :: ws) ({ frames := 0, cells := 0, slots := 0, locals := 0 } : Room)) (fun a U => a = #[(.int p1)] ∧ Z.Warmed39 U.vm ∧ U.heap = h0) (fun _ _ _ _ _ => True) (fun _ U o U' => ∃ v L, o = .returned v ∧ QR (some (.int (0 : Int32))) h0 n0 v U'.heap L ∧ FrameEnd U o U' L ({ frames := 0, cells := 0, slots := 0, locals := 0 } : Room).cells ({ frames := 0, cells := 0, slots := 0, locals := 0 } : Room).slots) := by
  refine MetFree.of_bodySF (plainFor_of_name pn_2) hisR ?_
  intro p e s m args below meth c s₁ Bd hml0 hP hK
  obtain ⟨rfl, hZ, hh⟩ := hP
  have hx := Bd.exec
  have hby := Bd.bytes
  have hml : c.maxLocals = 1 := hml0
  have hown : s.vm.findClass "com/example/rudder1/rudder1/http/HttpStatus" = some m.cls := findClass_of_methodNamed Bd.named
  have hnm := (name_of_methodNamed Bd.named Bd.method).1
  have X0 : Stand p l e ({ frames := 0, cells := 0, slots := 0, locals := 0 } : Room) s m #[(.int p1)] below meth c s₁ [] 0 0 := Stand.of_body Bd
  have e0 : s₁.heap = h0 := by rw [← hh, Bd.state]; rfl
  have N0 := Fr.nil n0
  have pre0 : ∀ t, Steps p.tables e below (s₁.setTop (mkF m 0 #[.val (.int p1)] [])) t → Steps p.tables e below (s₁.setTop (entryFrame m #[(.int p1)] 1)) t := fun t k => castTop (ef_2 m p1) k
  obtain ⟨T3, X3, e3, st3⟩ := getS2 X0 hx hZ hown (host := "") (Or.inl (hw _ (List.mem_of_getElem? (i := 11) rfl))) Via.refl e0 S_NO_CONTENT (g := (mkF m 8 #[.val (.int p1)] [(.int p1)])) rfl (hb hby d2_8)
  obtain ⟨T5, X5, e5, st5⟩ := getF X3 hx hZ hown (host := "") (Or.inl (hw _ (List.mem_of_getElem? (i := 13) rfl))) Via.refl e3 F_value_w2 (g := (mkF m 11 #[.val (.int p1)] [(.ref w2), (.int p1)])) rfl rfl (hb hby d2_11)
  obtain ⟨T7, X7, e7, st7⟩ := getS2 X5 hx hZ hown (host := "") (Or.inl (hw _ (List.mem_of_getElem? (i := 15) rfl))) Via.refl e5 S_RESET_CONTENT (g := (mkF m 18 #[.val (.int p1)] [(.int p1)])) rfl (hb hby d2_18)
  obtain ⟨T9, X9, e9, st9⟩ := getF X7 hx hZ hown (host := "") (Or.inl (hw _ (List.mem_of_getElem? (i := 13) rfl))) Via.refl e7 F_value_w6 (g := (mkF m 21 #[.val (.int p1)] [(.ref w6), (.int p1)])) rfl rfl (hb hby d2_21)
  obtain ⟨fs, hr, hrun, hended, hW, hsame⟩ := X9.leave (v := some (.int (0 : Int32))) (fun h => by rw [Bd.returns] at h; cases h)
  refine ⟨_, _, pre0 _ ?_, hrun, hended, _, _, rfl, ?_, ⟨_, rfl⟩, hW, hsame.mono (by decide) (by decide)⟩
  · show Steps p.tables e below (s₁.setTop (mkF m 0 #[.val (.int p1)] [])) _
    refine XS.iloadN X0.here hx rfl (hb hby d2_0) rfl ?_
    show Steps p.tables e below (s₁.setTop (mkF m 1 #[.val (.int p1)] [(.int p1)])) _
    refine XS.sipush X0.here hx rfl (hb hby d2_1) ?_
    show Steps p.tables e below (s₁.setTop (mkF m 4 #[.val (.int p1)] [(.int (200 : Int32)), (.int p1)])) _
    refine XS.icmpNo X0.here hx rfl (hb hby d2_4) rfl (flt hc4).1 ?_
    show Steps p.tables e below (s₁.setTop (mkF m 7 #[.val (.int p1)] [])) _
    refine XS.iloadN X0.here hx rfl (hb hby d2_7) rfl ?_
    show Steps p.tables e below (s₁.setTop (mkF m 8 #[.val (.int p1)] [(.int p1)])) _
    refine st3 _ ?_
    show Steps p.tables e below (T3.setTop (mkF m 11 #[.val (.int p1)] [(.ref w2), (.int p1)])) _
    refine st5 _ ?_
    show Steps p.tables e below (T5.setTop (mkF m 14 #[.val (.int p1)] [(.int w4), (.int p1)])) _
    refine XS.icmpNo X5.here hx rfl (hb hby d2_14) rfl (feq hc14).1 ?_
    show Steps p.tables e below (T5.setTop (mkF m 17 #[.val (.int p1)] [])) _
    refine XS.iloadN X5.here hx rfl (hb hby d2_17) rfl ?_
    show Steps p.tables e below (T5.setTop (mkF m 18 #[.val (.int p1)] [(.int p1)])) _
    refine st7 _ ?_
    show Steps p.tables e below (T7.setTop (mkF m 21 #[.val (.int p1)] [(.ref w6), (.int p1)])) _
    refine st9 _ ?_
    show Steps p.tables e below (T9.setTop (mkF m 24 #[.val (.int p1)] [(.int w8), (.int p1)])) _
    refine XS.icmpYes X9.here hx rfl (pc0 := 24) (pc' := 41) rfl (hb hby d2_24) rfl (teq hc24).1 (by decide) (by decide) ?_
    show Steps p.tables e below (T9.setTop (mkF m 41 #[.val (.int p1)] [])) _
    refine XS.iconst X9.here hx rfl (hb hby d2_41) ?_
    show Steps p.tables e below (T9.setTop (mkF m 42 #[.val (.int p1)] [(.int (0 : Int32))])) _
    exact retN X9 hx (t := .boolean) Bd.returns (by simp) (hb hby d2_42) hr
  · show QR (some (.int (0 : Int32))) h0 n0 _ T9.heap _
    rw [e9]
    exact ⟨rfl, N0, rfl⟩
theorem d2_27 : decode prog_46_method_9_code 27 = .ok (.iload_n 0, 1) := by decide +kernel
theorem d2_28 : decode prog_46_method_9_code 28 = .ok (.getstatic 43, 3) := by decide +kernel
theorem d2_31 : decode prog_46_method_9_code 31 = .ok (.getfield 164, 3) := by decide +kernel
theorem d2_34 : decode prog_46_method_9_code 34 = .ok (.if_icmp .eq 7, 3) := by decide +kernel
set_option maxRecDepth 65536 in
set_option maxHeartbeats 40000000 in
theorem rm2ffft (l : Launch) (Z : State) (a0 : Array Value) (hw : ∀ d ∈ tables_1, d.before a0 Z = true) (ws : List Jvm.Cond) (p1 : Int32) (w2 : Addr) (w4 : Int32) (w6 : Addr) (w8 : Int32) (w10 : Addr) (w12 : Int32) (h0 : Heap) (n0 : Nat) (Z0 : n0 ≤ h0.size) (S_NO_CONTENT : Sta Z h0 "com/example/rudder1/rudder1/http/HttpStatus" "NO_CONTENT" "Lcom/example/rudder1/rudder1/http/HttpStatus;" (.ref w2)) (F_value_w2 : Fld Z h0 w2 "com/example/rudder1/rudder1/http/HttpStatus" "value" "I" (.int w4)) (S_RESET_CONTENT : Sta Z h0 "com/example/rudder1/rudder1/http/HttpStatus" "RESET_CONTENT" "Lcom/example/rudder1/rudder1/http/HttpStatus;" (.ref w6)) (F_value_w6 : Fld Z h0 w6 "com/example/rudder1/rudder1/http/HttpStatus" "value" "I" (.int w8)) (S_NOT_MODIFIED : Sta Z h0 "com/example/rudder1/rudder1/http/HttpStatus" "NOT_MODIFIED" "Lcom/example/rudder1/rudder1/http/HttpStatus;" (.ref w10)) (F_value_w10 : Fld Z h0 w10 "com/example/rudder1/rudder1/http/HttpStatus" "value" "I" (.int w12)) (hc4 : ¬ (p1 < (200 : Int32))) (hc14 : ¬ (p1 = w4)) (hc24 : ¬ (p1 = w8)) (hc34 : p1 = w12) :
    MetFree l (⟨"com/example/rudder1/rudder1/http/HttpStatus", "permitsContent", "(I)Z"⟩ : MethodName) (head1 (Jvm.Cond.code (⟨"com/example/rudder1/rudder1/http/HttpStatus", "permitsContent", "(I)Z"⟩ : MethodName) prog_46_method_9_code 1 (some .boolean) :: ws) ({ frames := 0, cells := 0, slots := 0, locals := 0 } : Room)) (fun a U => a = #[(.int p1)] ∧ Z.Warmed39 U.vm ∧ U.heap = h0) (fun _ _ _ _ _ => True) (fun _ U o U' => ∃ v L, o = .returned v ∧ QR (some (.int (0 : Int32))) h0 n0 v U'.heap L ∧ FrameEnd U o U' L ({ frames := 0, cells := 0, slots := 0, locals := 0 } : Room).cells ({ frames := 0, cells := 0, slots := 0, locals := 0 } : Room).slots) := by
  refine MetFree.of_bodySF (plainFor_of_name pn_2) hisR ?_
  intro p e s m args below meth c s₁ Bd hml0 hP hK
  obtain ⟨rfl, hZ, hh⟩ := hP
  have hx := Bd.exec
  have hby := Bd.bytes
  have hml : c.maxLocals = 1 := hml0
  have hown : s.vm.findClass "com/example/rudder1/rudder1/http/HttpStatus" = some m.cls := findClass_of_methodNamed Bd.named
  have hnm := (name_of_methodNamed Bd.named Bd.method).1
  have X0 : Stand p l e ({ frames := 0, cells := 0, slots := 0, locals := 0 } : Room) s m #[(.int p1)] below meth c s₁ [] 0 0 := Stand.of_body Bd
  have e0 : s₁.heap = h0 := by rw [← hh, Bd.state]; rfl
  have N0 := Fr.nil n0
  have pre0 : ∀ t, Steps p.tables e below (s₁.setTop (mkF m 0 #[.val (.int p1)] [])) t → Steps p.tables e below (s₁.setTop (entryFrame m #[(.int p1)] 1)) t := fun t k => castTop (ef_2 m p1) k
  obtain ⟨T3, X3, e3, st3⟩ := getS2 X0 hx hZ hown (host := "") (Or.inl (hw _ (List.mem_of_getElem? (i := 11) rfl))) Via.refl e0 S_NO_CONTENT (g := (mkF m 8 #[.val (.int p1)] [(.int p1)])) rfl (hb hby d2_8)
  obtain ⟨T5, X5, e5, st5⟩ := getF X3 hx hZ hown (host := "") (Or.inl (hw _ (List.mem_of_getElem? (i := 13) rfl))) Via.refl e3 F_value_w2 (g := (mkF m 11 #[.val (.int p1)] [(.ref w2), (.int p1)])) rfl rfl (hb hby d2_11)
  obtain ⟨T7, X7, e7, st7⟩ := getS2 X5 hx hZ hown (host := "") (Or.inl (hw _ (List.mem_of_getElem? (i := 15) rfl))) Via.refl e5 S_RESET_CONTENT (g := (mkF m 18 #[.val (.int p1)] [(.int p1)])) rfl (hb hby d2_18)
  obtain ⟨T9, X9, e9, st9⟩ := getF X7 hx hZ hown (host := "") (Or.inl (hw _ (List.mem_of_getElem? (i := 13) rfl))) Via.refl e7 F_value_w6 (g := (mkF m 21 #[.val (.int p1)] [(.ref w6), (.int p1)])) rfl rfl (hb hby d2_21)
  obtain ⟨T11, X11, e11, st11⟩ := getS2 X9 hx hZ hown (host := "") (Or.inl (hw _ (List.mem_of_getElem? (i := 17) rfl))) Via.refl e9 S_NOT_MODIFIED (g := (mkF m 28 #[.val (.int p1)] [(.int p1)])) rfl (hb hby d2_28)
  obtain ⟨T13, X13, e13, st13⟩ := getF X11 hx hZ hown (host := "") (Or.inl (hw _ (List.mem_of_getElem? (i := 13) rfl))) Via.refl e11 F_value_w10 (g := (mkF m 31 #[.val (.int p1)] [(.ref w10), (.int p1)])) rfl rfl (hb hby d2_31)
  obtain ⟨fs, hr, hrun, hended, hW, hsame⟩ := X13.leave (v := some (.int (0 : Int32))) (fun h => by rw [Bd.returns] at h; cases h)
  refine ⟨_, _, pre0 _ ?_, hrun, hended, _, _, rfl, ?_, ⟨_, rfl⟩, hW, hsame.mono (by decide) (by decide)⟩
  · show Steps p.tables e below (s₁.setTop (mkF m 0 #[.val (.int p1)] [])) _
    refine XS.iloadN X0.here hx rfl (hb hby d2_0) rfl ?_
    show Steps p.tables e below (s₁.setTop (mkF m 1 #[.val (.int p1)] [(.int p1)])) _
    refine XS.sipush X0.here hx rfl (hb hby d2_1) ?_
    show Steps p.tables e below (s₁.setTop (mkF m 4 #[.val (.int p1)] [(.int (200 : Int32)), (.int p1)])) _
    refine XS.icmpNo X0.here hx rfl (hb hby d2_4) rfl (flt hc4).1 ?_
    show Steps p.tables e below (s₁.setTop (mkF m 7 #[.val (.int p1)] [])) _
    refine XS.iloadN X0.here hx rfl (hb hby d2_7) rfl ?_
    show Steps p.tables e below (s₁.setTop (mkF m 8 #[.val (.int p1)] [(.int p1)])) _
    refine st3 _ ?_
    show Steps p.tables e below (T3.setTop (mkF m 11 #[.val (.int p1)] [(.ref w2), (.int p1)])) _
    refine st5 _ ?_
    show Steps p.tables e below (T5.setTop (mkF m 14 #[.val (.int p1)] [(.int w4), (.int p1)])) _
    refine XS.icmpNo X5.here hx rfl (hb hby d2_14) rfl (feq hc14).1 ?_
    show Steps p.tables e below (T5.setTop (mkF m 17 #[.val (.int p1)] [])) _
    refine XS.iloadN X5.here hx rfl (hb hby d2_17) rfl ?_
    show Steps p.tables e below (T5.setTop (mkF m 18 #[.val (.int p1)] [(.int p1)])) _
    refine st7 _ ?_
    show Steps p.tables e below (T7.setTop (mkF m 21 #[.val (.int p1)] [(.ref w6), (.int p1)])) _
    refine st9 _ ?_
    show Steps p.tables e below (T9.setTop (mkF m 24 #[.val (.int p1)] [(.int w8), (.int p1)])) _
    refine XS.icmpNo X9.here hx rfl (hb hby d2_24) rfl (feq hc24).1 ?_
    show Steps p.tables e below (T9.setTop (mkF m 27 #[.val (.int p1)] [])) _
    refine XS.iloadN X9.here hx rfl (hb hby d2_27) rfl ?_
    show Steps p.tables e below (T9.setTop (mkF m 28 #[.val (.int p1)] [(.int p1)])) _
    refine st11 _ ?_
    show Steps p.tables e below (T11.setTop (mkF m 31 #[.val (.int p1)] [(.ref w10), (.int p1)])) _
    refine st13 _ ?_
    show Steps p.tables e below (T13.setTop (mkF m 34 #[.val (.int p1)] [(.int w12), (.int p1)])) _
    refine XS.icmpYes X13.here hx rfl (pc0 := 34) (pc' := 41) rfl (hb hby d2_34) rfl (teq hc34).1 (by decide) (by decide) ?_
    show Steps p.tables e below (T13.setTop (mkF m 41 #[.val (.int p1)] [])) _
    refine XS.iconst X13.here hx rfl (hb hby d2_41) ?_
    show Steps p.tables e below (T13.setTop (mkF m 42 #[.val (.int p1)] [(.int (0 : Int32))])) _
    exact retN X13 hx (t := .boolean) Bd.returns (by simp) (hb hby d2_42) hr
  · show QR (some (.int (0 : Int32))) h0 n0 _ T13.heap _
    rw [e13]
    exact ⟨rfl, N0, rfl⟩
theorem d2_37 : decode prog_46_method_9_code 37 = .ok (.iconst 1, 1) := by decide +kernel
theorem d2_38 : decode prog_46_method_9_code 38 = .ok (.goto 4, 3) := by decide +kernel
set_option maxRecDepth 65536 in
set_option maxHeartbeats 40000000 in
theorem rm2ffff (l : Launch) (Z : State) (a0 : Array Value) (hw : ∀ d ∈ tables_1, d.before a0 Z = true) (ws : List Jvm.Cond) (p1 : Int32) (w2 : Addr) (w4 : Int32) (w6 : Addr) (w8 : Int32) (w10 : Addr) (w12 : Int32) (h0 : Heap) (n0 : Nat) (Z0 : n0 ≤ h0.size) (S_NO_CONTENT : Sta Z h0 "com/example/rudder1/rudder1/http/HttpStatus" "NO_CONTENT" "Lcom/example/rudder1/rudder1/http/HttpStatus;" (.ref w2)) (F_value_w2 : Fld Z h0 w2 "com/example/rudder1/rudder1/http/HttpStatus" "value" "I" (.int w4)) (S_RESET_CONTENT : Sta Z h0 "com/example/rudder1/rudder1/http/HttpStatus" "RESET_CONTENT" "Lcom/example/rudder1/rudder1/http/HttpStatus;" (.ref w6)) (F_value_w6 : Fld Z h0 w6 "com/example/rudder1/rudder1/http/HttpStatus" "value" "I" (.int w8)) (S_NOT_MODIFIED : Sta Z h0 "com/example/rudder1/rudder1/http/HttpStatus" "NOT_MODIFIED" "Lcom/example/rudder1/rudder1/http/HttpStatus;" (.ref w10)) (F_value_w10 : Fld Z h0 w10 "com/example/rudder1/rudder1/http/HttpStatus" "value" "I" (.int w12)) (hc4 : ¬ (p1 < (200 : Int32))) (hc14 : ¬ (p1 = w4)) (hc24 : ¬ (p1 = w8)) (hc34 : ¬ (p1 = w12)) :
    MetFree l (⟨"com/example/rudder1/rudder1/http/HttpStatus", "permitsContent", "(I)Z"⟩ : MethodName) (head1 (Jvm.Cond.code (⟨"com/example/rudder1/rudder1/http/HttpStatus", "permitsContent", "(I)Z"⟩ : MethodName) prog_46_method_9_code 1 (some .boolean) :: ws) ({ frames := 0, cells := 0, slots := 0, locals := 0 } : Room)) (fun a U => a = #[(.int p1)] ∧ Z.Warmed39 U.vm ∧ U.heap = h0) (fun _ _ _ _ _ => True) (fun _ U o U' => ∃ v L, o = .returned v ∧ QR (some (.int (1 : Int32))) h0 n0 v U'.heap L ∧ FrameEnd U o U' L ({ frames := 0, cells := 0, slots := 0, locals := 0 } : Room).cells ({ frames := 0, cells := 0, slots := 0, locals := 0 } : Room).slots) := by
  refine MetFree.of_bodySF (plainFor_of_name pn_2) hisR ?_
  intro p e s m args below meth c s₁ Bd hml0 hP hK
  obtain ⟨rfl, hZ, hh⟩ := hP
  have hx := Bd.exec
  have hby := Bd.bytes
  have hml : c.maxLocals = 1 := hml0
  have hown : s.vm.findClass "com/example/rudder1/rudder1/http/HttpStatus" = some m.cls := findClass_of_methodNamed Bd.named
  have hnm := (name_of_methodNamed Bd.named Bd.method).1
  have X0 : Stand p l e ({ frames := 0, cells := 0, slots := 0, locals := 0 } : Room) s m #[(.int p1)] below meth c s₁ [] 0 0 := Stand.of_body Bd
  have e0 : s₁.heap = h0 := by rw [← hh, Bd.state]; rfl
  have N0 := Fr.nil n0
  have pre0 : ∀ t, Steps p.tables e below (s₁.setTop (mkF m 0 #[.val (.int p1)] [])) t → Steps p.tables e below (s₁.setTop (entryFrame m #[(.int p1)] 1)) t := fun t k => castTop (ef_2 m p1) k
  obtain ⟨T3, X3, e3, st3⟩ := getS2 X0 hx hZ hown (host := "") (Or.inl (hw _ (List.mem_of_getElem? (i := 11) rfl))) Via.refl e0 S_NO_CONTENT (g := (mkF m 8 #[.val (.int p1)] [(.int p1)])) rfl (hb hby d2_8)
  obtain ⟨T5, X5, e5, st5⟩ := getF X3 hx hZ hown (host := "") (Or.inl (hw _ (List.mem_of_getElem? (i := 13) rfl))) Via.refl e3 F_value_w2 (g := (mkF m 11 #[.val (.int p1)] [(.ref w2), (.int p1)])) rfl rfl (hb hby d2_11)
  obtain ⟨T7, X7, e7, st7⟩ := getS2 X5 hx hZ hown (host := "") (Or.inl (hw _ (List.mem_of_getElem? (i := 15) rfl))) Via.refl e5 S_RESET_CONTENT (g := (mkF m 18 #[.val (.int p1)] [(.int p1)])) rfl (hb hby d2_18)
  obtain ⟨T9, X9, e9, st9⟩ := getF X7 hx hZ hown (host := "") (Or.inl (hw _ (List.mem_of_getElem? (i := 13) rfl))) Via.refl e7 F_value_w6 (g := (mkF m 21 #[.val (.int p1)] [(.ref w6), (.int p1)])) rfl rfl (hb hby d2_21)
  obtain ⟨T11, X11, e11, st11⟩ := getS2 X9 hx hZ hown (host := "") (Or.inl (hw _ (List.mem_of_getElem? (i := 17) rfl))) Via.refl e9 S_NOT_MODIFIED (g := (mkF m 28 #[.val (.int p1)] [(.int p1)])) rfl (hb hby d2_28)
  obtain ⟨T13, X13, e13, st13⟩ := getF X11 hx hZ hown (host := "") (Or.inl (hw _ (List.mem_of_getElem? (i := 13) rfl))) Via.refl e11 F_value_w10 (g := (mkF m 31 #[.val (.int p1)] [(.ref w10), (.int p1)])) rfl rfl (hb hby d2_31)
  obtain ⟨fs, hr, hrun, hended, hW, hsame⟩ := X13.leave (v := some (.int (1 : Int32))) (fun h => by rw [Bd.returns] at h; cases h)
  refine ⟨_, _, pre0 _ ?_, hrun, hended, _, _, rfl, ?_, ⟨_, rfl⟩, hW, hsame.mono (by decide) (by decide)⟩
  · show Steps p.tables e below (s₁.setTop (mkF m 0 #[.val (.int p1)] [])) _
    refine XS.iloadN X0.here hx rfl (hb hby d2_0) rfl ?_
    show Steps p.tables e below (s₁.setTop (mkF m 1 #[.val (.int p1)] [(.int p1)])) _
    refine XS.sipush X0.here hx rfl (hb hby d2_1) ?_
    show Steps p.tables e below (s₁.setTop (mkF m 4 #[.val (.int p1)] [(.int (200 : Int32)), (.int p1)])) _
    refine XS.icmpNo X0.here hx rfl (hb hby d2_4) rfl (flt hc4).1 ?_
    show Steps p.tables e below (s₁.setTop (mkF m 7 #[.val (.int p1)] [])) _
    refine XS.iloadN X0.here hx rfl (hb hby d2_7) rfl ?_
    show Steps p.tables e below (s₁.setTop (mkF m 8 #[.val (.int p1)] [(.int p1)])) _
    refine st3 _ ?_
    show Steps p.tables e below (T3.setTop (mkF m 11 #[.val (.int p1)] [(.ref w2), (.int p1)])) _
    refine st5 _ ?_
    show Steps p.tables e below (T5.setTop (mkF m 14 #[.val (.int p1)] [(.int w4), (.int p1)])) _
    refine XS.icmpNo X5.here hx rfl (hb hby d2_14) rfl (feq hc14).1 ?_
    show Steps p.tables e below (T5.setTop (mkF m 17 #[.val (.int p1)] [])) _
    refine XS.iloadN X5.here hx rfl (hb hby d2_17) rfl ?_
    show Steps p.tables e below (T5.setTop (mkF m 18 #[.val (.int p1)] [(.int p1)])) _
    refine st7 _ ?_
    show Steps p.tables e below (T7.setTop (mkF m 21 #[.val (.int p1)] [(.ref w6), (.int p1)])) _
    refine st9 _ ?_
    show Steps p.tables e below (T9.setTop (mkF m 24 #[.val (.int p1)] [(.int w8), (.int p1)])) _
    refine XS.icmpNo X9.here hx rfl (hb hby d2_24) rfl (feq hc24).1 ?_
    show Steps p.tables e below (T9.setTop (mkF m 27 #[.val (.int p1)] [])) _
    refine XS.iloadN X9.here hx rfl (hb hby d2_27) rfl ?_
    show Steps p.tables e below (T9.setTop (mkF m 28 #[.val (.int p1)] [(.int p1)])) _
    refine st11 _ ?_
    show Steps p.tables e below (T11.setTop (mkF m 31 #[.val (.int p1)] [(.ref w10), (.int p1)])) _
    refine st13 _ ?_
    show Steps p.tables e below (T13.setTop (mkF m 34 #[.val (.int p1)] [(.int w12), (.int p1)])) _
    refine XS.icmpNo X13.here hx rfl (hb hby d2_34) rfl (feq hc34).1 ?_
    show Steps p.tables e below (T13.setTop (mkF m 37 #[.val (.int p1)] [])) _
    refine XS.iconst X13.here hx rfl (hb hby d2_37) ?_
    show Steps p.tables e below (T13.setTop (mkF m 38 #[.val (.int p1)] [(.int (1 : Int32))])) _
    refine XS.goto X13.here hx rfl (pc0 := 38) (pc' := 42) rfl (hb hby d2_38) (by decide) (by decide) ?_
    show Steps p.tables e below (T13.setTop (mkF m 42 #[.val (.int p1)] [(.int (1 : Int32))])) _
    exact retN X13 hx (t := .boolean) Bd.returns (by simp) (hb hby d2_42) hr
  · show QR (some (.int (1 : Int32))) h0 n0 _ T13.heap _
    rw [e13]
    exact ⟨rfl, N0, rfl⟩
theorem d3_0 : decode method_2_code 0 = .ok (.iload_n 0, 1) := by decide +kernel
theorem d3_1 : decode method_2_code 1 = .ok (.sipush 200, 3) := by decide +kernel
theorem d3_4 : decode method_2_code 4 = .ok (.if_icmp .ge 5, 3) := by decide +kernel
theorem d3_7 : decode method_2_code 7 = .ok (.iconst 0, 1) := by decide +kernel
theorem d3_8 : decode method_2_code 8 = .ok (.ireturn, 1) := by decide +kernel
theorem pn_3 : plainName "com/example/rudder1/rudder1/http/HttpStatusPermitsContentPinLaw" = true := by first | (simp [plainName, overriddenIn]; done) | decide +kernel
theorem ef_3 (m : MethodId) (x0 : Int32) : entryFrame m #[(.int x0)] 1 = mkF m 0 #[.val (.int x0)] [] := by first | (simp [entryFrame, mkF, argsToLocals, Value.category]; done) | rfl
set_option maxRecDepth 65536 in
set_option maxHeartbeats 40000000 in
theorem rm3f (l : Launch) (Z : State) (a0 : Array Value) (hw : ∀ d ∈ tables_1, d.before a0 Z = true) (ws : List Jvm.Cond) (p1 : Int32) (h0 : Heap) (n0 : Nat) (Z0 : n0 ≤ h0.size) (hc4 : p1 < (200 : Int32)) :
    MetFree l (⟨"com/example/rudder1/rudder1/http/HttpStatusPermitsContentPinLaw", "ref", "(I)Z"⟩ : MethodName) (head1 (Jvm.Cond.code (⟨"com/example/rudder1/rudder1/http/HttpStatusPermitsContentPinLaw", "ref", "(I)Z"⟩ : MethodName) method_2_code 1 (some .boolean) :: ws) ({ frames := 0, cells := 0, slots := 0, locals := 0 } : Room)) (fun a U => a = #[(.int p1)] ∧ Z.Warmed39 U.vm ∧ U.heap = h0) (fun _ _ _ _ _ => True) (fun _ U o U' => ∃ v L, o = .returned v ∧ QR (some (.int (0 : Int32))) h0 n0 v U'.heap L ∧ FrameEnd U o U' L ({ frames := 0, cells := 0, slots := 0, locals := 0 } : Room).cells ({ frames := 0, cells := 0, slots := 0, locals := 0 } : Room).slots) := by
  refine MetFree.of_bodySF (plainFor_of_name pn_3) hisR ?_
  intro p e s m args below meth c s₁ Bd hml0 hP hK
  obtain ⟨rfl, hZ, hh⟩ := hP
  have hx := Bd.exec
  have hby := Bd.bytes
  have hml : c.maxLocals = 1 := hml0
  have hown : s.vm.findClass "com/example/rudder1/rudder1/http/HttpStatusPermitsContentPinLaw" = some m.cls := findClass_of_methodNamed Bd.named
  have hnm := (name_of_methodNamed Bd.named Bd.method).1
  have X0 : Stand p l e ({ frames := 0, cells := 0, slots := 0, locals := 0 } : Room) s m #[(.int p1)] below meth c s₁ [] 0 0 := Stand.of_body Bd
  have e0 : s₁.heap = h0 := by rw [← hh, Bd.state]; rfl
  have N0 := Fr.nil n0
  have pre0 : ∀ t, Steps p.tables e below (s₁.setTop (mkF m 0 #[.val (.int p1)] [])) t → Steps p.tables e below (s₁.setTop (entryFrame m #[(.int p1)] 1)) t := fun t k => castTop (ef_3 m p1) k

  obtain ⟨fs, hr, hrun, hended, hW, hsame⟩ := X0.leave (v := some (.int (0 : Int32))) (fun h => by rw [Bd.returns] at h; cases h)
  refine ⟨_, _, pre0 _ ?_, hrun, hended, _, _, rfl, ?_, ⟨_, rfl⟩, hW, hsame.mono (by decide) (by decide)⟩
  · show Steps p.tables e below (s₁.setTop (mkF m 0 #[.val (.int p1)] [])) _
    refine XS.iloadN X0.here hx rfl (hb hby d3_0) rfl ?_
    show Steps p.tables e below (s₁.setTop (mkF m 1 #[.val (.int p1)] [(.int p1)])) _
    refine XS.sipush X0.here hx rfl (hb hby d3_1) ?_
    show Steps p.tables e below (s₁.setTop (mkF m 4 #[.val (.int p1)] [(.int (200 : Int32)), (.int p1)])) _
    refine XS.icmpNo X0.here hx rfl (hb hby d3_4) rfl (tlt hc4).2.1 ?_
    show Steps p.tables e below (s₁.setTop (mkF m 7 #[.val (.int p1)] [])) _
    refine XS.iconst X0.here hx rfl (hb hby d3_7) ?_
    show Steps p.tables e below (s₁.setTop (mkF m 8 #[.val (.int p1)] [(.int (0 : Int32))])) _
    exact retN X0 hx (t := .boolean) Bd.returns (by simp) (hb hby d3_8) hr
  · show QR (some (.int (0 : Int32))) h0 n0 _ s₁.heap _
    rw [e0]
    exact ⟨rfl, N0, rfl⟩
theorem d3_9 : decode method_2_code 9 = .ok (.iload_n 0, 1) := by decide +kernel
theorem d3_10 : decode method_2_code 10 = .ok (.sipush 204, 3) := by decide +kernel
theorem d3_13 : decode method_2_code 13 = .ok (.if_icmp .eq 17, 3) := by decide +kernel
theorem d3_30 : decode method_2_code 30 = .ok (.iconst 0, 1) := by decide +kernel
theorem d3_31 : decode method_2_code 31 = .ok (.ireturn, 1) := by decide +kernel
set_option maxRecDepth 65536 in
set_option maxHeartbeats 40000000 in
theorem rm3tt (l : Launch) (Z : State) (a0 : Array Value) (hw : ∀ d ∈ tables_1, d.before a0 Z = true) (ws : List Jvm.Cond) (p1 : Int32) (h0 : Heap) (n0 : Nat) (Z0 : n0 ≤ h0.size) (hc4 : ¬ (p1 < (200 : Int32))) (hc13 : p1 = (204 : Int32)) :
    MetFree l (⟨"com/example/rudder1/rudder1/http/HttpStatusPermitsContentPinLaw", "ref", "(I)Z"⟩ : MethodName) (head1 (Jvm.Cond.code (⟨"com/example/rudder1/rudder1/http/HttpStatusPermitsContentPinLaw", "ref", "(I)Z"⟩ : MethodName) method_2_code 1 (some .boolean) :: ws) ({ frames := 0, cells := 0, slots := 0, locals := 0 } : Room)) (fun a U => a = #[(.int p1)] ∧ Z.Warmed39 U.vm ∧ U.heap = h0) (fun _ _ _ _ _ => True) (fun _ U o U' => ∃ v L, o = .returned v ∧ QR (some (.int (0 : Int32))) h0 n0 v U'.heap L ∧ FrameEnd U o U' L ({ frames := 0, cells := 0, slots := 0, locals := 0 } : Room).cells ({ frames := 0, cells := 0, slots := 0, locals := 0 } : Room).slots) := by
  refine MetFree.of_bodySF (plainFor_of_name pn_3) hisR ?_
  intro p e s m args below meth c s₁ Bd hml0 hP hK
  obtain ⟨rfl, hZ, hh⟩ := hP
  have hx := Bd.exec
  have hby := Bd.bytes
  have hml : c.maxLocals = 1 := hml0
  have hown : s.vm.findClass "com/example/rudder1/rudder1/http/HttpStatusPermitsContentPinLaw" = some m.cls := findClass_of_methodNamed Bd.named
  have hnm := (name_of_methodNamed Bd.named Bd.method).1
  have X0 : Stand p l e ({ frames := 0, cells := 0, slots := 0, locals := 0 } : Room) s m #[(.int p1)] below meth c s₁ [] 0 0 := Stand.of_body Bd
  have e0 : s₁.heap = h0 := by rw [← hh, Bd.state]; rfl
  have N0 := Fr.nil n0
  have pre0 : ∀ t, Steps p.tables e below (s₁.setTop (mkF m 0 #[.val (.int p1)] [])) t → Steps p.tables e below (s₁.setTop (entryFrame m #[(.int p1)] 1)) t := fun t k => castTop (ef_3 m p1) k

  obtain ⟨fs, hr, hrun, hended, hW, hsame⟩ := X0.leave (v := some (.int (0 : Int32))) (fun h => by rw [Bd.returns] at h; cases h)
  refine ⟨_, _, pre0 _ ?_, hrun, hended, _, _, rfl, ?_, ⟨_, rfl⟩, hW, hsame.mono (by decide) (by decide)⟩
  · show Steps p.tables e below (s₁.setTop (mkF m 0 #[.val (.int p1)] [])) _
    refine XS.iloadN X0.here hx rfl (hb hby d3_0) rfl ?_
    show Steps p.tables e below (s₁.setTop (mkF m 1 #[.val (.int p1)] [(.int p1)])) _
    refine XS.sipush X0.here hx rfl (hb hby d3_1) ?_
    show Steps p.tables e below (s₁.setTop (mkF m 4 #[.val (.int p1)] [(.int (200 : Int32)), (.int p1)])) _
    refine XS.icmpYes X0.here hx rfl (pc0 := 4) (pc' := 9) rfl (hb hby d3_4) rfl (flt hc4).2.1 (by decide) (by decide) ?_
    show Steps p.tables e below (s₁.setTop (mkF m 9 #[.val (.int p1)] [])) _
    refine XS.iloadN X0.here hx rfl (hb hby d3_9) rfl ?_
    show Steps p.tables e below (s₁.setTop (mkF m 10 #[.val (.int p1)] [(.int p1)])) _
    refine XS.sipush X0.here hx rfl (hb hby d3_10) ?_
    show Steps p.tables e below (s₁.setTop (mkF m 13 #[.val (.int p1)] [(.int (204 : Int32)), (.int p1)])) _
    refine XS.icmpYes X0.here hx rfl (pc0 := 13) (pc' := 30) rfl (hb hby d3_13) rfl (teq hc13).1 (by decide) (by decide) ?_
    show Steps p.tables e below (s₁.setTop (mkF m 30 #[.val (.int p1)] [])) _
    refine XS.iconst X0.here hx rfl (hb hby d3_30) ?_
    show Steps p.tables e below (s₁.setTop (mkF m 31 #[.val (.int p1)] [(.int (0 : Int32))])) _
    exact retN X0 hx (t := .boolean) Bd.returns (by simp) (hb hby d3_31) hr
  · show QR (some (.int (0 : Int32))) h0 n0 _ s₁.heap _
    rw [e0]
    exact ⟨rfl, N0, rfl⟩
theorem d3_16 : decode method_2_code 16 = .ok (.iload_n 0, 1) := by decide +kernel
theorem d3_17 : decode method_2_code 17 = .ok (.sipush 205, 3) := by decide +kernel
theorem d3_20 : decode method_2_code 20 = .ok (.if_icmp .eq 10, 3) := by decide +kernel
set_option maxRecDepth 65536 in
set_option maxHeartbeats 40000000 in
theorem rm3tft (l : Launch) (Z : State) (a0 : Array Value) (hw : ∀ d ∈ tables_1, d.before a0 Z = true) (ws : List Jvm.Cond) (p1 : Int32) (h0 : Heap) (n0 : Nat) (Z0 : n0 ≤ h0.size) (hc4 : ¬ (p1 < (200 : Int32))) (hc13 : ¬ (p1 = (204 : Int32))) (hc20 : p1 = (205 : Int32)) :
    MetFree l (⟨"com/example/rudder1/rudder1/http/HttpStatusPermitsContentPinLaw", "ref", "(I)Z"⟩ : MethodName) (head1 (Jvm.Cond.code (⟨"com/example/rudder1/rudder1/http/HttpStatusPermitsContentPinLaw", "ref", "(I)Z"⟩ : MethodName) method_2_code 1 (some .boolean) :: ws) ({ frames := 0, cells := 0, slots := 0, locals := 0 } : Room)) (fun a U => a = #[(.int p1)] ∧ Z.Warmed39 U.vm ∧ U.heap = h0) (fun _ _ _ _ _ => True) (fun _ U o U' => ∃ v L, o = .returned v ∧ QR (some (.int (0 : Int32))) h0 n0 v U'.heap L ∧ FrameEnd U o U' L ({ frames := 0, cells := 0, slots := 0, locals := 0 } : Room).cells ({ frames := 0, cells := 0, slots := 0, locals := 0 } : Room).slots) := by
  refine MetFree.of_bodySF (plainFor_of_name pn_3) hisR ?_
  intro p e s m args below meth c s₁ Bd hml0 hP hK
  obtain ⟨rfl, hZ, hh⟩ := hP
  have hx := Bd.exec
  have hby := Bd.bytes
  have hml : c.maxLocals = 1 := hml0
  have hown : s.vm.findClass "com/example/rudder1/rudder1/http/HttpStatusPermitsContentPinLaw" = some m.cls := findClass_of_methodNamed Bd.named
  have hnm := (name_of_methodNamed Bd.named Bd.method).1
  have X0 : Stand p l e ({ frames := 0, cells := 0, slots := 0, locals := 0 } : Room) s m #[(.int p1)] below meth c s₁ [] 0 0 := Stand.of_body Bd
  have e0 : s₁.heap = h0 := by rw [← hh, Bd.state]; rfl
  have N0 := Fr.nil n0
  have pre0 : ∀ t, Steps p.tables e below (s₁.setTop (mkF m 0 #[.val (.int p1)] [])) t → Steps p.tables e below (s₁.setTop (entryFrame m #[(.int p1)] 1)) t := fun t k => castTop (ef_3 m p1) k

  obtain ⟨fs, hr, hrun, hended, hW, hsame⟩ := X0.leave (v := some (.int (0 : Int32))) (fun h => by rw [Bd.returns] at h; cases h)
  refine ⟨_, _, pre0 _ ?_, hrun, hended, _, _, rfl, ?_, ⟨_, rfl⟩, hW, hsame.mono (by decide) (by decide)⟩
  · show Steps p.tables e below (s₁.setTop (mkF m 0 #[.val (.int p1)] [])) _
    refine XS.iloadN X0.here hx rfl (hb hby d3_0) rfl ?_
    show Steps p.tables e below (s₁.setTop (mkF m 1 #[.val (.int p1)] [(.int p1)])) _
    refine XS.sipush X0.here hx rfl (hb hby d3_1) ?_
    show Steps p.tables e below (s₁.setTop (mkF m 4 #[.val (.int p1)] [(.int (200 : Int32)), (.int p1)])) _
    refine XS.icmpYes X0.here hx rfl (pc0 := 4) (pc' := 9) rfl (hb hby d3_4) rfl (flt hc4).2.1 (by decide) (by decide) ?_
    show Steps p.tables e below (s₁.setTop (mkF m 9 #[.val (.int p1)] [])) _
    refine XS.iloadN X0.here hx rfl (hb hby d3_9) rfl ?_
    show Steps p.tables e below (s₁.setTop (mkF m 10 #[.val (.int p1)] [(.int p1)])) _
    refine XS.sipush X0.here hx rfl (hb hby d3_10) ?_
    show Steps p.tables e below (s₁.setTop (mkF m 13 #[.val (.int p1)] [(.int (204 : Int32)), (.int p1)])) _
    refine XS.icmpNo X0.here hx rfl (hb hby d3_13) rfl (feq hc13).1 ?_
    show Steps p.tables e below (s₁.setTop (mkF m 16 #[.val (.int p1)] [])) _
    refine XS.iloadN X0.here hx rfl (hb hby d3_16) rfl ?_
    show Steps p.tables e below (s₁.setTop (mkF m 17 #[.val (.int p1)] [(.int p1)])) _
    refine XS.sipush X0.here hx rfl (hb hby d3_17) ?_
    show Steps p.tables e below (s₁.setTop (mkF m 20 #[.val (.int p1)] [(.int (205 : Int32)), (.int p1)])) _
    refine XS.icmpYes X0.here hx rfl (pc0 := 20) (pc' := 30) rfl (hb hby d3_20) rfl (teq hc20).1 (by decide) (by decide) ?_
    show Steps p.tables e below (s₁.setTop (mkF m 30 #[.val (.int p1)] [])) _
    refine XS.iconst X0.here hx rfl (hb hby d3_30) ?_
    show Steps p.tables e below (s₁.setTop (mkF m 31 #[.val (.int p1)] [(.int (0 : Int32))])) _
    exact retN X0 hx (t := .boolean) Bd.returns (by simp) (hb hby d3_31) hr
  · show QR (some (.int (0 : Int32))) h0 n0 _ s₁.heap _
    rw [e0]
    exact ⟨rfl, N0, rfl⟩
theorem d3_23 : decode method_2_code 23 = .ok (.iload_n 0, 1) := by decide +kernel
theorem d3_24 : decode method_2_code 24 = .ok (.sipush 304, 3) := by decide +kernel
theorem d3_27 : decode method_2_code 27 = .ok (.if_icmp .ne 5, 3) := by decide +kernel
set_option maxRecDepth 65536 in
set_option maxHeartbeats 40000000 in
theorem rm3tfff (l : Launch) (Z : State) (a0 : Array Value) (hw : ∀ d ∈ tables_1, d.before a0 Z = true) (ws : List Jvm.Cond) (p1 : Int32) (h0 : Heap) (n0 : Nat) (Z0 : n0 ≤ h0.size) (hc4 : ¬ (p1 < (200 : Int32))) (hc13 : ¬ (p1 = (204 : Int32))) (hc20 : ¬ (p1 = (205 : Int32))) (hc27 : p1 = (304 : Int32)) :
    MetFree l (⟨"com/example/rudder1/rudder1/http/HttpStatusPermitsContentPinLaw", "ref", "(I)Z"⟩ : MethodName) (head1 (Jvm.Cond.code (⟨"com/example/rudder1/rudder1/http/HttpStatusPermitsContentPinLaw", "ref", "(I)Z"⟩ : MethodName) method_2_code 1 (some .boolean) :: ws) ({ frames := 0, cells := 0, slots := 0, locals := 0 } : Room)) (fun a U => a = #[(.int p1)] ∧ Z.Warmed39 U.vm ∧ U.heap = h0) (fun _ _ _ _ _ => True) (fun _ U o U' => ∃ v L, o = .returned v ∧ QR (some (.int (0 : Int32))) h0 n0 v U'.heap L ∧ FrameEnd U o U' L ({ frames := 0, cells := 0, slots := 0, locals := 0 } : Room).cells ({ frames := 0, cells := 0, slots := 0, locals := 0 } : Room).slots) := by
  refine MetFree.of_bodySF (plainFor_of_name pn_3) hisR ?_
  intro p e s m args below meth c s₁ Bd hml0 hP hK
  obtain ⟨rfl, hZ, hh⟩ := hP
  have hx := Bd.exec
  have hby := Bd.bytes
  have hml : c.maxLocals = 1 := hml0
  have hown : s.vm.findClass "com/example/rudder1/rudder1/http/HttpStatusPermitsContentPinLaw" = some m.cls := findClass_of_methodNamed Bd.named
  have hnm := (name_of_methodNamed Bd.named Bd.method).1
  have X0 : Stand p l e ({ frames := 0, cells := 0, slots := 0, locals := 0 } : Room) s m #[(.int p1)] below meth c s₁ [] 0 0 := Stand.of_body Bd
  have e0 : s₁.heap = h0 := by rw [← hh, Bd.state]; rfl
  have N0 := Fr.nil n0
  have pre0 : ∀ t, Steps p.tables e below (s₁.setTop (mkF m 0 #[.val (.int p1)] [])) t → Steps p.tables e below (s₁.setTop (entryFrame m #[(.int p1)] 1)) t := fun t k => castTop (ef_3 m p1) k

  obtain ⟨fs, hr, hrun, hended, hW, hsame⟩ := X0.leave (v := some (.int (0 : Int32))) (fun h => by rw [Bd.returns] at h; cases h)
  refine ⟨_, _, pre0 _ ?_, hrun, hended, _, _, rfl, ?_, ⟨_, rfl⟩, hW, hsame.mono (by decide) (by decide)⟩
  · show Steps p.tables e below (s₁.setTop (mkF m 0 #[.val (.int p1)] [])) _
    refine XS.iloadN X0.here hx rfl (hb hby d3_0) rfl ?_
    show Steps p.tables e below (s₁.setTop (mkF m 1 #[.val (.int p1)] [(.int p1)])) _
    refine XS.sipush X0.here hx rfl (hb hby d3_1) ?_
    show Steps p.tables e below (s₁.setTop (mkF m 4 #[.val (.int p1)] [(.int (200 : Int32)), (.int p1)])) _
    refine XS.icmpYes X0.here hx rfl (pc0 := 4) (pc' := 9) rfl (hb hby d3_4) rfl (flt hc4).2.1 (by decide) (by decide) ?_
    show Steps p.tables e below (s₁.setTop (mkF m 9 #[.val (.int p1)] [])) _
    refine XS.iloadN X0.here hx rfl (hb hby d3_9) rfl ?_
    show Steps p.tables e below (s₁.setTop (mkF m 10 #[.val (.int p1)] [(.int p1)])) _
    refine XS.sipush X0.here hx rfl (hb hby d3_10) ?_
    show Steps p.tables e below (s₁.setTop (mkF m 13 #[.val (.int p1)] [(.int (204 : Int32)), (.int p1)])) _
    refine XS.icmpNo X0.here hx rfl (hb hby d3_13) rfl (feq hc13).1 ?_
    show Steps p.tables e below (s₁.setTop (mkF m 16 #[.val (.int p1)] [])) _
    refine XS.iloadN X0.here hx rfl (hb hby d3_16) rfl ?_
    show Steps p.tables e below (s₁.setTop (mkF m 17 #[.val (.int p1)] [(.int p1)])) _
    refine XS.sipush X0.here hx rfl (hb hby d3_17) ?_
    show Steps p.tables e below (s₁.setTop (mkF m 20 #[.val (.int p1)] [(.int (205 : Int32)), (.int p1)])) _
    refine XS.icmpNo X0.here hx rfl (hb hby d3_20) rfl (feq hc20).1 ?_
    show Steps p.tables e below (s₁.setTop (mkF m 23 #[.val (.int p1)] [])) _
    refine XS.iloadN X0.here hx rfl (hb hby d3_23) rfl ?_
    show Steps p.tables e below (s₁.setTop (mkF m 24 #[.val (.int p1)] [(.int p1)])) _
    refine XS.sipush X0.here hx rfl (hb hby d3_24) ?_
    show Steps p.tables e below (s₁.setTop (mkF m 27 #[.val (.int p1)] [(.int (304 : Int32)), (.int p1)])) _
    refine XS.icmpNo X0.here hx rfl (hb hby d3_27) rfl (teq hc27).2 ?_
    show Steps p.tables e below (s₁.setTop (mkF m 30 #[.val (.int p1)] [])) _
    refine XS.iconst X0.here hx rfl (hb hby d3_30) ?_
    show Steps p.tables e below (s₁.setTop (mkF m 31 #[.val (.int p1)] [(.int (0 : Int32))])) _
    exact retN X0 hx (t := .boolean) Bd.returns (by simp) (hb hby d3_31) hr
  · show QR (some (.int (0 : Int32))) h0 n0 _ s₁.heap _
    rw [e0]
    exact ⟨rfl, N0, rfl⟩
theorem d3_32 : decode method_2_code 32 = .ok (.iconst 1, 1) := by decide +kernel
theorem d3_33 : decode method_2_code 33 = .ok (.ireturn, 1) := by decide +kernel
set_option maxRecDepth 65536 in
set_option maxHeartbeats 40000000 in
theorem rm3tfft (l : Launch) (Z : State) (a0 : Array Value) (hw : ∀ d ∈ tables_1, d.before a0 Z = true) (ws : List Jvm.Cond) (p1 : Int32) (h0 : Heap) (n0 : Nat) (Z0 : n0 ≤ h0.size) (hc4 : ¬ (p1 < (200 : Int32))) (hc13 : ¬ (p1 = (204 : Int32))) (hc20 : ¬ (p1 = (205 : Int32))) (hc27 : ¬ (p1 = (304 : Int32))) :
    MetFree l (⟨"com/example/rudder1/rudder1/http/HttpStatusPermitsContentPinLaw", "ref", "(I)Z"⟩ : MethodName) (head1 (Jvm.Cond.code (⟨"com/example/rudder1/rudder1/http/HttpStatusPermitsContentPinLaw", "ref", "(I)Z"⟩ : MethodName) method_2_code 1 (some .boolean) :: ws) ({ frames := 0, cells := 0, slots := 0, locals := 0 } : Room)) (fun a U => a = #[(.int p1)] ∧ Z.Warmed39 U.vm ∧ U.heap = h0) (fun _ _ _ _ _ => True) (fun _ U o U' => ∃ v L, o = .returned v ∧ QR (some (.int (1 : Int32))) h0 n0 v U'.heap L ∧ FrameEnd U o U' L ({ frames := 0, cells := 0, slots := 0, locals := 0 } : Room).cells ({ frames := 0, cells := 0, slots := 0, locals := 0 } : Room).slots) := by
  refine MetFree.of_bodySF (plainFor_of_name pn_3) hisR ?_
  intro p e s m args below meth c s₁ Bd hml0 hP hK
  obtain ⟨rfl, hZ, hh⟩ := hP
  have hx := Bd.exec
  have hby := Bd.bytes
  have hml : c.maxLocals = 1 := hml0
  have hown : s.vm.findClass "com/example/rudder1/rudder1/http/HttpStatusPermitsContentPinLaw" = some m.cls := findClass_of_methodNamed Bd.named
  have hnm := (name_of_methodNamed Bd.named Bd.method).1
  have X0 : Stand p l e ({ frames := 0, cells := 0, slots := 0, locals := 0 } : Room) s m #[(.int p1)] below meth c s₁ [] 0 0 := Stand.of_body Bd
  have e0 : s₁.heap = h0 := by rw [← hh, Bd.state]; rfl
  have N0 := Fr.nil n0
  have pre0 : ∀ t, Steps p.tables e below (s₁.setTop (mkF m 0 #[.val (.int p1)] [])) t → Steps p.tables e below (s₁.setTop (entryFrame m #[(.int p1)] 1)) t := fun t k => castTop (ef_3 m p1) k

  obtain ⟨fs, hr, hrun, hended, hW, hsame⟩ := X0.leave (v := some (.int (1 : Int32))) (fun h => by rw [Bd.returns] at h; cases h)
  refine ⟨_, _, pre0 _ ?_, hrun, hended, _, _, rfl, ?_, ⟨_, rfl⟩, hW, hsame.mono (by decide) (by decide)⟩
  · show Steps p.tables e below (s₁.setTop (mkF m 0 #[.val (.int p1)] [])) _
    refine XS.iloadN X0.here hx rfl (hb hby d3_0) rfl ?_
    show Steps p.tables e below (s₁.setTop (mkF m 1 #[.val (.int p1)] [(.int p1)])) _
    refine XS.sipush X0.here hx rfl (hb hby d3_1) ?_
    show Steps p.tables e below (s₁.setTop (mkF m 4 #[.val (.int p1)] [(.int (200 : Int32)), (.int p1)])) _
    refine XS.icmpYes X0.here hx rfl (pc0 := 4) (pc' := 9) rfl (hb hby d3_4) rfl (flt hc4).2.1 (by decide) (by decide) ?_
    show Steps p.tables e below (s₁.setTop (mkF m 9 #[.val (.int p1)] [])) _
    refine XS.iloadN X0.here hx rfl (hb hby d3_9) rfl ?_
    show Steps p.tables e below (s₁.setTop (mkF m 10 #[.val (.int p1)] [(.int p1)])) _
    refine XS.sipush X0.here hx rfl (hb hby d3_10) ?_
    show Steps p.tables e below (s₁.setTop (mkF m 13 #[.val (.int p1)] [(.int (204 : Int32)), (.int p1)])) _
    refine XS.icmpNo X0.here hx rfl (hb hby d3_13) rfl (feq hc13).1 ?_
    show Steps p.tables e below (s₁.setTop (mkF m 16 #[.val (.int p1)] [])) _
    refine XS.iloadN X0.here hx rfl (hb hby d3_16) rfl ?_
    show Steps p.tables e below (s₁.setTop (mkF m 17 #[.val (.int p1)] [(.int p1)])) _
    refine XS.sipush X0.here hx rfl (hb hby d3_17) ?_
    show Steps p.tables e below (s₁.setTop (mkF m 20 #[.val (.int p1)] [(.int (205 : Int32)), (.int p1)])) _
    refine XS.icmpNo X0.here hx rfl (hb hby d3_20) rfl (feq hc20).1 ?_
    show Steps p.tables e below (s₁.setTop (mkF m 23 #[.val (.int p1)] [])) _
    refine XS.iloadN X0.here hx rfl (hb hby d3_23) rfl ?_
    show Steps p.tables e below (s₁.setTop (mkF m 24 #[.val (.int p1)] [(.int p1)])) _
    refine XS.sipush X0.here hx rfl (hb hby d3_24) ?_
    show Steps p.tables e below (s₁.setTop (mkF m 27 #[.val (.int p1)] [(.int (304 : Int32)), (.int p1)])) _
    refine XS.icmpYes X0.here hx rfl (pc0 := 27) (pc' := 32) rfl (hb hby d3_27) rfl (feq hc27).2 (by decide) (by decide) ?_
    show Steps p.tables e below (s₁.setTop (mkF m 32 #[.val (.int p1)] [])) _
    refine XS.iconst X0.here hx rfl (hb hby d3_32) ?_
    show Steps p.tables e below (s₁.setTop (mkF m 33 #[.val (.int p1)] [(.int (1 : Int32))])) _
    exact retN X0 hx (t := .boolean) Bd.returns (by simp) (hb hby d3_33) hr
  · show QR (some (.int (1 : Int32))) h0 n0 _ s₁.heap _
    rw [e0]
    exact ⟨rfl, N0, rfl⟩
theorem rm2 (l : Launch) (Z : State) (a0 : Array Value) (hw : ∀ d ∈ tables_1, d.before a0 Z = true) (ws : List Jvm.Cond) (p1 : Int32) (u_NO_CONTENT u_RESET_CONTENT u_NOT_MODIFIED : Addr) (h0 : Heap) (n0 : Nat) (Z0 : n0 ≤ h0.size) (S_NO_CONTENT : Sta Z h0 "com/example/rudder1/rudder1/http/HttpStatus" "NO_CONTENT" "Lcom/example/rudder1/rudder1/http/HttpStatus;" (.ref u_NO_CONTENT)) (E_NO_CONTENT : Exa Z h0 u_NO_CONTENT "com/example/rudder1/rudder1/http/HttpStatus") (S_RESET_CONTENT : Sta Z h0 "com/example/rudder1/rudder1/http/HttpStatus" "RESET_CONTENT" "Lcom/example/rudder1/rudder1/http/HttpStatus;" (.ref u_RESET_CONTENT)) (E_RESET_CONTENT : Exa Z h0 u_RESET_CONTENT "com/example/rudder1/rudder1/http/HttpStatus") (S_NOT_MODIFIED : Sta Z h0 "com/example/rudder1/rudder1/http/HttpStatus" "NOT_MODIFIED" "Lcom/example/rudder1/rudder1/http/HttpStatus;" (.ref u_NOT_MODIFIED)) (E_NOT_MODIFIED : Exa Z h0 u_NOT_MODIFIED "com/example/rudder1/rudder1/http/HttpStatus") (F_NO_CONTENT : Fld Z h0 u_NO_CONTENT "com/example/rudder1/rudder1/http/HttpStatus" "value" "I" (.int (204 : Int32))) (F_RESET_CONTENT : Fld Z h0 u_RESET_CONTENT "com/example/rudder1/rudder1/http/HttpStatus" "value" "I" (.int (205 : Int32))) (F_NOT_MODIFIED : Fld Z h0 u_NOT_MODIFIED "com/example/rudder1/rudder1/http/HttpStatus" "value" "I" (.int (304 : Int32))) :
    MetFree l (⟨"com/example/rudder1/rudder1/http/HttpStatus", "permitsContent", "(I)Z"⟩ : MethodName) (head1 (Jvm.Cond.code (⟨"com/example/rudder1/rudder1/http/HttpStatus", "permitsContent", "(I)Z"⟩ : MethodName) prog_46_method_9_code 1 (some .boolean) :: ws) ({ frames := 0, cells := 0, slots := 0, locals := 0 } : Room)) (fun a U => a = #[(.int p1)] ∧ Z.Warmed39 U.vm ∧ U.heap = h0) (fun _ _ _ _ _ => True) (fun _ U o U' => ∃ v L, o = .returned v ∧ QR (some (.int (own_perm p1))) h0 n0 v U'.heap L ∧ FrameEnd U o U' L ({ frames := 0, cells := 0, slots := 0, locals := 0 } : Room).cells ({ frames := 0, cells := 0, slots := 0, locals := 0 } : Room).slots) := by
  by_cases k1 : p1 < 200
  · rw [show own_perm p1 = (0 : Int32) from if_pos k1]; exact rm2t l Z a0 hw ws p1 h0 n0 Z0 k1
  by_cases k2 : p1 = 204
  · rw [show own_perm p1 = (0 : Int32) by rw [own_perm, if_neg k1, if_pos k2]]; exact rm2ft l Z a0 hw ws p1 u_NO_CONTENT 204 h0 n0 Z0 S_NO_CONTENT F_NO_CONTENT k1 k2
  by_cases k3 : p1 = 205
  · rw [show own_perm p1 = (0 : Int32) by rw [own_perm, if_neg k1, if_neg k2, if_pos k3]]; exact rm2fft l Z a0 hw ws p1 u_NO_CONTENT 204 u_RESET_CONTENT 205 h0 n0 Z0 S_NO_CONTENT F_NO_CONTENT S_RESET_CONTENT F_RESET_CONTENT k1 k2 k3
  by_cases k4 : p1 = 304
  · rw [show own_perm p1 = (0 : Int32) by rw [own_perm, if_neg k1, if_neg k2, if_neg k3, if_pos k4]]; exact rm2ffft l Z a0 hw ws p1 u_NO_CONTENT 204 u_RESET_CONTENT 205 u_NOT_MODIFIED 304 h0 n0 Z0 S_NO_CONTENT F_NO_CONTENT S_RESET_CONTENT F_RESET_CONTENT S_NOT_MODIFIED F_NOT_MODIFIED k1 k2 k3 k4
  rw [show own_perm p1 = (1 : Int32) by rw [own_perm, if_neg k1, if_neg k2, if_neg k3, if_neg k4]]; exact rm2ffff l Z a0 hw ws p1 u_NO_CONTENT 204 u_RESET_CONTENT 205 u_NOT_MODIFIED 304 h0 n0 Z0 S_NO_CONTENT F_NO_CONTENT S_RESET_CONTENT F_RESET_CONTENT S_NOT_MODIFIED F_NOT_MODIFIED k1 k2 k3 k4
theorem rm3 (l : Launch) (Z : State) (a0 : Array Value) (hw : ∀ d ∈ tables_1, d.before a0 Z = true) (ws : List Jvm.Cond) (p1 : Int32) (h0 : Heap) (n0 : Nat) (Z0 : n0 ≤ h0.size) :
    MetFree l (⟨"com/example/rudder1/rudder1/http/HttpStatusPermitsContentPinLaw", "ref", "(I)Z"⟩ : MethodName) (head1 (Jvm.Cond.code (⟨"com/example/rudder1/rudder1/http/HttpStatusPermitsContentPinLaw", "ref", "(I)Z"⟩ : MethodName) method_2_code 1 (some .boolean) :: ws) ({ frames := 0, cells := 0, slots := 0, locals := 0 } : Room)) (fun a U => a = #[(.int p1)] ∧ Z.Warmed39 U.vm ∧ U.heap = h0) (fun _ _ _ _ _ => True) (fun _ U o U' => ∃ v L, o = .returned v ∧ QR (some (.int (own_perm p1))) h0 n0 v U'.heap L ∧ FrameEnd U o U' L ({ frames := 0, cells := 0, slots := 0, locals := 0 } : Room).cells ({ frames := 0, cells := 0, slots := 0, locals := 0 } : Room).slots) := by
  by_cases k1 : p1 < 200
  · rw [show own_perm p1 = (0 : Int32) from if_pos k1]; exact rm3f l Z a0 hw ws p1 h0 n0 Z0 k1
  by_cases k2 : p1 = 204
  · rw [show own_perm p1 = (0 : Int32) by rw [own_perm, if_neg k1, if_pos k2]]; exact rm3tt l Z a0 hw ws p1 h0 n0 Z0 k1 k2
  by_cases k3 : p1 = 205
  · rw [show own_perm p1 = (0 : Int32) by rw [own_perm, if_neg k1, if_neg k2, if_pos k3]]; exact rm3tft l Z a0 hw ws p1 h0 n0 Z0 k1 k2 k3
  by_cases k4 : p1 = 304
  · rw [show own_perm p1 = (0 : Int32) by rw [own_perm, if_neg k1, if_neg k2, if_neg k3, if_pos k4]]; exact rm3tfff l Z a0 hw ws p1 h0 n0 Z0 k1 k2 k3 k4
  rw [show own_perm p1 = (1 : Int32) by rw [own_perm, if_neg k1, if_neg k2, if_neg k3, if_neg k4]]; exact rm3tfft l Z a0 hw ws p1 h0 n0 Z0 k1 k2 k3 k4
abbrev own_C2 (l : Launch) (Z : State) (p1 : Int32) (r : Option Value) (h0 : Heap) (n0 : Nat) : Prop :=
    MetFree l (⟨"com/example/rudder1/rudder1/http/HttpStatus", "permitsContent", "(I)Z"⟩ : MethodName) (head1 (Jvm.Cond.code (⟨"com/example/rudder1/rudder1/http/HttpStatus", "permitsContent", "(I)Z"⟩ : MethodName) prog_46_method_9_code 1 (some .boolean) :: []) ({ frames := 0, cells := 0, slots := 0, locals := 0 } : Room)) (fun a U => a = #[(.int p1)] ∧ Z.Warmed39 U.vm ∧ U.heap = h0) (fun _ _ _ _ _ => True) (fun _ U o U' => ∃ v L, o = .returned v ∧ QR r h0 n0 v U'.heap L ∧ FrameEnd U o U' L ({ frames := 0, cells := 0, slots := 0, locals := 0 } : Room).cells ({ frames := 0, cells := 0, slots := 0, locals := 0 } : Room).slots)
abbrev own_C3 (l : Launch) (Z : State) (p1 : Int32) (r : Option Value) (h0 : Heap) (n0 : Nat) : Prop :=
    MetFree l (⟨"com/example/rudder1/rudder1/http/HttpStatusPermitsContentPinLaw", "ref", "(I)Z"⟩ : MethodName) (head1 (Jvm.Cond.code (⟨"com/example/rudder1/rudder1/http/HttpStatusPermitsContentPinLaw", "ref", "(I)Z"⟩ : MethodName) method_2_code 1 (some .boolean) :: []) ({ frames := 0, cells := 0, slots := 0, locals := 0 } : Room)) (fun a U => a = #[(.int p1)] ∧ Z.Warmed39 U.vm ∧ U.heap = h0) (fun _ _ _ _ _ => True) (fun _ U o U' => ∃ v L, o = .returned v ∧ QR r h0 n0 v U'.heap L ∧ FrameEnd U o U' L ({ frames := 0, cells := 0, slots := 0, locals := 0 } : Room).cells ({ frames := 0, cells := 0, slots := 0, locals := 0 } : Room).slots)
theorem d1_0 : decode method_3_code 0 = .ok (.iload_n 0, 1) := by decide +kernel
theorem d1_1 : decode method_3_code 1 = .ok (.invokestatic 7, 3) := by decide +kernel
theorem d1_4 : decode method_3_code 4 = .ok (.iload_n 0, 1) := by decide +kernel
theorem d1_5 : decode method_3_code 5 = .ok (.invokestatic 13, 3) := by decide +kernel
theorem d1_8 : decode method_3_code 8 = .ok (.if_icmp .ne 7, 3) := by decide +kernel
theorem d1_11 : decode method_3_code 11 = .ok (.iconst 1, 1) := by decide +kernel
theorem d1_12 : decode method_3_code 12 = .ok (.goto 4, 3) := by decide +kernel
theorem d1_16 : decode method_3_code 16 = .ok (.ireturn, 1) := by decide +kernel
theorem pn_1 : plainName "com/example/rudder1/rudder1/http/HttpStatusPermitsContentPinLaw" = true := by first | (simp [plainName, overriddenIn]; done) | decide +kernel
theorem pd0 : parseMethodDescriptor "(I)Z" = some ⟨[.int], some .boolean⟩ := by decide +kernel
theorem ef_1 (m : MethodId) (x0 : Int32) : entryFrame m #[(.int x0)] 1 = mkF m 0 #[.val (.int x0)] [] := by first | (simp [entryFrame, mkF, argsToLocals, Value.category]; done) | rfl
set_option maxRecDepth 65536 in
set_option maxHeartbeats 40000000 in
theorem rm1 (l : Launch) (Z : State) (a0 : Array Value) (hw : ∀ d ∈ tables_1, d.before a0 Z = true) (ws : List Jvm.Cond) (p1 : Int32) (h0 : Heap) (n0 : Nat) (Z0 : n0 ≤ h0.size) (hC2 : own_C2 l Z p1 (some (.int (own_perm p1))) h0 n0) (hC3 : own_C3 l Z p1 (some (.int (own_perm p1))) h0 n0) :
    MetFree l (⟨"com/example/rudder1/rudder1/http/HttpStatusPermitsContentPinLaw", "ok", "(I)Z"⟩ : MethodName) (head1 (Jvm.Cond.code (⟨"com/example/rudder1/rudder1/http/HttpStatusPermitsContentPinLaw", "ok", "(I)Z"⟩ : MethodName) method_3_code 1 (some .boolean) :: ws) ({ frames := 1, cells := 0, slots := 0, locals := 13 } : Room)) (fun a U => a = #[(.int p1)] ∧ Z.Warmed39 U.vm ∧ U.heap = h0) (fun _ _ _ _ _ => True) (fun _ U o U' => ∃ v L, o = .returned v ∧ QR (some (.int (1 : Int32))) h0 n0 v U'.heap L ∧ FrameEnd U o U' L ({ frames := 1, cells := 0, slots := 0, locals := 13 } : Room).cells ({ frames := 1, cells := 0, slots := 0, locals := 13 } : Room).slots) := by
  refine MetFree.of_bodySF (plainFor_of_name pn_1) hisR ?_
  intro p e s m args below meth c s₁ Bd hml0 hP hK
  obtain ⟨rfl, hZ, hh⟩ := hP
  have hx := Bd.exec
  have hby := Bd.bytes
  have hml : c.maxLocals = 1 := hml0
  have hown : s.vm.findClass "com/example/rudder1/rudder1/http/HttpStatusPermitsContentPinLaw" = some m.cls := findClass_of_methodNamed Bd.named
  have hnm := (name_of_methodNamed Bd.named Bd.method).1
  have X0 : Stand p l e ({ frames := 1, cells := 0, slots := 0, locals := 13 } : Room) s m #[(.int p1)] below meth c s₁ [] 0 0 := Stand.of_body Bd
  have e0 : s₁.heap = h0 := by rw [← hh, Bd.state]; rfl
  have N0 := Fr.nil n0
  have pre0 : ∀ t, Steps p.tables e below (s₁.setTop (mkF m 0 #[.val (.int p1)] [])) t → Steps p.tables e below (s₁.setTop (entryFrame m #[(.int p1)] 1)) t := fun t k => castTop (ef_1 m p1) k
  obtain ⟨_, _, ⟨T2, L2, k2, n2⟩, -, X2, ⟨Lc2, hQ2, l2, y2, z2⟩, st2⟩ := Jvm.LawKit.callS X0 hx (y := (⟨"com/example/rudder1/rudder1/http/HttpStatus", "permitsContent", "(I)Z"⟩ : MethodName)) hown (mvT hZ (hw _ (List.mem_of_getElem? (i := 4) rfl))) (mvT hZ (hw _ (List.mem_of_getElem? (i := 5) rfl))) (mvT hZ (hw _ (List.mem_of_getElem? (i := 6) rfl))) (mvT hZ (hw _ (List.mem_of_getElem? (i := 7) rfl))) (by decide) (backOf (W := 0) hC2 hZ (hw _ (List.mem_of_getElem? (i := 7) rfl)) (hw _ (List.mem_of_getElem? (i := 6) rfl)) (by decide) (by decide)) (g := (mkF m 1 #[.val (.int p1)] [(.int p1)])) rfl (by rw [hml]; rfl) (argsL := [(.int p1)]) (rest := []) (lenOf pd0 rfl) rfl (by show 2 * 0 + _ ≤ _; exact Nat.le_of_eq rfl) (hb hby d1_1) (fun _ _ => ⟨rfl, e0, (by decide : 0 + 0 ≤ _), (by decide : 0 + 0 ≤ _)⟩)
  dsimp only [Pt.U, Pt.locs, Pt.cells, Pt.slots] at X2 l2 y2 z2 st2 hQ2
  subst l2 y2 z2
  obtain ⟨rfl, N2q, eQ2⟩ := hQ2
  have N2 := Fr.app N0 N2q
  obtain ⟨_, _, ⟨T3, L3, k3, n3⟩, -, X3, ⟨Lc3, hQ3, l3, y3, z3⟩, st3⟩ := Jvm.LawKit.callS X2 hx (y := (⟨"com/example/rudder1/rudder1/http/HttpStatusPermitsContentPinLaw", "ref", "(I)Z"⟩ : MethodName)) hown (mvT hZ (hw _ (List.mem_of_getElem? (i := 8) rfl))) (mvT hZ (hw _ (List.mem_of_getElem? (i := 9) rfl))) (mvT hZ (hw _ (List.mem_of_getElem? (i := 2) rfl))) (mvT hZ (hw _ (List.mem_of_getElem? (i := 10) rfl))) (by decide) (backOf (W := 1) hC3 hZ (hw _ (List.mem_of_getElem? (i := 10) rfl)) (hw _ (List.mem_of_getElem? (i := 2) rfl)) (by decide) (by decide)) (g := (mkF m 5 #[.val (.int p1)] [(.int p1), (.int (own_perm p1))])) rfl (by rw [hml]; rfl) (argsL := [(.int p1)]) (rest := [(.int (own_perm p1))]) (lenOf pd0 rfl) rfl (by show 2 * 0 + _ ≤ _; exact Nat.le_of_eq rfl) (hb hby d1_5) (fun _ _ => ⟨rfl, eQ2, (by decide : 0 + 0 ≤ _), (by decide : 0 + 0 ≤ _)⟩)
  dsimp only [Pt.U, Pt.locs, Pt.cells, Pt.slots] at X3 l3 y3 z3 st3 hQ3
  subst l3 y3 z3
  obtain ⟨rfl, N3q, eQ3⟩ := hQ3
  have N3 := Fr.app N2 N3q
  obtain ⟨fs, hr, hrun, hended, hW, hsame⟩ := X3.leave (v := some (.int (1 : Int32))) (fun h => by rw [Bd.returns] at h; cases h)
  refine ⟨_, _, pre0 _ ?_, hrun, hended, _, _, rfl, ?_, ⟨_, rfl⟩, hW, hsame.mono (by decide) (by decide)⟩
  · show Steps p.tables e below (s₁.setTop (mkF m 0 #[.val (.int p1)] [])) _
    refine XS.iloadN X0.here hx rfl (hb hby d1_0) rfl ?_
    show Steps p.tables e below (s₁.setTop (mkF m 1 #[.val (.int p1)] [(.int p1)])) _
    refine st2 _ ?_
    show Steps p.tables e below (T2.setTop (mkF m 4 #[.val (.int p1)] [(.int (own_perm p1))])) _
    refine XS.iloadN X2.here hx rfl (hb hby d1_4) rfl ?_
    show Steps p.tables e below (T2.setTop (mkF m 5 #[.val (.int p1)] [(.int p1), (.int (own_perm p1))])) _
    refine st3 _ ?_
    show Steps p.tables e below (T3.setTop (mkF m 8 #[.val (.int p1)] [(.int (own_perm p1)), (.int (own_perm p1))])) _
    refine XS.icmpNo X3.here hx rfl (hb hby d1_8) rfl (teq (rfl : (own_perm p1) = (own_perm p1))).2 ?_
    show Steps p.tables e below (T3.setTop (mkF m 11 #[.val (.int p1)] [])) _
    refine XS.iconst X3.here hx rfl (hb hby d1_11) ?_
    show Steps p.tables e below (T3.setTop (mkF m 12 #[.val (.int p1)] [(.int (1 : Int32))])) _
    refine XS.goto X3.here hx rfl (pc0 := 12) (pc' := 16) rfl (hb hby d1_12) (by decide) (by decide) ?_
    show Steps p.tables e below (T3.setTop (mkF m 16 #[.val (.int p1)] [(.int (1 : Int32))])) _
    exact retN X3 hx (t := .boolean) Bd.returns (by simp) (hb hby d1_16) hr
  · show QR (some (.int (1 : Int32))) h0 n0 _ T3.heap _
    exact ⟨rfl, N3, eQ3⟩
abbrev own_C1 (l : Launch) (Z : State) (p1 : Int32) (r : Option Value) (h0 : Heap) (n0 : Nat) : Prop :=
    MetFree l (⟨"com/example/rudder1/rudder1/http/HttpStatusPermitsContentPinLaw", "ok", "(I)Z"⟩ : MethodName) (head1 (Jvm.Cond.code (⟨"com/example/rudder1/rudder1/http/HttpStatusPermitsContentPinLaw", "ok", "(I)Z"⟩ : MethodName) method_3_code 1 (some .boolean) :: []) ({ frames := 1, cells := 0, slots := 0, locals := 13 } : Room)) (fun a U => a = #[(.int p1)] ∧ Z.Warmed39 U.vm ∧ U.heap = h0) (fun _ _ _ _ _ => True) (fun _ U o U' => ∃ v L, o = .returned v ∧ QR r h0 n0 v U'.heap L ∧ FrameEnd U o U' L ({ frames := 1, cells := 0, slots := 0, locals := 13 } : Room).cells ({ frames := 1, cells := 0, slots := 0, locals := 13 } : Room).slots)
theorem pn_0 : plainName "com/example/rudder1/rudder1/http/HttpStatusPermitsContentPinLaw" = true := by first | (simp [plainName, overriddenIn]; done) | decide +kernel
theorem ef_0 (m : MethodId) (x0 : Int32) (x1 : Int32) : entryFrame m #[(.int x0), (.int x1)] maxLocals = mkF m 0 #[.val (.int x0), .val (.int x1), .unset, .unset, .unset] [] := by first | (simp [entryFrame, mkF, argsToLocals, Value.category, maxLocals]; done) | rfl
set_option maxRecDepth 65536 in
set_option maxHeartbeats 40000000 in
theorem rm0L (l : Launch) (Z : State) (a0 : Array Value) (hw : ∀ d ∈ tables_1, d.before a0 Z = true) (ws : List Jvm.Cond) (p1 : Int32) (p2 : Int32) (h0 : Heap) (n0 : Nat) (Z0 : n0 ≤ h0.size) (hC : ∀ c : Int32, own_C1 l Z c (some (.int (1 : Int32))) h0 n0) :
    MetFree l x (head1 (Jvm.Cond.code x code maxLocals ret :: ws) room_1) (fun a U => a = #[(.int p1), (.int p2)] ∧ Z.Warmed39 U.vm ∧ U.heap = h0) (fun _ _ _ _ _ => True) (fun _ U o U' => ∃ v L, o = .returned v ∧ QL n0 v U'.heap L ∧ FrameEnd U o U' L room_1.cells room_1.slots) := by
  refine MetFree.of_bodySF (plainFor_of_name pn_0) hisR ?_
  intro p e s m args below meth c s₁ Bd hml0 hP hK
  obtain ⟨rfl, hZ, hh⟩ := hP
  have hx := Bd.exec
  have hby := Bd.bytes
  have hml : c.maxLocals = 5 := hml0
  have hown : s.vm.findClass "com/example/rudder1/rudder1/http/HttpStatusPermitsContentPinLaw" = some m.cls := findClass_of_methodNamed Bd.named
  have hnm := (name_of_methodNamed Bd.named Bd.method).1
  have X0 : Stand p l e room_1 s m #[(.int p1), (.int p2)] below meth c s₁ [] 0 0 := Stand.of_body Bd
  have e0 : s₁.heap = h0 := by rw [← hh, Bd.state]; rfl
  have N0 := Fr.nil n0
  have pre0 : ∀ t, Steps p.tables e below (s₁.setTop (mkF m 0 #[.val (.int p1), .val (.int p2), .unset, .unset, .unset] [])) t → Steps p.tables e below (s₁.setTop (entryFrame m #[(.int p1), (.int p2)] maxLocals)) t := fun t k => castTop (ef_0 m p1 p2) k
  obtain ⟨_, _, ⟨T3, L3, k3, n3⟩, -, X3, ⟨Lc3, hQ3, l3, y3, z3⟩, st3⟩ := Jvm.LawKit.callS X0 hx (y := (⟨"com/example/rudder1/rudder1/http/HttpStatusPermitsContentPinLaw", "ok", "(I)Z"⟩ : MethodName)) hown (mvT hZ (hw _ (List.mem_of_getElem? (i := 0) rfl))) (mvT hZ (hw _ (List.mem_of_getElem? (i := 1) rfl))) (mvT hZ (hw _ (List.mem_of_getElem? (i := 2) rfl))) (mvT hZ (hw _ (List.mem_of_getElem? (i := 3) rfl))) (by decide) (backOf (W := 0) (hC _) hZ (hw _ (List.mem_of_getElem? (i := 3) rfl)) (hw _ (List.mem_of_getElem? (i := 2) rfl)) (by decide) (by decide)) (g := (mkF m 33 #[.val (.int p1), .val (.int p2), .val (.int ((92 : Int32) + (p2 &&& (15 : Int32)))), .val (.int ((196 : Int32) + (((p2.toUInt32 >>> ((4 : Int32) &&& 31).toUInt32).toInt32) &&& (15 : Int32)))), .val (.int ((296 : Int32) + (((p2.toUInt32 >>> ((8 : Int32) &&& 31).toUInt32).toInt32) &&& (15 : Int32))))] [(.int p1)])) rfl (by rw [hml]; rfl) (argsL := [(.int p1)]) (rest := []) (lenOf pd0 rfl) rfl (by show 2 * 0 + _ ≤ _; exact Nat.le_of_eq rfl) (hb hby at_33) (fun _ _ => ⟨rfl, e0, (by decide : 0 + 0 ≤ _), (by decide : 0 + 0 ≤ _)⟩)
  dsimp only [Pt.U, Pt.locs, Pt.cells, Pt.slots] at X3 l3 y3 z3 st3 hQ3
  subst l3 y3 z3
  obtain ⟨rfl, N3q, eQ3⟩ := hQ3
  have N3 := Fr.app N0 N3q
  obtain ⟨_, _, ⟨T4, L4, k4, n4⟩, -, X4, ⟨Lc4, hQ4, l4, y4, z4⟩, st4⟩ := Jvm.LawKit.callS X3 hx (y := (⟨"com/example/rudder1/rudder1/http/HttpStatusPermitsContentPinLaw", "ok", "(I)Z"⟩ : MethodName)) hown (mvT hZ (hw _ (List.mem_of_getElem? (i := 0) rfl))) (mvT hZ (hw _ (List.mem_of_getElem? (i := 1) rfl))) (mvT hZ (hw _ (List.mem_of_getElem? (i := 2) rfl))) (mvT hZ (hw _ (List.mem_of_getElem? (i := 3) rfl))) (by decide) (backOf (W := 0) (hC _) hZ (hw _ (List.mem_of_getElem? (i := 3) rfl)) (hw _ (List.mem_of_getElem? (i := 2) rfl)) (by decide) (by decide)) (g := (mkF m 40 #[.val (.int p1), .val (.int p2), .val (.int ((92 : Int32) + (p2 &&& (15 : Int32)))), .val (.int ((196 : Int32) + (((p2.toUInt32 >>> ((4 : Int32) &&& 31).toUInt32).toInt32) &&& (15 : Int32)))), .val (.int ((296 : Int32) + (((p2.toUInt32 >>> ((8 : Int32) &&& 31).toUInt32).toInt32) &&& (15 : Int32))))] [(.int ((92 : Int32) + (p2 &&& (15 : Int32))))])) rfl (by rw [hml]; rfl) (argsL := [(.int ((92 : Int32) + (p2 &&& (15 : Int32))))]) (rest := []) (lenOf pd0 rfl) rfl (by show 2 * 0 + _ ≤ _; exact Nat.le_of_eq rfl) (hb hby at_40) (fun _ _ => ⟨rfl, eQ3, (by decide : 0 + 0 ≤ _), (by decide : 0 + 0 ≤ _)⟩)
  dsimp only [Pt.U, Pt.locs, Pt.cells, Pt.slots] at X4 l4 y4 z4 st4 hQ4
  subst l4 y4 z4
  obtain ⟨rfl, N4q, eQ4⟩ := hQ4
  have N4 := Fr.app N3 N4q
  obtain ⟨_, _, ⟨T5, L5, k5, n5⟩, -, X5, ⟨Lc5, hQ5, l5, y5, z5⟩, st5⟩ := Jvm.LawKit.callS X4 hx (y := (⟨"com/example/rudder1/rudder1/http/HttpStatusPermitsContentPinLaw", "ok", "(I)Z"⟩ : MethodName)) hown (mvT hZ (hw _ (List.mem_of_getElem? (i := 0) rfl))) (mvT hZ (hw _ (List.mem_of_getElem? (i := 1) rfl))) (mvT hZ (hw _ (List.mem_of_getElem? (i := 2) rfl))) (mvT hZ (hw _ (List.mem_of_getElem? (i := 3) rfl))) (by decide) (backOf (W := 0) (hC _) hZ (hw _ (List.mem_of_getElem? (i := 3) rfl)) (hw _ (List.mem_of_getElem? (i := 2) rfl)) (by decide) (by decide)) (g := (mkF m 47 #[.val (.int p1), .val (.int p2), .val (.int ((92 : Int32) + (p2 &&& (15 : Int32)))), .val (.int ((196 : Int32) + (((p2.toUInt32 >>> ((4 : Int32) &&& 31).toUInt32).toInt32) &&& (15 : Int32)))), .val (.int ((296 : Int32) + (((p2.toUInt32 >>> ((8 : Int32) &&& 31).toUInt32).toInt32) &&& (15 : Int32))))] [(.int ((196 : Int32) + (((p2.toUInt32 >>> ((4 : Int32) &&& 31).toUInt32).toInt32) &&& (15 : Int32))))])) rfl (by rw [hml]; rfl) (argsL := [(.int ((196 : Int32) + (((p2.toUInt32 >>> ((4 : Int32) &&& 31).toUInt32).toInt32) &&& (15 : Int32))))]) (rest := []) (lenOf pd0 rfl) rfl (by show 2 * 0 + _ ≤ _; exact Nat.le_of_eq rfl) (hb hby at_47) (fun _ _ => ⟨rfl, eQ4, (by decide : 0 + 0 ≤ _), (by decide : 0 + 0 ≤ _)⟩)
  dsimp only [Pt.U, Pt.locs, Pt.cells, Pt.slots] at X5 l5 y5 z5 st5 hQ5
  subst l5 y5 z5
  obtain ⟨rfl, N5q, eQ5⟩ := hQ5
  have N5 := Fr.app N4 N5q
  obtain ⟨_, _, ⟨T6, L6, k6, n6⟩, -, X6, ⟨Lc6, hQ6, l6, y6, z6⟩, st6⟩ := Jvm.LawKit.callS X5 hx (y := (⟨"com/example/rudder1/rudder1/http/HttpStatusPermitsContentPinLaw", "ok", "(I)Z"⟩ : MethodName)) hown (mvT hZ (hw _ (List.mem_of_getElem? (i := 0) rfl))) (mvT hZ (hw _ (List.mem_of_getElem? (i := 1) rfl))) (mvT hZ (hw _ (List.mem_of_getElem? (i := 2) rfl))) (mvT hZ (hw _ (List.mem_of_getElem? (i := 3) rfl))) (by decide) (backOf (W := 0) (hC _) hZ (hw _ (List.mem_of_getElem? (i := 3) rfl)) (hw _ (List.mem_of_getElem? (i := 2) rfl)) (by decide) (by decide)) (g := (mkF m 55 #[.val (.int p1), .val (.int p2), .val (.int ((92 : Int32) + (p2 &&& (15 : Int32)))), .val (.int ((196 : Int32) + (((p2.toUInt32 >>> ((4 : Int32) &&& 31).toUInt32).toInt32) &&& (15 : Int32)))), .val (.int ((296 : Int32) + (((p2.toUInt32 >>> ((8 : Int32) &&& 31).toUInt32).toInt32) &&& (15 : Int32))))] [(.int ((296 : Int32) + (((p2.toUInt32 >>> ((8 : Int32) &&& 31).toUInt32).toInt32) &&& (15 : Int32))))])) rfl (by rw [hml]; rfl) (argsL := [(.int ((296 : Int32) + (((p2.toUInt32 >>> ((8 : Int32) &&& 31).toUInt32).toInt32) &&& (15 : Int32))))]) (rest := []) (lenOf pd0 rfl) rfl (by show 2 * 0 + _ ≤ _; exact Nat.le_of_eq rfl) (hb hby at_55) (fun _ _ => ⟨rfl, eQ5, (by decide : 0 + 0 ≤ _), (by decide : 0 + 0 ≤ _)⟩)
  dsimp only [Pt.U, Pt.locs, Pt.cells, Pt.slots] at X6 l6 y6 z6 st6 hQ6
  subst l6 y6 z6
  obtain ⟨rfl, N6q, eQ6⟩ := hQ6
  have N6 := Fr.app N5 N6q
  obtain ⟨fs, hr, hrun, hended, hW, hsame⟩ := X6.leave (v := some (.int (1 : Int32))) (fun h => by rw [Bd.returns] at h; cases h)
  refine ⟨_, _, pre0 _ ?_, hrun, hended, _, _, rfl, ?_, ⟨_, rfl⟩, hW, hsame.mono (by decide) (by decide)⟩
  · show Steps p.tables e below (s₁.setTop (mkF m 0 #[.val (.int p1), .val (.int p2), .unset, .unset, .unset] [])) _
    refine XS.bipush X0.here hx rfl (hb hby at_0) ?_
    show Steps p.tables e below (s₁.setTop (mkF m 2 #[.val (.int p1), .val (.int p2), .unset, .unset, .unset] [(.int (92 : Int32))])) _
    refine XS.iloadN X0.here hx rfl (hb hby at_2) rfl ?_
    show Steps p.tables e below (s₁.setTop (mkF m 3 #[.val (.int p1), .val (.int p2), .unset, .unset, .unset] [(.int p2), (.int (92 : Int32))])) _
    refine XS.bipush X0.here hx rfl (hb hby at_3) ?_
    show Steps p.tables e below (s₁.setTop (mkF m 5 #[.val (.int p1), .val (.int p2), .unset, .unset, .unset] [(.int (15 : Int32)), (.int p2), (.int (92 : Int32))])) _
    refine XS.iand X0.here hx rfl (hb hby at_5) rfl ?_
    show Steps p.tables e below (s₁.setTop (mkF m 6 #[.val (.int p1), .val (.int p2), .unset, .unset, .unset] [(.int (p2 &&& (15 : Int32))), (.int (92 : Int32))])) _
    refine XS.iadd X0.here hx rfl (hb hby at_6) rfl ?_
    show Steps p.tables e below (s₁.setTop (mkF m 7 #[.val (.int p1), .val (.int p2), .unset, .unset, .unset] [(.int ((92 : Int32) + (p2 &&& (15 : Int32))))])) _
    refine XS.istoreN X0.here hx rfl (hb hby at_7) rfl (l' := #[.val (.int p1), .val (.int p2), .val (.int ((92 : Int32) + (p2 &&& (15 : Int32)))), .unset, .unset]) rfl ?_
    show Steps p.tables e below (s₁.setTop (mkF m 8 #[.val (.int p1), .val (.int p2), .val (.int ((92 : Int32) + (p2 &&& (15 : Int32)))), .unset, .unset] [])) _
    refine XS.sipush X0.here hx rfl (hb hby at_8) ?_
    show Steps p.tables e below (s₁.setTop (mkF m 11 #[.val (.int p1), .val (.int p2), .val (.int ((92 : Int32) + (p2 &&& (15 : Int32)))), .unset, .unset] [(.int (196 : Int32))])) _
    refine XS.iloadN X0.here hx rfl (hb hby at_11) rfl ?_
    show Steps p.tables e below (s₁.setTop (mkF m 12 #[.val (.int p1), .val (.int p2), .val (.int ((92 : Int32) + (p2 &&& (15 : Int32)))), .unset, .unset] [(.int p2), (.int (196 : Int32))])) _
    refine XS.iconst X0.here hx rfl (hb hby at_12) ?_
    show Steps p.tables e below (s₁.setTop (mkF m 13 #[.val (.int p1), .val (.int p2), .val (.int ((92 : Int32) + (p2 &&& (15 : Int32)))), .unset, .unset] [(.int (4 : Int32)), (.int p2), (.int (196 : Int32))])) _
    refine XS.iushr X0.here hx rfl (hb hby at_13) rfl ?_
    show Steps p.tables e below (s₁.setTop (mkF m 14 #[.val (.int p1), .val (.int p2), .val (.int ((92 : Int32) + (p2 &&& (15 : Int32)))), .unset, .unset] [(.int ((p2.toUInt32 >>> ((4 : Int32) &&& 31).toUInt32).toInt32)), (.int (196 : Int32))])) _
    refine XS.bipush X0.here hx rfl (hb hby at_14) ?_
    show Steps p.tables e below (s₁.setTop (mkF m 16 #[.val (.int p1), .val (.int p2), .val (.int ((92 : Int32) + (p2 &&& (15 : Int32)))), .unset, .unset] [(.int (15 : Int32)), (.int ((p2.toUInt32 >>> ((4 : Int32) &&& 31).toUInt32).toInt32)), (.int (196 : Int32))])) _
    refine XS.iand X0.here hx rfl (hb hby at_16) rfl ?_
    show Steps p.tables e below (s₁.setTop (mkF m 17 #[.val (.int p1), .val (.int p2), .val (.int ((92 : Int32) + (p2 &&& (15 : Int32)))), .unset, .unset] [(.int (((p2.toUInt32 >>> ((4 : Int32) &&& 31).toUInt32).toInt32) &&& (15 : Int32))), (.int (196 : Int32))])) _
    refine XS.iadd X0.here hx rfl (hb hby at_17) rfl ?_
    show Steps p.tables e below (s₁.setTop (mkF m 18 #[.val (.int p1), .val (.int p2), .val (.int ((92 : Int32) + (p2 &&& (15 : Int32)))), .unset, .unset] [(.int ((196 : Int32) + (((p2.toUInt32 >>> ((4 : Int32) &&& 31).toUInt32).toInt32) &&& (15 : Int32))))])) _
    refine XS.istoreN X0.here hx rfl (hb hby at_18) rfl (l' := #[.val (.int p1), .val (.int p2), .val (.int ((92 : Int32) + (p2 &&& (15 : Int32)))), .val (.int ((196 : Int32) + (((p2.toUInt32 >>> ((4 : Int32) &&& 31).toUInt32).toInt32) &&& (15 : Int32)))), .unset]) rfl ?_
    show Steps p.tables e below (s₁.setTop (mkF m 19 #[.val (.int p1), .val (.int p2), .val (.int ((92 : Int32) + (p2 &&& (15 : Int32)))), .val (.int ((196 : Int32) + (((p2.toUInt32 >>> ((4 : Int32) &&& 31).toUInt32).toInt32) &&& (15 : Int32)))), .unset] [])) _
    refine XS.sipush X0.here hx rfl (hb hby at_19) ?_
    show Steps p.tables e below (s₁.setTop (mkF m 22 #[.val (.int p1), .val (.int p2), .val (.int ((92 : Int32) + (p2 &&& (15 : Int32)))), .val (.int ((196 : Int32) + (((p2.toUInt32 >>> ((4 : Int32) &&& 31).toUInt32).toInt32) &&& (15 : Int32)))), .unset] [(.int (296 : Int32))])) _
    refine XS.iloadN X0.here hx rfl (hb hby at_22) rfl ?_
    show Steps p.tables e below (s₁.setTop (mkF m 23 #[.val (.int p1), .val (.int p2), .val (.int ((92 : Int32) + (p2 &&& (15 : Int32)))), .val (.int ((196 : Int32) + (((p2.toUInt32 >>> ((4 : Int32) &&& 31).toUInt32).toInt32) &&& (15 : Int32)))), .unset] [(.int p2), (.int (296 : Int32))])) _
    refine XS.bipush X0.here hx rfl (hb hby at_23) ?_
    show Steps p.tables e below (s₁.setTop (mkF m 25 #[.val (.int p1), .val (.int p2), .val (.int ((92 : Int32) + (p2 &&& (15 : Int32)))), .val (.int ((196 : Int32) + (((p2.toUInt32 >>> ((4 : Int32) &&& 31).toUInt32).toInt32) &&& (15 : Int32)))), .unset] [(.int (8 : Int32)), (.int p2), (.int (296 : Int32))])) _
    refine XS.iushr X0.here hx rfl (hb hby at_25) rfl ?_
    show Steps p.tables e below (s₁.setTop (mkF m 26 #[.val (.int p1), .val (.int p2), .val (.int ((92 : Int32) + (p2 &&& (15 : Int32)))), .val (.int ((196 : Int32) + (((p2.toUInt32 >>> ((4 : Int32) &&& 31).toUInt32).toInt32) &&& (15 : Int32)))), .unset] [(.int ((p2.toUInt32 >>> ((8 : Int32) &&& 31).toUInt32).toInt32)), (.int (296 : Int32))])) _
    refine XS.bipush X0.here hx rfl (hb hby at_26) ?_
    show Steps p.tables e below (s₁.setTop (mkF m 28 #[.val (.int p1), .val (.int p2), .val (.int ((92 : Int32) + (p2 &&& (15 : Int32)))), .val (.int ((196 : Int32) + (((p2.toUInt32 >>> ((4 : Int32) &&& 31).toUInt32).toInt32) &&& (15 : Int32)))), .unset] [(.int (15 : Int32)), (.int ((p2.toUInt32 >>> ((8 : Int32) &&& 31).toUInt32).toInt32)), (.int (296 : Int32))])) _
    refine XS.iand X0.here hx rfl (hb hby at_28) rfl ?_
    show Steps p.tables e below (s₁.setTop (mkF m 29 #[.val (.int p1), .val (.int p2), .val (.int ((92 : Int32) + (p2 &&& (15 : Int32)))), .val (.int ((196 : Int32) + (((p2.toUInt32 >>> ((4 : Int32) &&& 31).toUInt32).toInt32) &&& (15 : Int32)))), .unset] [(.int (((p2.toUInt32 >>> ((8 : Int32) &&& 31).toUInt32).toInt32) &&& (15 : Int32))), (.int (296 : Int32))])) _
    refine XS.iadd X0.here hx rfl (hb hby at_29) rfl ?_
    show Steps p.tables e below (s₁.setTop (mkF m 30 #[.val (.int p1), .val (.int p2), .val (.int ((92 : Int32) + (p2 &&& (15 : Int32)))), .val (.int ((196 : Int32) + (((p2.toUInt32 >>> ((4 : Int32) &&& 31).toUInt32).toInt32) &&& (15 : Int32)))), .unset] [(.int ((296 : Int32) + (((p2.toUInt32 >>> ((8 : Int32) &&& 31).toUInt32).toInt32) &&& (15 : Int32))))])) _
    refine XS.istore X0.here hx rfl (hb hby at_30) rfl (l' := #[.val (.int p1), .val (.int p2), .val (.int ((92 : Int32) + (p2 &&& (15 : Int32)))), .val (.int ((196 : Int32) + (((p2.toUInt32 >>> ((4 : Int32) &&& 31).toUInt32).toInt32) &&& (15 : Int32)))), .val (.int ((296 : Int32) + (((p2.toUInt32 >>> ((8 : Int32) &&& 31).toUInt32).toInt32) &&& (15 : Int32))))]) rfl ?_
    show Steps p.tables e below (s₁.setTop (mkF m 32 #[.val (.int p1), .val (.int p2), .val (.int ((92 : Int32) + (p2 &&& (15 : Int32)))), .val (.int ((196 : Int32) + (((p2.toUInt32 >>> ((4 : Int32) &&& 31).toUInt32).toInt32) &&& (15 : Int32)))), .val (.int ((296 : Int32) + (((p2.toUInt32 >>> ((8 : Int32) &&& 31).toUInt32).toInt32) &&& (15 : Int32))))] [])) _
    refine XS.iloadN X0.here hx rfl (hb hby at_32) rfl ?_
    show Steps p.tables e below (s₁.setTop (mkF m 33 #[.val (.int p1), .val (.int p2), .val (.int ((92 : Int32) + (p2 &&& (15 : Int32)))), .val (.int ((196 : Int32) + (((p2.toUInt32 >>> ((4 : Int32) &&& 31).toUInt32).toInt32) &&& (15 : Int32)))), .val (.int ((296 : Int32) + (((p2.toUInt32 >>> ((8 : Int32) &&& 31).toUInt32).toInt32) &&& (15 : Int32))))] [(.int p1)])) _
    refine st3 _ ?_
    show Steps p.tables e below (T3.setTop (mkF m 36 #[.val (.int p1), .val (.int p2), .val (.int ((92 : Int32) + (p2 &&& (15 : Int32)))), .val (.int ((196 : Int32) + (((p2.toUInt32 >>> ((4 : Int32) &&& 31).toUInt32).toInt32) &&& (15 : Int32)))), .val (.int ((296 : Int32) + (((p2.toUInt32 >>> ((8 : Int32) &&& 31).toUInt32).toInt32) &&& (15 : Int32))))] [(.int (1 : Int32))])) _
    refine XS.ifNo X3.here hx rfl (hb hby at_36) rfl ((if0 _ _).trans (feq ((by decide) : ¬ ((1 : Int32) = (0 : Int32)))).1) ?_
    show Steps p.tables e below (T3.setTop (mkF m 39 #[.val (.int p1), .val (.int p2), .val (.int ((92 : Int32) + (p2 &&& (15 : Int32)))), .val (.int ((196 : Int32) + (((p2.toUInt32 >>> ((4 : Int32) &&& 31).toUInt32).toInt32) &&& (15 : Int32)))), .val (.int ((296 : Int32) + (((p2.toUInt32 >>> ((8 : Int32) &&& 31).toUInt32).toInt32) &&& (15 : Int32))))] [])) _
    refine XS.iloadN X3.here hx rfl (hb hby at_39) rfl ?_
    show Steps p.tables e below (T3.setTop (mkF m 40 #[.val (.int p1), .val (.int p2), .val (.int ((92 : Int32) + (p2 &&& (15 : Int32)))), .val (.int ((196 : Int32) + (((p2.toUInt32 >>> ((4 : Int32) &&& 31).toUInt32).toInt32) &&& (15 : Int32)))), .val (.int ((296 : Int32) + (((p2.toUInt32 >>> ((8 : Int32) &&& 31).toUInt32).toInt32) &&& (15 : Int32))))] [(.int ((92 : Int32) + (p2 &&& (15 : Int32))))])) _
    refine st4 _ ?_
    show Steps p.tables e below (T4.setTop (mkF m 43 #[.val (.int p1), .val (.int p2), .val (.int ((92 : Int32) + (p2 &&& (15 : Int32)))), .val (.int ((196 : Int32) + (((p2.toUInt32 >>> ((4 : Int32) &&& 31).toUInt32).toInt32) &&& (15 : Int32)))), .val (.int ((296 : Int32) + (((p2.toUInt32 >>> ((8 : Int32) &&& 31).toUInt32).toInt32) &&& (15 : Int32))))] [(.int (1 : Int32))])) _
    refine XS.ifNo X4.here hx rfl (hb hby at_43) rfl ((if0 _ _).trans (feq ((by decide) : ¬ ((1 : Int32) = (0 : Int32)))).1) ?_
    show Steps p.tables e below (T4.setTop (mkF m 46 #[.val (.int p1), .val (.int p2), .val (.int ((92 : Int32) + (p2 &&& (15 : Int32)))), .val (.int ((196 : Int32) + (((p2.toUInt32 >>> ((4 : Int32) &&& 31).toUInt32).toInt32) &&& (15 : Int32)))), .val (.int ((296 : Int32) + (((p2.toUInt32 >>> ((8 : Int32) &&& 31).toUInt32).toInt32) &&& (15 : Int32))))] [])) _
    refine XS.iloadN X4.here hx rfl (hb hby at_46) rfl ?_
    show Steps p.tables e below (T4.setTop (mkF m 47 #[.val (.int p1), .val (.int p2), .val (.int ((92 : Int32) + (p2 &&& (15 : Int32)))), .val (.int ((196 : Int32) + (((p2.toUInt32 >>> ((4 : Int32) &&& 31).toUInt32).toInt32) &&& (15 : Int32)))), .val (.int ((296 : Int32) + (((p2.toUInt32 >>> ((8 : Int32) &&& 31).toUInt32).toInt32) &&& (15 : Int32))))] [(.int ((196 : Int32) + (((p2.toUInt32 >>> ((4 : Int32) &&& 31).toUInt32).toInt32) &&& (15 : Int32))))])) _
    refine st5 _ ?_
    show Steps p.tables e below (T5.setTop (mkF m 50 #[.val (.int p1), .val (.int p2), .val (.int ((92 : Int32) + (p2 &&& (15 : Int32)))), .val (.int ((196 : Int32) + (((p2.toUInt32 >>> ((4 : Int32) &&& 31).toUInt32).toInt32) &&& (15 : Int32)))), .val (.int ((296 : Int32) + (((p2.toUInt32 >>> ((8 : Int32) &&& 31).toUInt32).toInt32) &&& (15 : Int32))))] [(.int (1 : Int32))])) _
    refine XS.ifNo X5.here hx rfl (hb hby at_50) rfl ((if0 _ _).trans (feq ((by decide) : ¬ ((1 : Int32) = (0 : Int32)))).1) ?_
    show Steps p.tables e below (T5.setTop (mkF m 53 #[.val (.int p1), .val (.int p2), .val (.int ((92 : Int32) + (p2 &&& (15 : Int32)))), .val (.int ((196 : Int32) + (((p2.toUInt32 >>> ((4 : Int32) &&& 31).toUInt32).toInt32) &&& (15 : Int32)))), .val (.int ((296 : Int32) + (((p2.toUInt32 >>> ((8 : Int32) &&& 31).toUInt32).toInt32) &&& (15 : Int32))))] [])) _
    refine XS.iload X5.here hx rfl (hb hby at_53) rfl ?_
    show Steps p.tables e below (T5.setTop (mkF m 55 #[.val (.int p1), .val (.int p2), .val (.int ((92 : Int32) + (p2 &&& (15 : Int32)))), .val (.int ((196 : Int32) + (((p2.toUInt32 >>> ((4 : Int32) &&& 31).toUInt32).toInt32) &&& (15 : Int32)))), .val (.int ((296 : Int32) + (((p2.toUInt32 >>> ((8 : Int32) &&& 31).toUInt32).toInt32) &&& (15 : Int32))))] [(.int ((296 : Int32) + (((p2.toUInt32 >>> ((8 : Int32) &&& 31).toUInt32).toInt32) &&& (15 : Int32))))])) _
    refine st6 _ ?_
    show Steps p.tables e below (T6.setTop (mkF m 58 #[.val (.int p1), .val (.int p2), .val (.int ((92 : Int32) + (p2 &&& (15 : Int32)))), .val (.int ((196 : Int32) + (((p2.toUInt32 >>> ((4 : Int32) &&& 31).toUInt32).toInt32) &&& (15 : Int32)))), .val (.int ((296 : Int32) + (((p2.toUInt32 >>> ((8 : Int32) &&& 31).toUInt32).toInt32) &&& (15 : Int32))))] [(.int (1 : Int32))])) _
    refine XS.ifNo X6.here hx rfl (hb hby at_58) rfl ((if0 _ _).trans (feq ((by decide) : ¬ ((1 : Int32) = (0 : Int32)))).1) ?_
    show Steps p.tables e below (T6.setTop (mkF m 61 #[.val (.int p1), .val (.int p2), .val (.int ((92 : Int32) + (p2 &&& (15 : Int32)))), .val (.int ((196 : Int32) + (((p2.toUInt32 >>> ((4 : Int32) &&& 31).toUInt32).toInt32) &&& (15 : Int32)))), .val (.int ((296 : Int32) + (((p2.toUInt32 >>> ((8 : Int32) &&& 31).toUInt32).toInt32) &&& (15 : Int32))))] [])) _
    refine XS.iconst X6.here hx rfl (hb hby at_61) ?_
    show Steps p.tables e below (T6.setTop (mkF m 62 #[.val (.int p1), .val (.int p2), .val (.int ((92 : Int32) + (p2 &&& (15 : Int32)))), .val (.int ((196 : Int32) + (((p2.toUInt32 >>> ((4 : Int32) &&& 31).toUInt32).toInt32) &&& (15 : Int32)))), .val (.int ((296 : Int32) + (((p2.toUInt32 >>> ((8 : Int32) &&& 31).toUInt32).toInt32) &&& (15 : Int32))))] [(.int (1 : Int32))])) _
    refine XS.goto X6.here hx rfl (pc0 := 62) (pc' := 66) rfl (hb hby at_62) (by decide) (by decide) ?_
    show Steps p.tables e below (T6.setTop (mkF m 66 #[.val (.int p1), .val (.int p2), .val (.int ((92 : Int32) + (p2 &&& (15 : Int32)))), .val (.int ((196 : Int32) + (((p2.toUInt32 >>> ((4 : Int32) &&& 31).toUInt32).toInt32) &&& (15 : Int32)))), .val (.int ((296 : Int32) + (((p2.toUInt32 >>> ((8 : Int32) &&& 31).toUInt32).toInt32) &&& (15 : Int32))))] [(.int (1 : Int32))])) _
    exact retN X6 hx (t := .boolean) Bd.returns (by simp) (hb hby at_66) hr
  · show QL n0 _ T6.heap _
    exact ⟨rfl, N6⟩
theorem rm0 (l : Launch) (Z : State) (a0 : Array Value) (hw : ∀ d ∈ tables_1, d.before a0 Z = true) (ws : List Jvm.Cond) (p1 p2 : Int32) (u_NO_CONTENT u_RESET_CONTENT u_NOT_MODIFIED : Addr) (h0 : Heap) (n0 : Nat) (Z0 : n0 ≤ h0.size) (S_NO_CONTENT : Sta Z h0 "com/example/rudder1/rudder1/http/HttpStatus" "NO_CONTENT" "Lcom/example/rudder1/rudder1/http/HttpStatus;" (.ref u_NO_CONTENT)) (E_NO_CONTENT : Exa Z h0 u_NO_CONTENT "com/example/rudder1/rudder1/http/HttpStatus") (S_RESET_CONTENT : Sta Z h0 "com/example/rudder1/rudder1/http/HttpStatus" "RESET_CONTENT" "Lcom/example/rudder1/rudder1/http/HttpStatus;" (.ref u_RESET_CONTENT)) (E_RESET_CONTENT : Exa Z h0 u_RESET_CONTENT "com/example/rudder1/rudder1/http/HttpStatus") (S_NOT_MODIFIED : Sta Z h0 "com/example/rudder1/rudder1/http/HttpStatus" "NOT_MODIFIED" "Lcom/example/rudder1/rudder1/http/HttpStatus;" (.ref u_NOT_MODIFIED)) (E_NOT_MODIFIED : Exa Z h0 u_NOT_MODIFIED "com/example/rudder1/rudder1/http/HttpStatus") (F_NO_CONTENT : Fld Z h0 u_NO_CONTENT "com/example/rudder1/rudder1/http/HttpStatus" "value" "I" (.int (204 : Int32))) (F_RESET_CONTENT : Fld Z h0 u_RESET_CONTENT "com/example/rudder1/rudder1/http/HttpStatus" "value" "I" (.int (205 : Int32))) (F_NOT_MODIFIED : Fld Z h0 u_NOT_MODIFIED "com/example/rudder1/rudder1/http/HttpStatus" "value" "I" (.int (304 : Int32))) :
    MetFree l x (head1 (Jvm.Cond.code x code maxLocals ret :: ws) room_1) (fun a U => a = #[(.int p1), (.int p2)] ∧ Z.Warmed39 U.vm ∧ U.heap = h0) (fun _ _ _ _ _ => True) (fun _ U o U' => ∃ v L, o = .returned v ∧ QL n0 v U'.heap L ∧ FrameEnd U o U' L room_1.cells room_1.slots) := 
  rm0L l Z a0 hw ws p1 p2 h0 n0 Z0 fun c => rm1 l Z a0 hw [] c h0 n0 Z0 (rm2 l Z a0 hw [] c u_NO_CONTENT u_RESET_CONTENT u_NOT_MODIFIED h0 n0 Z0 S_NO_CONTENT E_NO_CONTENT S_RESET_CONTENT E_RESET_CONTENT S_NOT_MODIFIED E_NOT_MODIFIED F_NO_CONTENT F_RESET_CONTENT F_NOT_MODIFIED) (rm3 l Z a0 hw [] c h0 n0 Z0)
set_option maxRecDepth 65536 in
set_option maxHeartbeats 40000000 in
theorem comes_1 {Post : Tables → Env → Array Value → State → Outcome → State → Prop} (hpost : ∀ tb e args s v u, (limb_1_1.after args s (.returned v) u = true ∧ limb_1_2.after args s (.returned v) u = true ∧ True) → FrameEnd s (.returned v) u (Jvm.fieldLocs frame_1_writes args s ++ Jvm.arrayLocs frame_1_arrays args s ++ Jvm.staticLocs frame_1_statics s) 0 0 → Post tb e args s (.returned v) u) :
    ArmFor flags0 classFile x code maxLocals ret World_1 tables_1 room_1 Calls_1 rest_1 Pre_1 Post := by
  intro l hfl _ _ p e ha hc hk s m args below hf hA hF happ hP
  obtain ⟨hcalls, hrest, hpre⟩ := hP
  obtain ⟨-, -, -, hnamed, -, -, -, hat⟩ := (Spec.applies_iff hf).mp happ
  obtain ⟨hg, hn⟩ := and_e (Cond.before_iff.mp (show (Jvm.Cond.and given_1 narrow_1).before args s = true from hpre))
  obtain ⟨g7, g8⟩ := and_e hg
  obtain ⟨g9, g10⟩ := and_e g8
  obtain ⟨w0, w1, rfl⟩ : ∃ w0 w1 : Value, args = #[w0, w1] := by
    have hs : args.size = 2 := by simpa [Cond.value, given_1] using g7
    obtain ⟨L⟩ := args
    match L, hs with
    | [w0, w1], _ => exact ⟨w0, w1, rfl⟩
  have hw := fun d (hd : d ∈ tables_1) => atoms_spec (ws := Jvm.Cond.code x code maxLocals ret :: tables_1) hat d (List.mem_cons_of_mem _ hd)
  have hfit : Fit s := fun {y c} hc i hi => by
    obtain ⟨ha, rfl⟩ := Array.getElem?_eq_some_iff.mp hc
    have q := List.all_eq_true.mp ((Array.all_eq_true_iff_forall_mem.mp hF) _ (Array.getElem_mem ha)) i (List.mem_range.mpr hi)
    simpa [Array.getElem?_eq_getElem hi] using q
  obtain ⟨i0, ei0⟩ := is_v g9
  obtain rfl : w0 = (.int i0) := Option.some.inj ei0
  obtain ⟨i1, ei1⟩ := is_v g10
  obtain rfl : w1 = (.int i1) := Option.some.inj ei1
  obtain ⟨nn0, nr0⟩ := and_e hn
  obtain ⟨nn1, nr1⟩ := and_e nr0
  obtain ⟨nn2, nr2⟩ := and_e nr1
  obtain ⟨nn3, nr3⟩ := and_e nr2
  obtain ⟨nn4, nr4⟩ := and_e nr3
  obtain ⟨u_NO_CONTENT, ev_NO_CONTENT, S_NO_CONTENT, E_NO_CONTENT⟩ := own_sta nn0 (hw _ (List.mem_of_getElem? (i := 6) rfl)) (hw _ (List.mem_of_getElem? (i := 12) rfl))
  obtain ⟨u_RESET_CONTENT, ev_RESET_CONTENT, S_RESET_CONTENT, E_RESET_CONTENT⟩ := own_sta nn2 (hw _ (List.mem_of_getElem? (i := 6) rfl)) (hw _ (List.mem_of_getElem? (i := 16) rfl))
  obtain ⟨u_NOT_MODIFIED, ev_NOT_MODIFIED, S_NOT_MODIFIED, E_NOT_MODIFIED⟩ := own_sta nn4 (hw _ (List.mem_of_getElem? (i := 6) rfl)) (hw _ (List.mem_of_getElem? (i := 18) rfl))
  have F_NO_CONTENT := own_fld ev_NO_CONTENT nn1
  have F_RESET_CONTENT := own_fld ev_RESET_CONTENT nn3
  have F_NOT_MODIFIED := own_fld ev_NOT_MODIFIED nr4
  obtain ⟨n, o, h1, h2, h3, _, L, rfl, ⟨rfl, N⟩, hq⟩ := rm0 l s _ hw tables_1 i0 i1 u_NO_CONTENT u_RESET_CONTENT u_NOT_MODIFIED s.heap s.heap.size (Nat.le_refl _) S_NO_CONTENT E_NO_CONTENT S_RESET_CONTENT E_RESET_CONTENT S_NOT_MODIFIED E_NOT_MODIFIED F_NO_CONTENT F_RESET_CONTENT F_NOT_MODIFIED p e ha hc hk s m _ below hf ((Spec.applies_iff_loose hf).mp happ).1 ⟨rfl, State.Warmed39.refl s, rfl⟩ trivial
  refine ⟨n, _, h1, h2, h3, hpost _ _ _ _ _ _ ⟨Cond.after_iff.mpr rfl, Cond.after_iff.mpr (eq_i res_at (Term.int_eval (1)) rfl), trivial⟩ ⟨hq.1, hq.2.1, (hq.2.2.sift fun y hy => Or.inr (N y hy)).mono (by decide) (by decide)⟩⟩
theorem main_1_1 : Claimed_1_1 := comes_1 fun _ _ _ _ _ _ h hF => ⟨h.1, hF⟩
theorem main_1_2 : Claimed_1_2 := comes_1 fun _ _ _ _ _ _ h hF => ⟨h.2.1, hF⟩
end Jvm.Pilot.@@N@@
namespace Jvm.Pilot.@@N@@
open Jvm Jvm.ClassFile Sem Op Lib Jvm.Free Jvm.Stand Jvm.Pilot.@@N@@.Jvm.D
/-! MADE BY PROGRAM (witnessworld.py) out of the Statement's table words and the real class files: 12 classes; the members and pool entries that the words name. The judged class is class 1, her method 3. -/
namespace start1
open Jvm.ClassFile
def u (s : String) : CpInfo := .utf8 (stringToUtf16 s)
/-- a pool by its gaps: so many unusable entries, then the entry; so many at the end -/
def gap : Nat → List CpInfo → List CpInfo
  | 0, r => r
  | n + 1, r => .unusable :: gap n r
def poolList (es : List (Nat × CpInfo)) (last : Nat) : List CpInfo := es.foldr (fun e r => gap e.1 (e.2 :: r)) (gap last [])
def pool (es : List (Nat × CpInfo)) (last : Nat) : Array CpInfo := ⟨poolList es last⟩
def fileOf (pool : Array CpInfo) (this : Nat) (attrs : Array Attribute := #[]) (ms : Array MethodInfo := #[]) (fl : Nat := 33) (sup : Nat := 0) (ifs : Array Nat := #[]) (fds : Array FieldInfo := #[]) : ClassFile where
  minorVersion := 0
  majorVersion := 65
  constantPool := pool
  accessFlags := fl
  thisClass := this
  superClass := sup
  interfaces := ifs
  fields := fds
  methods := ms
  attributes := attrs
def plain (name : String) (sup : Option ClassId) : Class where
  name := name
  kind := .ordinary
  loader := none
  accessFlags := 33
  super := sup
  interfaces := #[]
  cf := none
  fields := #[]
  methods := #[]
  instanceTypes := #[]
  staticTypes := #[]
  resolved := #[]
  callSites := []
  init := .initialized
  statics := none
  mirror := none

def pool0 : Array CpInfo := pool [(5, u "<init>"), (0, u "()V"), (1, .class_ 10), (1, u "java/lang/Object")] 113

def k0m0 : Method := { name := "<init>", desc := "()V", sig := { parameters := [], returnType := none }, accessFlags := 1, code := none }
/-- java/lang/Object -/
def k0 : Class := { plain "java/lang/Object" none with
  accessFlags := 33
  interfaces := #[]
  cf := some (fileOf pool0 8 #[] #[{ accessFlags := 1, nameIndex := 5, descriptorIndex := 6, attributes := #[] }] 33 0 #[] #[])
  fields := #[]
  methods := #[k0m0]
  instanceTypes := #[]
  staticTypes := #[]
  resolved := Array.replicate 124 none
  statics := none }

def pool1 : Array CpInfo := pool [(2, .class_ 4), (1, u "java/lang/Object"), (0, u "<init>"), (0, u "()V"), (0, .methodref 8 9), (0, .class_ 10), (0, .nameAndType 11 12), (0, u "com/example/rudder1/rudder1/http/HttpStatus"), (0, u "permitsContent"), (0, u "(I)Z"), (0, .methodref 14 15), (0, .class_ 16), (0, .nameAndType 17 12), (0, u "com/example/rudder1/rudder1/http/HttpStatusPermitsContentPinLaw"), (0, u "ref"), (0, .methodref 14 19), (0, .nameAndType 20 12), (0, u "ok"), (3, u "law"), (0, u "(II)Z")] 2

def k1m0 : Method := { name := "<init>", desc := "()V", sig := { parameters := [], returnType := none }, accessFlags := 1, code := none }
def k1c1 : Code := { maxStack := 2, maxLocals := 1, code := method_2_code, exceptionTable := #[], attributes := #[] }
def k1m1 : Method := { name := "ref", desc := "(I)Z", sig := { parameters := [.int], returnType := some .boolean }, accessFlags := 10, code := some k1c1 }
def k1c2 : Code := { maxStack := 2, maxLocals := 1, code := method_3_code, exceptionTable := #[], attributes := #[] }
def k1m2 : Method := { name := "ok", desc := "(I)Z", sig := { parameters := [.int], returnType := some .boolean }, accessFlags := 10, code := some k1c2 }
def k1c3 : Code := { maxStack := 3, maxLocals := 5, code := code, exceptionTable := #[], attributes := #[] }
def k1m3 : Method := { name := "law", desc := "(II)Z", sig := { parameters := [.int, .int], returnType := some .boolean }, accessFlags := 9, code := some k1c3 }
/-- com/example/rudder1/rudder1/http/HttpStatusPermitsContentPinLaw -/
def k1 : Class := { plain "com/example/rudder1/rudder1/http/HttpStatusPermitsContentPinLaw" (some 0) with
  accessFlags := 49
  interfaces := #[]
  cf := some (fileOf pool1 14 #[] #[{ accessFlags := 1, nameIndex := 5, descriptorIndex := 6, attributes := #[] }, { accessFlags := 10, nameIndex := 17, descriptorIndex := 12, attributes := #[] }, { accessFlags := 10, nameIndex := 20, descriptorIndex := 12, attributes := #[] }, { accessFlags := 9, nameIndex := 24, descriptorIndex := 25, attributes := #[] }] 49 2 #[] #[])
  fields := #[]
  methods := #[k1m0, k1m1, k1m2, k1m3]
  instanceTypes := #[]
  staticTypes := #[]
  resolved := Array.replicate 28 none
  statics := none }

def pool2 : Array CpInfo := pool [(1, .class_ 2), (0, u "java/lang/constant/Constable"), (0, .class_ 4), (0, u "java/lang/Object")] 6

/-- java/lang/constant/Constable -/
def k2 : Class := { plain "java/lang/constant/Constable" (some 0) with
  accessFlags := 1537
  interfaces := #[]
  cf := some (fileOf pool2 1 #[] #[] 1537 3 #[] #[])
  fields := #[]
  methods := #[]
  instanceTypes := #[]
  staticTypes := #[]
  resolved := Array.replicate 11 none
  statics := none }

def pool3 : Array CpInfo := pool [(1, .class_ 2), (0, u "java/lang/Comparable"), (0, .class_ 4), (0, u "java/lang/Object")] 7

/-- java/lang/Comparable -/
def k3 : Class := { plain "java/lang/Comparable" (some 0) with
  accessFlags := 1537
  interfaces := #[]
  cf := some (fileOf pool3 1 #[] #[] 1537 3 #[] #[])
  fields := #[]
  methods := #[]
  instanceTypes := #[]
  staticTypes := #[]
  resolved := Array.replicate 12 none
  statics := none }

def pool4 : Array CpInfo := pool [(1, .class_ 2), (0, u "java/io/Serializable"), (0, .class_ 4), (0, u "java/lang/Object")] 2

/-- java/io/Serializable -/
def k4 : Class := { plain "java/io/Serializable" (some 0) with
  accessFlags := 1537
  interfaces := #[]
  cf := some (fileOf pool4 1 #[] #[] 1537 3 #[] #[])
  fields := #[]
  methods := #[]
  instanceTypes := #[]
  staticTypes := #[]
  resolved := Array.replicate 7 none
  statics := none }

def pool5 : Array CpInfo := pool [(2, .class_ 4), (1, u "java/lang/Enum"), (0, u "name"), (0, u "Ljava/lang/String;"), (2, u "ordinal"), (0, u "I"), (1, .class_ 14), (1, u "java/lang/Object"), (4, u "hash"), (86, .class_ 108), (1, u "java/lang/Enum$EnumDesc"), (2, .class_ 112), (0, u "java/lang/constant/Constable"), (0, .class_ 114), (0, u "java/lang/Comparable"), (0, .class_ 116), (0, u "java/io/Serializable")] 87

/-- java/lang/Enum -/
def k5 : Class := { plain "java/lang/Enum" (some 0) with
  accessFlags := 1057
  interfaces := #[2, 3, 4]
  cf := some (fileOf pool5 2 #[.nestMembers #[106]] #[] 1057 12 #[111, 113, 115] #[{ accessFlags := 18, nameIndex := 5, descriptorIndex := 6, attributes := #[] }, { accessFlags := 18, nameIndex := 9, descriptorIndex := 10, attributes := #[] }, { accessFlags := 2, nameIndex := 19, descriptorIndex := 10, attributes := #[] }])
  fields := #[{ name := "name", type := (.object "java/lang/String"), accessFlags := 18, slot := 0, constantValue := 0 }, { name := "ordinal", type := .int, accessFlags := 18, slot := 1, constantValue := 0 }, { name := "hash", type := .int, accessFlags := 2, slot := 2, constantValue := 0 }]
  methods := #[]
  instanceTypes := #[(.object "java/lang/String"), .int, .int]
  staticTypes := #[]
  resolved := Array.replicate 204 none
  statics := none }

def pool6 : Array CpInfo := pool [(1, .class_ 2), (0, u "com/example/rudder1/rudder1/http/HttpStatus"), (2, u "CONTINUE"), (0, u "Lcom/example/rudder1/rudder1/http/HttpStatus;"), (2, u "SWITCHING_PROTOCOLS"), (2, u "OK"), (2, u "CREATED"), (2, u "ACCEPTED"), (2, u "NON_AUTHORITATIVE_INFORMATION"), (0, .fieldref 1 23), (0, .nameAndType 24 6), (0, u "NO_CONTENT"), (0, .fieldref 1 26), (0, .nameAndType 27 6), (0, u "RESET_CONTENT"), (2, u "PARTIAL_CONTENT"), (2, u "MULTIPLE_CHOICES"), (2, u "MOVED_PERMANENTLY"), (2, u "FOUND"), (2, u "SEE_OTHER"), (0, .fieldref 1 44), (0, .nameAndType 45 6), (0, u "NOT_MODIFIED"), (2, u "TEMPORARY_REDIRECT"), (2, u "PERMANENT_REDIRECT"), (2, u "BAD_REQUEST"), (2, u "UNAUTHORIZED"), (2, u "PAYMENT_REQUIRED"), (2, u "FORBIDDEN"), (2, u "NOT_FOUND"), (2, u "METHOD_NOT_ALLOWED"), (2, u "NOT_ACCEPTABLE"), (2, u "PROXY_AUTHENTICATION_REQUIRED"), (2, u "REQUEST_TIMEOUT"), (2, u "CONFLICT"), (2, u "GONE"), (2, u "LENGTH_REQUIRED"), (2, u "PRECONDITION_FAILED"), (2, u "CONTENT_TOO_LARGE"), (2, u "URI_TOO_LONG"), (2, u "UNSUPPORTED_MEDIA_TYPE"), (2, u "RANGE_NOT_SATISFIABLE"), (2, u "EXPECTATION_FAILED"), (2, u "MISDIRECTED_REQUEST"), (2, u "UNPROCESSABLE_CONTENT"), (2, u "UPGRADE_REQUIRED"), (2, u "PRECONDITION_REQUIRED"), (2, u "TOO_MANY_REQUESTS"), (2, u "REQUEST_HEADER_FIELDS_TOO_LARGE"), (2, u "INTERNAL_SERVER_ERROR"), (2, u "NOT_IMPLEMENTED"), (2, u "BAD_GATEWAY"), (2, u "SERVICE_UNAVAILABLE"), (2, u "GATEWAY_TIMEOUT"), (2, u "HTTP_VERSION_NOT_SUPPORTED"), (2, u "NETWORK_AUTHENTICATION_REQUIRED"), (2, u "$VALUES"), (0, u "[Lcom/example/rudder1/rudder1/http/HttpStatus;"), (6, .class_ 157), (1, u "java/lang/Enum"), (6, .fieldref 1 165), (0, .nameAndType 166 167), (0, u "value"), (0, u "I"), (2, u "reasonPhrase"), (0, u "Ljava/lang/String;"), (15, u "permitsContent"), (0, u "(I)Z")] 178

def k6c0 : Code := { maxStack := 2, maxLocals := 1, code := prog_46_method_9_code, exceptionTable := #[], attributes := #[] }
def k6m0 : Method := { name := "permitsContent", desc := "(I)Z", sig := { parameters := [.int], returnType := some .boolean }, accessFlags := 9, code := some k6c0 }
/-- com/example/rudder1/rudder1/http/HttpStatus -/
def k6 : Class := { plain "com/example/rudder1/rudder1/http/HttpStatus" (some 5) with
  accessFlags := 16433
  interfaces := #[]
  cf := some (fileOf pool6 1 #[] #[{ accessFlags := 9, nameIndex := 187, descriptorIndex := 188, attributes := #[] }] 16433 155 #[] #[{ accessFlags := 16409, nameIndex := 5, descriptorIndex := 6, attributes := #[] }, { accessFlags := 16409, nameIndex := 9, descriptorIndex := 6, attributes := #[] }, { accessFlags := 16409, nameIndex := 12, descriptorIndex := 6, attributes := #[] }, { accessFlags := 16409, nameIndex := 15, descriptorIndex := 6, attributes := #[] }, { accessFlags := 16409, nameIndex := 18, descriptorIndex := 6, attributes := #[] }, { accessFlags := 16409, nameIndex := 21, descriptorIndex := 6, attributes := #[] }, { accessFlags := 16409, nameIndex := 24, descriptorIndex := 6, attributes := #[] }, { accessFlags := 16409, nameIndex := 27, descriptorIndex := 6, attributes := #[] }, { accessFlags := 16409, nameIndex := 30, descriptorIndex := 6, attributes := #[] }, { accessFlags := 16409, nameIndex := 33, descriptorIndex := 6, attributes := #[] }, { accessFlags := 16409, nameIndex := 36, descriptorIndex := 6, attributes := #[] }, { accessFlags := 16409, nameIndex := 39, descriptorIndex := 6, attributes := #[] }, { accessFlags := 16409, nameIndex := 42, descriptorIndex := 6, attributes := #[] }, { accessFlags := 16409, nameIndex := 45, descriptorIndex := 6, attributes := #[] }, { accessFlags := 16409, nameIndex := 48, descriptorIndex := 6, attributes := #[] }, { accessFlags := 16409, nameIndex := 51, descriptorIndex := 6, attributes := #[] }, { accessFlags := 16409, nameIndex := 54, descriptorIndex := 6, attributes := #[] }, { accessFlags := 16409, nameIndex := 57, descriptorIndex := 6, attributes := #[] }, { accessFlags := 16409, nameIndex := 60, descriptorIndex := 6, attributes := #[] }, { accessFlags := 16409, nameIndex := 63, descriptorIndex := 6, attributes := #[] }, { accessFlags := 16409, nameIndex := 66, descriptorIndex := 6, attributes := #[] }, { accessFlags := 16409, nameIndex := 69, descriptorIndex := 6, attributes := #[] }, { accessFlags := 16409, nameIndex := 72, descriptorIndex := 6, attributes := #[] }, { accessFlags := 16409, nameIndex := 75, descriptorIndex := 6, attributes := #[] }, { accessFlags := 16409, nameIndex := 78, descriptorIndex := 6, attributes := #[] }, { accessFlags := 16409, nameIndex := 81, descriptorIndex := 6, attributes := #[] }, { accessFlags := 16409, nameIndex := 84, descriptorIndex := 6, attributes := #[] }, { accessFlags := 16409, nameIndex := 87, descriptorIndex := 6, attributes := #[] }, { accessFlags := 16409, nameIndex := 90, descriptorIndex := 6, attributes := #[] }, { accessFlags := 16409, nameIndex := 93, descriptorIndex := 6, attributes := #[] }, { accessFlags := 16409, nameIndex := 96, descriptorIndex := 6, attributes := #[] }, { accessFlags := 16409, nameIndex := 99, descriptorIndex := 6, attributes := #[] }, { accessFlags := 16409, nameIndex := 102, descriptorIndex := 6, attributes := #[] }, { accessFlags := 16409, nameIndex := 105, descriptorIndex := 6, attributes := #[] }, { accessFlags := 16409, nameIndex := 108, descriptorIndex := 6, attributes := #[] }, { accessFlags := 16409, nameIndex := 111, descriptorIndex := 6, attributes := #[] }, { accessFlags := 16409, nameIndex := 114, descriptorIndex := 6, attributes := #[] }, { accessFlags := 16409, nameIndex := 117, descriptorIndex := 6, attributes := #[] }, { accessFlags := 16409, nameIndex := 120, descriptorIndex := 6, attributes := #[] }, { accessFlags := 16409, nameIndex := 123, descriptorIndex := 6, attributes := #[] }, { accessFlags := 16409, nameIndex := 126, descriptorIndex := 6, attributes := #[] }, { accessFlags := 16409, nameIndex := 129, descriptorIndex := 6, attributes := #[] }, { accessFlags := 16409, nameIndex := 132, descriptorIndex := 6, attributes := #[] }, { accessFlags := 16409, nameIndex := 135, descriptorIndex := 6, attributes := #[] }, { accessFlags := 16409, nameIndex := 138, descriptorIndex := 6, attributes := #[] }, { accessFlags := 16409, nameIndex := 141, descriptorIndex := 6, attributes := #[] }, { accessFlags := 16409, nameIndex := 144, descriptorIndex := 6, attributes := #[] }, { accessFlags := 18, nameIndex := 166, descriptorIndex := 167, attributes := #[] }, { accessFlags := 18, nameIndex := 170, descriptorIndex := 171, attributes := #[] }, { accessFlags := 4122, nameIndex := 147, descriptorIndex := 148, attributes := #[] }])
  fields := #[{ name := "CONTINUE", type := (.object "com/example/rudder1/rudder1/http/HttpStatus"), accessFlags := 16409, slot := 0, constantValue := 0 }, { name := "SWITCHING_PROTOCOLS", type := (.object "com/example/rudder1/rudder1/http/HttpStatus"), accessFlags := 16409, slot := 1, constantValue := 0 }, { name := "OK", type := (.object "com/example/rudder1/rudder1/http/HttpStatus"), accessFlags := 16409, slot := 2, constantValue := 0 }, { name := "CREATED", type := (.object "com/example/rudder1/rudder1/http/HttpStatus"), accessFlags := 16409, slot := 3, constantValue := 0 }, { name := "ACCEPTED", type := (.object "com/example/rudder1/rudder1/http/HttpStatus"), accessFlags := 16409, slot := 4, constantValue := 0 }, { name := "NON_AUTHORITATIVE_INFORMATION", type := (.object "com/example/rudder1/rudder1/http/HttpStatus"), accessFlags := 16409, slot := 5, constantValue := 0 }, { name := "NO_CONTENT", type := (.object "com/example/rudder1/rudder1/http/HttpStatus"), accessFlags := 16409, slot := 6, constantValue := 0 }, { name := "RESET_CONTENT", type := (.object "com/example/rudder1/rudder1/http/HttpStatus"), accessFlags := 16409, slot := 7, constantValue := 0 }, { name := "PARTIAL_CONTENT", type := (.object "com/example/rudder1/rudder1/http/HttpStatus"), accessFlags := 16409, slot := 8, constantValue := 0 }, { name := "MULTIPLE_CHOICES", type := (.object "com/example/rudder1/rudder1/http/HttpStatus"), accessFlags := 16409, slot := 9, constantValue := 0 }, { name := "MOVED_PERMANENTLY", type := (.object "com/example/rudder1/rudder1/http/HttpStatus"), accessFlags := 16409, slot := 10, constantValue := 0 }, { name := "FOUND", type := (.object "com/example/rudder1/rudder1/http/HttpStatus"), accessFlags := 16409, slot := 11, constantValue := 0 }, { name := "SEE_OTHER", type := (.object "com/example/rudder1/rudder1/http/HttpStatus"), accessFlags := 16409, slot := 12, constantValue := 0 }, { name := "NOT_MODIFIED", type := (.object "com/example/rudder1/rudder1/http/HttpStatus"), accessFlags := 16409, slot := 13, constantValue := 0 }, { name := "TEMPORARY_REDIRECT", type := (.object "com/example/rudder1/rudder1/http/HttpStatus"), accessFlags := 16409, slot := 14, constantValue := 0 }, { name := "PERMANENT_REDIRECT", type := (.object "com/example/rudder1/rudder1/http/HttpStatus"), accessFlags := 16409, slot := 15, constantValue := 0 }, { name := "BAD_REQUEST", type := (.object "com/example/rudder1/rudder1/http/HttpStatus"), accessFlags := 16409, slot := 16, constantValue := 0 }, { name := "UNAUTHORIZED", type := (.object "com/example/rudder1/rudder1/http/HttpStatus"), accessFlags := 16409, slot := 17, constantValue := 0 }, { name := "PAYMENT_REQUIRED", type := (.object "com/example/rudder1/rudder1/http/HttpStatus"), accessFlags := 16409, slot := 18, constantValue := 0 }, { name := "FORBIDDEN", type := (.object "com/example/rudder1/rudder1/http/HttpStatus"), accessFlags := 16409, slot := 19, constantValue := 0 }, { name := "NOT_FOUND", type := (.object "com/example/rudder1/rudder1/http/HttpStatus"), accessFlags := 16409, slot := 20, constantValue := 0 }, { name := "METHOD_NOT_ALLOWED", type := (.object "com/example/rudder1/rudder1/http/HttpStatus"), accessFlags := 16409, slot := 21, constantValue := 0 }, { name := "NOT_ACCEPTABLE", type := (.object "com/example/rudder1/rudder1/http/HttpStatus"), accessFlags := 16409, slot := 22, constantValue := 0 }, { name := "PROXY_AUTHENTICATION_REQUIRED", type := (.object "com/example/rudder1/rudder1/http/HttpStatus"), accessFlags := 16409, slot := 23, constantValue := 0 }, { name := "REQUEST_TIMEOUT", type := (.object "com/example/rudder1/rudder1/http/HttpStatus"), accessFlags := 16409, slot := 24, constantValue := 0 }, { name := "CONFLICT", type := (.object "com/example/rudder1/rudder1/http/HttpStatus"), accessFlags := 16409, slot := 25, constantValue := 0 }, { name := "GONE", type := (.object "com/example/rudder1/rudder1/http/HttpStatus"), accessFlags := 16409, slot := 26, constantValue := 0 }, { name := "LENGTH_REQUIRED", type := (.object "com/example/rudder1/rudder1/http/HttpStatus"), accessFlags := 16409, slot := 27, constantValue := 0 }, { name := "PRECONDITION_FAILED", type := (.object "com/example/rudder1/rudder1/http/HttpStatus"), accessFlags := 16409, slot := 28, constantValue := 0 }, { name := "CONTENT_TOO_LARGE", type := (.object "com/example/rudder1/rudder1/http/HttpStatus"), accessFlags := 16409, slot := 29, constantValue := 0 }, { name := "URI_TOO_LONG", type := (.object "com/example/rudder1/rudder1/http/HttpStatus"), accessFlags := 16409, slot := 30, constantValue := 0 }, { name := "UNSUPPORTED_MEDIA_TYPE", type := (.object "com/example/rudder1/rudder1/http/HttpStatus"), accessFlags := 16409, slot := 31, constantValue := 0 }, { name := "RANGE_NOT_SATISFIABLE", type := (.object "com/example/rudder1/rudder1/http/HttpStatus"), accessFlags := 16409, slot := 32, constantValue := 0 }, { name := "EXPECTATION_FAILED", type := (.object "com/example/rudder1/rudder1/http/HttpStatus"), accessFlags := 16409, slot := 33, constantValue := 0 }, { name := "MISDIRECTED_REQUEST", type := (.object "com/example/rudder1/rudder1/http/HttpStatus"), accessFlags := 16409, slot := 34, constantValue := 0 }, { name := "UNPROCESSABLE_CONTENT", type := (.object "com/example/rudder1/rudder1/http/HttpStatus"), accessFlags := 16409, slot := 35, constantValue := 0 }, { name := "UPGRADE_REQUIRED", type := (.object "com/example/rudder1/rudder1/http/HttpStatus"), accessFlags := 16409, slot := 36, constantValue := 0 }, { name := "PRECONDITION_REQUIRED", type := (.object "com/example/rudder1/rudder1/http/HttpStatus"), accessFlags := 16409, slot := 37, constantValue := 0 }, { name := "TOO_MANY_REQUESTS", type := (.object "com/example/rudder1/rudder1/http/HttpStatus"), accessFlags := 16409, slot := 38, constantValue := 0 }, { name := "REQUEST_HEADER_FIELDS_TOO_LARGE", type := (.object "com/example/rudder1/rudder1/http/HttpStatus"), accessFlags := 16409, slot := 39, constantValue := 0 }, { name := "INTERNAL_SERVER_ERROR", type := (.object "com/example/rudder1/rudder1/http/HttpStatus"), accessFlags := 16409, slot := 40, constantValue := 0 }, { name := "NOT_IMPLEMENTED", type := (.object "com/example/rudder1/rudder1/http/HttpStatus"), accessFlags := 16409, slot := 41, constantValue := 0 }, { name := "BAD_GATEWAY", type := (.object "com/example/rudder1/rudder1/http/HttpStatus"), accessFlags := 16409, slot := 42, constantValue := 0 }, { name := "SERVICE_UNAVAILABLE", type := (.object "com/example/rudder1/rudder1/http/HttpStatus"), accessFlags := 16409, slot := 43, constantValue := 0 }, { name := "GATEWAY_TIMEOUT", type := (.object "com/example/rudder1/rudder1/http/HttpStatus"), accessFlags := 16409, slot := 44, constantValue := 0 }, { name := "HTTP_VERSION_NOT_SUPPORTED", type := (.object "com/example/rudder1/rudder1/http/HttpStatus"), accessFlags := 16409, slot := 45, constantValue := 0 }, { name := "NETWORK_AUTHENTICATION_REQUIRED", type := (.object "com/example/rudder1/rudder1/http/HttpStatus"), accessFlags := 16409, slot := 46, constantValue := 0 }, { name := "value", type := .int, accessFlags := 18, slot := 3, constantValue := 0 }, { name := "reasonPhrase", type := (.object "java/lang/String"), accessFlags := 18, slot := 4, constantValue := 0 }, { name := "$VALUES", type := (.array (.object "com/example/rudder1/rudder1/http/HttpStatus")), accessFlags := 4122, slot := 47, constantValue := 0 }]
  methods := #[k6m0]
  instanceTypes := #[(.object "java/lang/String"), .int, .int, .int, (.object "java/lang/String")]
  staticTypes := #[(.object "com/example/rudder1/rudder1/http/HttpStatus"), (.object "com/example/rudder1/rudder1/http/HttpStatus"), (.object "com/example/rudder1/rudder1/http/HttpStatus"), (.object "com/example/rudder1/rudder1/http/HttpStatus"), (.object "com/example/rudder1/rudder1/http/HttpStatus"), (.object "com/example/rudder1/rudder1/http/HttpStatus"), (.object "com/example/rudder1/rudder1/http/HttpStatus"), (.object "com/example/rudder1/rudder1/http/HttpStatus"), (.object "com/example/rudder1/rudder1/http/HttpStatus"), (.object "com/example/rudder1/rudder1/http/HttpStatus"), (.object "com/example/rudder1/rudder1/http/HttpStatus"), (.object "com/example/rudder1/rudder1/http/HttpStatus"), (.object "com/example/rudder1/rudder1/http/HttpStatus"), (.object "com/example/rudder1/rudder1/http/HttpStatus"), (.object "com/example/rudder1/rudder1/http/HttpStatus"), (.object "com/example/rudder1/rudder1/http/HttpStatus"), (.object "com/example/rudder1/rudder1/http/HttpStatus"), (.object "com/example/rudder1/rudder1/http/HttpStatus"), (.object "com/example/rudder1/rudder1/http/HttpStatus"), (.object "com/example/rudder1/rudder1/http/HttpStatus"), (.object "com/example/rudder1/rudder1/http/HttpStatus"), (.object "com/example/rudder1/rudder1/http/HttpStatus"), (.object "com/example/rudder1/rudder1/http/HttpStatus"), (.object "com/example/rudder1/rudder1/http/HttpStatus"), (.object "com/example/rudder1/rudder1/http/HttpStatus"), (.object "com/example/rudder1/rudder1/http/HttpStatus"), (.object "com/example/rudder1/rudder1/http/HttpStatus"), (.object "com/example/rudder1/rudder1/http/HttpStatus"), (.object "com/example/rudder1/rudder1/http/HttpStatus"), (.object "com/example/rudder1/rudder1/http/HttpStatus"), (.object "com/example/rudder1/rudder1/http/HttpStatus"), (.object "com/example/rudder1/rudder1/http/HttpStatus"), (.object "com/example/rudder1/rudder1/http/HttpStatus"), (.object "com/example/rudder1/rudder1/http/HttpStatus"), (.object "com/example/rudder1/rudder1/http/HttpStatus"), (.object "com/example/rudder1/rudder1/http/HttpStatus"), (.object "com/example/rudder1/rudder1/http/HttpStatus"), (.object "com/example/rudder1/rudder1/http/HttpStatus"), (.object "com/example/rudder1/rudder1/http/HttpStatus"), (.object "com/example/rudder1/rudder1/http/HttpStatus"), (.object "com/example/rudder1/rudder1/http/HttpStatus"), (.object "com/example/rudder1/rudder1/http/HttpStatus"), (.object "com/example/rudder1/rudder1/http/HttpStatus"), (.object "com/example/rudder1/rudder1/http/HttpStatus"), (.object "com/example/rudder1/rudder1/http/HttpStatus"), (.object "com/example/rudder1/rudder1/http/HttpStatus"), (.object "com/example/rudder1/rudder1/http/HttpStatus"), (.array (.object "com/example/rudder1/rudder1/http/HttpStatus"))]
  resolved := Array.replicate 367 none
  statics := some 0 }

def pool7 : Array CpInfo := pool [(1, u "java/lang/Cloneable"), (0, .class_ 1), (0, u "java/lang/Object"), (0, .class_ 3)] 3

/-- java/lang/Cloneable -/
def k7 : Class := { plain "java/lang/Cloneable" (some 0) with
  accessFlags := 1537
  interfaces := #[]
  cf := some (fileOf pool7 2 #[] #[] 1537 4 #[] #[])
  fields := #[]
  methods := #[]
  instanceTypes := #[]
  staticTypes := #[]
  resolved := Array.replicate 8 none
  statics := none }

/-- the primitive byte -/
def k8 : Class := { plain "byte" none with kind := .primitive 'B', accessFlags := 0x411 }
/-- [B -/
def k9 : Class := { plain "[B" (some 0) with kind := .array 8 .byte, interfaces := #[7, 4], accessFlags := 1041 }

/-- the primitive int -/
def k10 : Class := { plain "int" none with kind := .primitive 'I', accessFlags := 0x411 }
/-- [I -/
def k11 : Class := { plain "[I" (some 0) with kind := .array 10 .int, interfaces := #[7, 4], accessFlags := 1041 }

def heap : Heap := #[{ cls := 6, slots := #[.null, .null, .null, .null, .null, .null, .ref 1, .ref 2, .null, .null, .null, .null, .null, .ref 3, .null, .null, .null, .null, .null, .null, .null, .null, .null, .null, .null, .null, .null, .null, .null, .null, .null, .null, .null, .null, .null, .null, .null, .null, .null, .null, .null, .null, .null, .null, .null, .null, .null, .null], vm := .statics 6 },
  { cls := 6, slots := #[.null, .int 0, .int 0, .int 204, .null], vm := .none },
  { cls := 6, slots := #[.null, .int 0, .int 0, .int 205, .null], vm := .none },
  { cls := 6, slots := #[.null, .int 0, .int 0, .int 304, .null], vm := .none }]
def classes : Array Class := #[k0, k1, k2, k3, k4, k5, k6, k7, k8, k9, k10, k11]
def interned : List (Array UInt16 × Addr) := []
def slotsUsed : Nat := 63
def theMethod : MethodId := ⟨1, 3⟩
def args0 : Array Value := #[.int 5, .int 6]
def aboutOver (below : List Frame) : State where
  vm := { classes := classes, interned := interned.toArray }
  heap := heap
  slotsUsed := slotsUsed
  threads := #[{ frames := .invoking theMethod args0 :: below }]
def below0 : List Frame := [.native { method := ⟨0, 0⟩, args := #[] }]
def about1 : State := aboutOver below0
def p0 : Program := .bare "" "" ""
def e0 : Env := launch0.env 0 0 0
theorem w_frames : about1.frames = Frame.invoking theMethod args0 :: below0 := rfl
set_option maxRecDepth 65536 in
theorem w_args : argsFit about1.vm theMethod args0 = true := by decide +kernel
set_option maxRecDepth 65536 in
theorem w_heap : heapFits about1 = true := by decide +kernel
set_option maxRecDepth 65536 in
theorem w_runnable : about1.curStatus? = some .runnable := by decide +kernel
set_option maxRecDepth 65536 in
theorem w_alone : about1.alone = true := by decide +kernel
set_option maxRecDepth 65536 in
theorem w_named : about1.methodNamed? x = some theMethod := by decide +kernel
set_option maxRecDepth 65536 in
theorem w_hears : about1.hears theMethod below0 = true := by decide +kernel
set_option maxRecDepth 65536 in
theorem w_ripe : about1.ripe theMethod args0 below0 = true := by decide +kernel
theorem w_running : about1.status = .running := rfl
set_option maxRecDepth 65536 in
theorem w_room : about1.hasRoom e0.platform room_1 = true :=
  launch0.hasRoom_least _ room_1 (by decide +kernel) (by decide +kernel) (by decide +kernel) (by decide +kernel) (by decide +kernel) (by decide +kernel)
theorem allAtoms_all (ts : List Jvm.Cond) (a : Array Jvm.Value) (st : Jvm.State) : (allAtoms ts).before a st = ts.all (fun c => c.before a st) := by
  induction ts with
  | nil => rfl
  | cons c t ih =>
    show (Jvm.Cond.and c (allAtoms t)).before a st = _
    rw [Jvm.Cond.before_and, ih, List.all_cons]
def words1 : List Jvm.Cond := Jvm.Cond.code x code maxLocals ret :: tables_1
/-- a 'code' word, met by the world's own term for the bytes: nothing is compared byte by byte -/
theorem code_word {y : MethodName} {bytes : ByteArray} {mx : Nat} {rt : Option FieldType} {a : Array Value} {s : State} {m : MethodId} {meth : Method} {c : Code} (h1 : s.methodNamed? y = some m) (h2 : s.vm.method? m = some meth) (h3 : meth.code = some c) (h4 : c.code = bytes)
    (h5 : (c.maxLocals == mx && c.exceptionTable.isEmpty && decide (c.maxStack ≤ mostOperands) && decide (meth.sig.returnType = rt) && !meth.locks && decide (parseMethodDescriptor y.desc = some meth.sig)) = true) : (Jvm.Cond.code y bytes mx rt).before a s = true := by
  simp only [Bool.and_eq_true, beq_iff_eq, Bool.not_eq_true', decide_eq_true_eq] at h5
  obtain ⟨⟨⟨⟨⟨g1, g2⟩, g3⟩, g4⟩, g5⟩, g6⟩ := h5
  simp [Cond.before, Cond.holds, Cond.value, h1, h2, h3, h4, g1, g2, g3, g4, g5, g6]
def isCode : Jvm.Cond → Bool
  | .code _ _ _ _ => true
  | _ => false
theorem all_split {L : List Jvm.Cond} {P : Jvm.Cond → Bool} (h1 : L.all (fun c => isCode c || P c) = true) (h2 : ∀ c ∈ L.filter isCode, P c = true) : L.all P = true := by
  refine List.all_eq_true.mpr fun c hc => ?_
  have h := List.all_eq_true.mp h1 c hc
  rcases Bool.eq_false_or_eq_true (isCode c) with hi | hi
  · exact h2 c (List.mem_filter.mpr ⟨hc, hi⟩)
  · simpa [hi] using h
set_option maxRecDepth 65536 in
theorem w_c0 : (Jvm.Cond.code x code maxLocals ret).before args0 about1 = true := code_word (m := ⟨1, 3⟩) (meth := k1m3) (c := k1c3) (by decide +kernel) rfl rfl rfl (by decide +kernel)
set_option maxRecDepth 65536 in
theorem w_c1 : (Jvm.Cond.code ({ cls := "com/example/rudder1/rudder1/http/HttpStatusPermitsContentPinLaw", name := "ok", desc := "(I)Z" } : Jvm.MethodName) method_3_code (1 : Nat) (Option.some Jvm.ClassFile.FieldType.boolean)).before args0 about1 = true := code_word (m := ⟨1, 2⟩) (meth := k1m2) (c := k1c2) (by decide +kernel) rfl rfl rfl (by decide +kernel)
set_option maxRecDepth 65536 in
theorem w_c2 : (Jvm.Cond.code ({ cls := "com/example/rudder1/rudder1/http/HttpStatus", name := "permitsContent", desc := "(I)Z" } : Jvm.MethodName) prog_46_method_9_code (1 : Nat) (Option.some Jvm.ClassFile.FieldType.boolean)).before args0 about1 = true := code_word (m := ⟨6, 0⟩) (meth := k6m0) (c := k6c0) (by decide +kernel) rfl rfl rfl (by decide +kernel)
set_option maxRecDepth 65536 in
theorem w_c3 : (Jvm.Cond.code ({ cls := "com/example/rudder1/rudder1/http/HttpStatusPermitsContentPinLaw", name := "ref", desc := "(I)Z" } : Jvm.MethodName) method_2_code (1 : Nat) (Option.some Jvm.ClassFile.FieldType.boolean)).before args0 about1 = true := code_word (m := ⟨1, 1⟩) (meth := k1m1) (c := k1c1) (by decide +kernel) rfl rfl rfl (by decide +kernel)
def codes1 : List Jvm.Cond := [Jvm.Cond.code x code maxLocals ret, Jvm.Cond.code ({ cls := "com/example/rudder1/rudder1/http/HttpStatusPermitsContentPinLaw", name := "ok", desc := "(I)Z" } : Jvm.MethodName) method_3_code (1 : Nat) (Option.some Jvm.ClassFile.FieldType.boolean), Jvm.Cond.code ({ cls := "com/example/rudder1/rudder1/http/HttpStatus", name := "permitsContent", desc := "(I)Z" } : Jvm.MethodName) prog_46_method_9_code (1 : Nat) (Option.some Jvm.ClassFile.FieldType.boolean), Jvm.Cond.code ({ cls := "com/example/rudder1/rudder1/http/HttpStatusPermitsContentPinLaw", name := "ref", desc := "(I)Z" } : Jvm.MethodName) method_2_code (1 : Nat) (Option.some Jvm.ClassFile.FieldType.boolean)]
set_option maxRecDepth 65536 in
theorem codes_eq : words1.filter isCode = codes1 := rfl
theorem w_codes : ∀ c ∈ words1.filter isCode, c.before args0 about1 = true := by
  rw [codes_eq]
  intro c hc
  simp only [codes1, List.mem_cons, List.not_mem_nil, or_false] at hc
  rcases hc with rfl | rfl | rfl | rfl
  · exact w_c0
  · exact w_c1
  · exact w_c2
  · exact w_c3
set_option maxRecDepth 65536 in
theorem w_t1 : words1.all (fun c => isCode c || c.before args0 about1) = true := by decide +kernel
theorem w_tables : (allAtoms (Jvm.Cond.code x code maxLocals ret :: tables_1)).before args0 about1 = true := by
  rw [allAtoms_all]
  show words1.all (fun c => c.before args0 about1) = true
  refine all_split ?_ w_codes
  rw [w_t1]
set_option maxRecDepth 65536 in
theorem w_case : (Jvm.Cond.and given_1 narrow_1).before args0 about1 = true := by decide +kernel
theorem w_applies : (headSpec (Jvm.Cond.code x code maxLocals ret :: tables_1) room_1).applies x e0.platform about1 = true :=
  (Spec.applies_iff w_frames).mpr ⟨w_running, w_runnable, w_alone, w_named, w_hears, w_ripe, w_room, w_tables⟩
theorem atStart : AtStart classFile x code maxLocals ret World_1 tables_1 room_1 Calls_1 rest_1 Pre_1 launch0 p0 e0 about1 theMethod args0 below0 :=
  ⟨lists_1, trivial, launch0.admits_env _ _ _, launch0.least_env, fairChoices_fair.cas, fairChoices_fair.clock, w_frames, w_args, w_heap, w_applies, trivial, trivial, w_case⟩
end start1
theorem witness_1 : WitnessClaimed_1 := ⟨start1.p0, start1.e0, start1.about1, start1.theMethod, start1.args0, start1.below0, start1.atStart⟩
end Jvm.Pilot.@@N@@
