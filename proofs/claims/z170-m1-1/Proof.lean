import JvmDerived
import JvmDerived.Pilot.@@N@@Statement
import JvmDerived.Pilot.@@N@@Code
set_option linter.unusedVariables false
set_option linter.unusedSimpArgs false
@@BLOCK:NumsL.lean.txt@@
namespace Jvm.RoadKit
open Sem ClassFile Op Lib Jvm.Stand Jvm.Free Jvm.LawKit
section Own
variable {p : Program} {l : Launch} {e : Env} {R : Room} {s : State} {m : MethodId} {args : Array Value} {below : List Frame} {meth : Method} {c : Code} {T : State} {locs : List Loc} {cells slots : Nat} {Z : State} {h : Heap}
theorem own_retI (X : Stand p l e R s m args below meth c T locs cells slots) (hx : p.tables.exec = Jvm.exec) {pc : Nat} {Ls : Array Slot} {z : Int32} {rest : List Value} (hret : meth.sig.returnType = some .int) (hd : decode c.code pc = .ok (.ireturn, 1)) {fs : List Frame}
    (hl : ∀ (f : JFrame) (acts : List Action), f.method = m → f.locked = none → f.entered = [] → (doReturn e (T.setTop f) acts (some (.int z))).1 = T.setFrames fs) : Steps p.tables e below (T.setTop (mkF m pc Ls (.int z :: rest))) (T.setFrames fs) := by
  have hm' : T.vm.method? m = some meth := X.method'
  have hn : narrow .int (.int z) = .int z := rfl
  show Steps p.tables e below (T.setTop { method := m, pc := pc, locals := Ls, stack := _ :: rest, locked := none }) _
  jvm_step X.here [X.here.top, hx, hd, hm', hret, hn]
  first | (intro acts; rw [hl _ acts rfl rfl rfl]) | rw [hl _ _ rfl rfl rfl]
  exact Steps.refl _
theorem own_retL (X : Stand p l e R s m args below meth c T locs cells slots) (hx : p.tables.exec = Jvm.exec) {pc : Nat} {Ls : Array Slot} {z : Int64} {rest : List Value} (hret : meth.sig.returnType = some .long) (hd : decode c.code pc = .ok (.lreturn, 1)) {fs : List Frame}
    (hl : ∀ (f : JFrame) (acts : List Action), f.method = m → f.locked = none → f.entered = [] → (doReturn e (T.setTop f) acts (some (.long z))).1 = T.setFrames fs) : Steps p.tables e below (T.setTop (mkF m pc Ls (.long z :: rest))) (T.setFrames fs) := by
  have hm' : T.vm.method? m = some meth := X.method'
  show Steps p.tables e below (T.setTop { method := m, pc := pc, locals := Ls, stack := _ :: rest, locked := none }) _
  jvm_step X.here [X.here.top, hx, hd, hm', hret, narrow]
  first | (intro acts; rw [hl _ acts rfl rfl rfl]) | rw [hl _ _ rfl rfl rfl]
  exact Steps.refl _
theorem own_retA (X : Stand p l e R s m args below meth c T locs cells slots) (hx : p.tables.exec = Jvm.exec) {pc : Nat} {Ls : Array Slot} {w : Value} {t : FieldType} {rest : List Value} (hret : meth.sig.returnType = some t) (ht : t.isReference = true) (hv : w.isRef = true) (hd : decode c.code pc = .ok (.areturn, 1)) {fs : List Frame}
    (hl : ∀ (f : JFrame) (acts : List Action), f.method = m → f.locked = none → f.entered = [] → (doReturn e (T.setTop f) acts (some w)).1 = T.setFrames fs) : Steps p.tables e below (T.setTop (mkF m pc Ls (w :: rest))) (T.setFrames fs) := by
  have hm' : T.vm.method? m = some meth := X.method'
  show Steps p.tables e below (T.setTop { method := m, pc := pc, locals := Ls, stack := w :: rest, locked := none }) _
  jvm_step X.here [X.here.top, hx, hd, hm', hret, hv, ht]
  first | (intro acts; rw [hl _ acts rfl rfl rfl]) | rw [hl _ _ rfl rfl rfl]
  exact Steps.refl _
theorem own_fldI {s : State} {args : Array Value} {t : Term} {C n d : String} {k : Int32} {x : Addr} (ev : t.eval args s none [] s = some (.ref x)) (h : (Cond.eq (Term.field t C n d) (Term.int k)).value args s none s [] = some true) : Fld s s.heap x C n d (.int k) := by
  have e := fld_at (C := C) (n := n) (dd := d) ev
  cases hv : s.fieldOf? x C n d with
  | none => simp [Cond.value, Term.eval, ev, hv] at h
  | some v =>
    cases v <;> simp [Cond.value, Term.eval, ev, hv] at h
    subst h
    exact Fld.start hv
theorem own_fldJ {s : State} {args : Array Value} {t : Term} {C n d : String} {k : Int64} {x : Addr} (ev : t.eval args s none [] s = some (.ref x)) (h : (Cond.eq (Term.field t C n d) (Term.long k)).value args s none s [] = some true) : Fld s s.heap x C n d (.long k) := by
  have e := fld_at (C := C) (n := n) (dd := d) ev
  cases hv : s.fieldOf? x C n d with
  | none => simp [Cond.value, Term.eval, ev, hv] at h
  | some v =>
    cases v <;> simp [Cond.value, Term.eval, ev, hv] at h
    subst h
    exact Fld.start hv
end Own
end Jvm.RoadKit
namespace Jvm.Pilot.@@N@@
open Jvm Jvm.ClassFile Sem Op Lib Jvm.Free Jvm.Stand Jvm.LawKit Jvm.RoadKit Bundle Jvm.Pilot.@@N@@.Jvm.D
def QP (v0 : Option Value) (h0 : Heap) (n0 : Nat) (v : Option Value) (h : Heap) (L : List Loc) : Prop := v = v0 ∧ Fr n0 L ∧ h = h0
def Q0 (n0 : Nat) (v : Option Value) (L : List Loc) : Prop := v = some (.int 1) ∧ Fr n0 L
def Wk (Z : State) (h : Heap) (ak : Addr) (lo : Int32) (hi : Int32) : Prop := Exa Z h ak "com/example/keelstream/keelstream/ApiKey" ∧ Fld Z h ak "com/example/keelstream/keelstream/ApiKey" "minVersion" "S" (.int lo) ∧ Fld Z h ak "com/example/keelstream/keelstream/ApiKey" "maxVersion" "S" (.int hi)
theorem d1_0 : decode method_3_code 0 = .ok (.iload_n 3, 1) := by decide +kernel
theorem d1_1 : decode method_3_code 1 = .ok (.i2s, 1) := by decide +kernel
theorem d1_2 : decode method_3_code 2 = .ok (.istore 4, 2) := by decide +kernel
theorem d1_4 : decode method_3_code 4 = .ok (.iload 4, 2) := by decide +kernel
theorem d1_6 : decode method_3_code 6 = .ok (.iload_n 1, 1) := by decide +kernel
theorem d1_7 : decode method_3_code 7 = .ok (.if_icmp .lt 13, 3) := by decide +kernel
theorem d1_20 : decode method_3_code 20 = .ok (.iconst 0, 1) := by decide +kernel
theorem d1_21 : decode method_3_code 21 = .ok (.istore 5, 2) := by decide +kernel
theorem d1_23 : decode method_3_code 23 = .ok (.aload_n 0, 1) := by decide +kernel
theorem d1_24 : decode method_3_code 24 = .ok (.iload 4, 2) := by decide +kernel
theorem d1_26 : decode method_3_code 26 = .ok (.invokevirtual 53, 3) := by decide +kernel
theorem d2_0 : decode prog_1_method_8_code 0 = .ok (.iload_n 1, 1) := by decide +kernel
theorem d2_1 : decode prog_1_method_8_code 1 = .ok (.aload_n 0, 1) := by decide +kernel
theorem d2_2 : decode prog_1_method_8_code 2 = .ok (.getfield 63, 3) := by decide +kernel
theorem d2_5 : decode prog_1_method_8_code 5 = .ok (.if_icmp .lt 15, 3) := by decide +kernel
theorem d2_20 : decode prog_1_method_8_code 20 = .ok (.iconst 0, 1) := by decide +kernel
theorem d2_21 : decode prog_1_method_8_code 21 = .ok (.ireturn, 1) := by decide +kernel
theorem pn_com_example_keelstream_keelstream_ApiKey : plainName "com/example/keelstream/keelstream/ApiKey" = true := by first | (simp [plainName, overriddenIn]; done) | decide +kernel
set_option maxRecDepth 65536 in
set_option maxHeartbeats 40000000 in
theorem rm2_2 (l : Launch) (Z : State) (a0 : Array Value) (hw : ∀ d ∈ tables_1, d.before a0 Z = true) (ws : List Jvm.Cond) (ak : Addr) (lo : Int32) (hi : Int32) (xx : Int32) (h0 : Heap) (n0 : Nat) (Z0 : n0 ≤ h0.size) (hS : Wk Z h0 ak lo hi) (hv1 : (xx.toInt16.toInt32) < lo) :
    MetFree l (⟨"com/example/keelstream/keelstream/ApiKey", "supports", "(S)Z"⟩ : MethodName) (head1 (Jvm.Cond.code (⟨"com/example/keelstream/keelstream/ApiKey", "supports", "(S)Z"⟩ : MethodName) prog_1_method_8_code 2 (some .boolean) :: ws) ({ frames := 0, cells := 0, slots := 0, locals := 0 } : Room)) (fun a U => a = #[(.ref ak), (.int (xx.toInt16.toInt32))] ∧ Z.Warmed39 U.vm ∧ U.heap = h0) (fun _ _ _ _ _ => True) (fun _ U o U' => ∃ v L, o = .returned v ∧ QP (some (.int (0 : Int32))) h0 n0 v U'.heap L ∧ FrameEnd U o U' L ({ frames := 0, cells := 0, slots := 0, locals := 0 } : Room).cells ({ frames := 0, cells := 0, slots := 0, locals := 0 } : Room).slots) := by
  refine MetFree.of_bodySF (plainFor_of_name pn_com_example_keelstream_keelstream_ApiKey) hisR ?_
  intro p e s m args below meth c s₁ Bd hml0 hP hK
  obtain ⟨rfl, hZ, hh⟩ := hP
  have hx := Bd.exec
  have hby := Bd.bytes
  have hml : c.maxLocals = 2 := hml0
  have hown : s.vm.findClass "com/example/keelstream/keelstream/ApiKey" = some m.cls := findClass_of_methodNamed Bd.named
  have X0 : Stand p l e ({ frames := 0, cells := 0, slots := 0, locals := 0 } : Room) s m #[(.ref ak), (.int (xx.toInt16.toInt32))] below meth c s₁ [] 0 0 := Stand.of_body Bd
  have e0 : s₁.heap = h0 := by rw [← hh, Bd.state]; rfl
  have N0 := Fr.nil n0
  have pre0 : ∀ t, Steps p.tables e below (s₁.setTop (mkF m 0 #[.val (.ref ak), .val (.int (xx.toInt16.toInt32))] [])) t → Steps p.tables e below (s₁.setTop (entryFrame m #[(.ref ak), (.int (xx.toInt16.toInt32))] 2)) t := fun t k => castTop (by first | (simp [entryFrame, mkF, argsToLocals, Value.category]; done) | rfl) k
  obtain ⟨E_k, F_lo, F_hi⟩ := id hS
  obtain ⟨T1, X1, e1, st1⟩ := getF X0 hx hZ hown (host := "") (Or.inl (hw _ (List.mem_of_getElem? (i := 13) rfl))) Via.refl e0 F_lo (g := (mkF m 2 #[.val (.ref ak), .val (.int (xx.toInt16.toInt32))] [(.ref ak), (.int (xx.toInt16.toInt32))])) rfl rfl (hb hby d2_2)
  obtain ⟨fs, hr, hrun, hended, hW, hsame⟩ := X1.leave (v := some (.int (0 : Int32))) (fun h => by rw [Bd.returns] at h; cases h)
  refine ⟨_, _, pre0 _ ?_, hrun, hended, _, _, rfl, ?_, ⟨_, rfl⟩, hW, hsame.mono (by decide) (by decide)⟩
  · show Steps p.tables e below (s₁.setTop (mkF m 0 #[.val (.ref ak), .val (.int (xx.toInt16.toInt32))] [])) _
    refine XS.iloadN X0.here hx rfl (hb hby d2_0) rfl ?_
    show Steps p.tables e below (s₁.setTop (mkF m 1 #[.val (.ref ak), .val (.int (xx.toInt16.toInt32))] [(.int (xx.toInt16.toInt32))])) _
    refine XS.aloadN X0.here hx rfl (hb hby d2_1) rfl rfl ?_
    show Steps p.tables e below (s₁.setTop (mkF m 2 #[.val (.ref ak), .val (.int (xx.toInt16.toInt32))] [(.ref ak), (.int (xx.toInt16.toInt32))])) _
    refine st1 _ ?_
    show Steps p.tables e below (T1.setTop (mkF m 5 #[.val (.ref ak), .val (.int (xx.toInt16.toInt32))] [(.int lo), (.int (xx.toInt16.toInt32))])) _
    refine XS.icmpYes X1.here hx rfl (pc0 := 5) (pc' := 20) rfl (hb hby d2_5) rfl (tlt hv1).1 (by decide) (by decide) ?_
    show Steps p.tables e below (T1.setTop (mkF m 20 #[.val (.ref ak), .val (.int (xx.toInt16.toInt32))] [])) _
    refine XS.iconst X1.here hx rfl (hb hby d2_20) ?_
    show Steps p.tables e below (T1.setTop (mkF m 21 #[.val (.ref ak), .val (.int (xx.toInt16.toInt32))] [(.int (0 : Int32))])) _
    exact retN X1 hx (t := .boolean) Bd.returns (by simp) (hb hby d2_21) hr
  · exact ⟨rfl, N0, e1⟩
theorem pd_0 : parseMethodDescriptor "(S)Z" = some ⟨[.short], some .boolean⟩ := by decide +kernel
theorem d1_29 : decode method_3_code 29 = .ok (.iload 5, 2) := by decide +kernel
theorem d1_31 : decode method_3_code 31 = .ok (.if_icmp .ne 7, 3) := by decide +kernel
theorem d1_34 : decode method_3_code 34 = .ok (.iconst 1, 1) := by decide +kernel
theorem d1_35 : decode method_3_code 35 = .ok (.goto 4, 3) := by decide +kernel
theorem d1_39 : decode method_3_code 39 = .ok (.ireturn, 1) := by decide +kernel
theorem pn_com_example_keelstream_keelstream_ApiKeySupportsPinLaw : plainName "com/example/keelstream/keelstream/ApiKeySupportsPinLaw" = true := by first | (simp [plainName, overriddenIn]; done) | decide +kernel
set_option maxRecDepth 65536 in
set_option maxHeartbeats 40000000 in
theorem rm1_1 (l : Launch) (Z : State) (a0 : Array Value) (hw : ∀ d ∈ tables_1, d.before a0 Z = true) (ws : List Jvm.Cond) (ak : Addr) (lo : Int32) (hi : Int32) (xx : Int32) (h0 : Heap) (n0 : Nat) (Z0 : n0 ≤ h0.size) (hS : Wk Z h0 ak lo hi) (hv1 : (xx.toInt16.toInt32) < lo) :
    MetFree l (⟨"com/example/keelstream/keelstream/ApiKeySupportsPinLaw", "ok", "(Lcom/example/keelstream/keelstream/ApiKey;III)Z"⟩ : MethodName) (head1 (Jvm.Cond.code (⟨"com/example/keelstream/keelstream/ApiKeySupportsPinLaw", "ok", "(Lcom/example/keelstream/keelstream/ApiKey;III)Z"⟩ : MethodName) method_3_code 6 (some .boolean) :: ws) ({ frames := 1, cells := 0, slots := 0, locals := 13 } : Room)) (fun a U => a = #[(.ref ak), (.int lo), (.int hi), (.int xx)] ∧ Z.Warmed39 U.vm ∧ U.heap = h0) (fun _ _ _ _ _ => True) (fun _ U o U' => ∃ v L, o = .returned v ∧ QP (some (.int (1 : Int32))) h0 n0 v U'.heap L ∧ FrameEnd U o U' L ({ frames := 1, cells := 0, slots := 0, locals := 13 } : Room).cells ({ frames := 1, cells := 0, slots := 0, locals := 13 } : Room).slots) := by
  refine MetFree.of_bodySF (plainFor_of_name pn_com_example_keelstream_keelstream_ApiKeySupportsPinLaw) hisR ?_
  intro p e s m args below meth c s₁ Bd hml0 hP hK
  obtain ⟨rfl, hZ, hh⟩ := hP
  have hx := Bd.exec
  have hby := Bd.bytes
  have hml : c.maxLocals = 6 := hml0
  have hown : s.vm.findClass "com/example/keelstream/keelstream/ApiKeySupportsPinLaw" = some m.cls := findClass_of_methodNamed Bd.named
  have X0 : Stand p l e ({ frames := 1, cells := 0, slots := 0, locals := 13 } : Room) s m #[(.ref ak), (.int lo), (.int hi), (.int xx)] below meth c s₁ [] 0 0 := Stand.of_body Bd
  have e0 : s₁.heap = h0 := by rw [← hh, Bd.state]; rfl
  have N0 := Fr.nil n0
  have pre0 : ∀ t, Steps p.tables e below (s₁.setTop (mkF m 0 #[.val (.ref ak), .val (.int lo), .val (.int hi), .val (.int xx), .unset, .unset] [])) t → Steps p.tables e below (s₁.setTop (entryFrame m #[(.ref ak), (.int lo), (.int hi), (.int xx)] 6)) t := fun t k => castTop (by first | (simp [entryFrame, mkF, argsToLocals, Value.category]; done) | rfl) k
  obtain ⟨E_k, F_lo, F_hi⟩ := id hS
  obtain ⟨cq1, kq1, q1a, q1b, q1c⟩ := isOf hZ e0 E_k
  obtain ⟨_, _, ⟨T1, L1, k1, n1⟩, -, X1, ⟨Lc1, hQ1, l1, y1, z1⟩, st1⟩ := X0.virtualBack hx (y := (⟨"com/example/keelstream/keelstream/ApiKey", "supports", "(S)Z"⟩ : MethodName)) (z := (⟨"com/example/keelstream/keelstream/ApiKey", "supports", "(S)Z"⟩ : MethodName)) hown (mvT hZ (hw _ (List.mem_of_getElem? (i := 8) rfl))) (mvT hZ (hw _ (List.mem_of_getElem? (i := 9) rfl))) (notFace_of_selects (args := #[]) (mvT hZ (hw _ (List.mem_of_getElem? (i := 11) rfl)))) (mvT hZ (hw _ (List.mem_of_getElem? (i := 11) rfl))) (mvT hZ (hw _ (List.mem_of_getElem? (i := 10) rfl))) (by decide) (backOf (W := 0) (rm2_2 l Z a0 hw [] ak lo hi xx h0 n0 Z0 hS hv1) hZ (hw _ (List.mem_of_getElem? (i := 12) rfl)) (hw _ (List.mem_of_getElem? (i := 2) rfl)) (by decide) (by decide)) q1a q1c (g := (mkF m 26 #[.val (.ref ak), .val (.int lo), .val (.int hi), .val (.int xx), .val (.int (xx.toInt16.toInt32)), .val (.int (0 : Int32))] [(.int (xx.toInt16.toInt32)), (.ref ak)])) rfl (by rw [hml]; rfl) (Steps.refl _) (argsL := [(.int (xx.toInt16.toInt32))]) (rest := []) (lenOf pd_0 rfl) rfl (by show 2 * 0 + _ ≤ _; exact Nat.le_of_eq rfl) (hb hby d1_26) (fun _ _ => ⟨rfl, e0, (by decide : 0 + 0 ≤ _), (by decide : 0 + 0 ≤ _)⟩)
  dsimp only [Pt.U, Pt.locs, Pt.cells, Pt.slots] at X1 l1 y1 z1 st1 hQ1
  subst l1 y1 z1
  obtain ⟨rfl, N1q, e1⟩ := hQ1
  have N1 := Fr.app N0 N1q
  obtain ⟨fs, hr, hrun, hended, hW, hsame⟩ := X1.leave (v := some (.int (1 : Int32))) (fun h => by rw [Bd.returns] at h; cases h)
  refine ⟨_, _, pre0 _ ?_, hrun, hended, _, _, rfl, ?_, ⟨_, rfl⟩, hW, hsame.mono (by decide) (by decide)⟩
  · show Steps p.tables e below (s₁.setTop (mkF m 0 #[.val (.ref ak), .val (.int lo), .val (.int hi), .val (.int xx), .unset, .unset] [])) _
    refine XS.iloadN X0.here hx rfl (hb hby d1_0) rfl ?_
    show Steps p.tables e below (s₁.setTop (mkF m 1 #[.val (.ref ak), .val (.int lo), .val (.int hi), .val (.int xx), .unset, .unset] [(.int xx)])) _
    refine XS.i2s X0.here hx rfl (hb hby d1_1) rfl ?_
    show Steps p.tables e below (s₁.setTop (mkF m 2 #[.val (.ref ak), .val (.int lo), .val (.int hi), .val (.int xx), .unset, .unset] [(.int (xx.toInt16.toInt32))])) _
    refine XS.istore X0.here hx rfl (hb hby d1_2) rfl (l' := #[.val (.ref ak), .val (.int lo), .val (.int hi), .val (.int xx), .val (.int (xx.toInt16.toInt32)), .unset]) rfl ?_
    show Steps p.tables e below (s₁.setTop (mkF m 4 #[.val (.ref ak), .val (.int lo), .val (.int hi), .val (.int xx), .val (.int (xx.toInt16.toInt32)), .unset] [])) _
    refine XS.iload X0.here hx rfl (hb hby d1_4) rfl ?_
    show Steps p.tables e below (s₁.setTop (mkF m 6 #[.val (.ref ak), .val (.int lo), .val (.int hi), .val (.int xx), .val (.int (xx.toInt16.toInt32)), .unset] [(.int (xx.toInt16.toInt32))])) _
    refine XS.iloadN X0.here hx rfl (hb hby d1_6) rfl ?_
    show Steps p.tables e below (s₁.setTop (mkF m 7 #[.val (.ref ak), .val (.int lo), .val (.int hi), .val (.int xx), .val (.int (xx.toInt16.toInt32)), .unset] [(.int lo), (.int (xx.toInt16.toInt32))])) _
    refine XS.icmpYes X0.here hx rfl (pc0 := 7) (pc' := 20) rfl (hb hby d1_7) rfl (tlt hv1).1 (by decide) (by decide) ?_
    show Steps p.tables e below (s₁.setTop (mkF m 20 #[.val (.ref ak), .val (.int lo), .val (.int hi), .val (.int xx), .val (.int (xx.toInt16.toInt32)), .unset] [])) _
    refine XS.iconst X0.here hx rfl (hb hby d1_20) ?_
    show Steps p.tables e below (s₁.setTop (mkF m 21 #[.val (.ref ak), .val (.int lo), .val (.int hi), .val (.int xx), .val (.int (xx.toInt16.toInt32)), .unset] [(.int (0 : Int32))])) _
    refine XS.istore X0.here hx rfl (hb hby d1_21) rfl (l' := #[.val (.ref ak), .val (.int lo), .val (.int hi), .val (.int xx), .val (.int (xx.toInt16.toInt32)), .val (.int (0 : Int32))]) rfl ?_
    show Steps p.tables e below (s₁.setTop (mkF m 23 #[.val (.ref ak), .val (.int lo), .val (.int hi), .val (.int xx), .val (.int (xx.toInt16.toInt32)), .val (.int (0 : Int32))] [])) _
    refine XS.aloadN X0.here hx rfl (hb hby d1_23) rfl rfl ?_
    show Steps p.tables e below (s₁.setTop (mkF m 24 #[.val (.ref ak), .val (.int lo), .val (.int hi), .val (.int xx), .val (.int (xx.toInt16.toInt32)), .val (.int (0 : Int32))] [(.ref ak)])) _
    refine XS.iload X0.here hx rfl (hb hby d1_24) rfl ?_
    show Steps p.tables e below (s₁.setTop (mkF m 26 #[.val (.ref ak), .val (.int lo), .val (.int hi), .val (.int xx), .val (.int (xx.toInt16.toInt32)), .val (.int (0 : Int32))] [(.int (xx.toInt16.toInt32)), (.ref ak)])) _
    refine st1.trans ?_
    show Steps p.tables e below (T1.setTop (mkF m 29 #[.val (.ref ak), .val (.int lo), .val (.int hi), .val (.int xx), .val (.int (xx.toInt16.toInt32)), .val (.int (0 : Int32))] [(.int (0 : Int32))])) _
    refine XS.iload X1.here hx rfl (hb hby d1_29) rfl ?_
    show Steps p.tables e below (T1.setTop (mkF m 31 #[.val (.ref ak), .val (.int lo), .val (.int hi), .val (.int xx), .val (.int (xx.toInt16.toInt32)), .val (.int (0 : Int32))] [(.int (0 : Int32)), (.int (0 : Int32))])) _
    refine XS.icmpNo X1.here hx rfl (hb hby d1_31) rfl (teq (by decide : (0 : Int32) = (0 : Int32))).2 ?_
    show Steps p.tables e below (T1.setTop (mkF m 34 #[.val (.ref ak), .val (.int lo), .val (.int hi), .val (.int xx), .val (.int (xx.toInt16.toInt32)), .val (.int (0 : Int32))] [])) _
    refine XS.iconst X1.here hx rfl (hb hby d1_34) ?_
    show Steps p.tables e below (T1.setTop (mkF m 35 #[.val (.ref ak), .val (.int lo), .val (.int hi), .val (.int xx), .val (.int (xx.toInt16.toInt32)), .val (.int (0 : Int32))] [(.int (1 : Int32))])) _
    refine XS.goto X1.here hx rfl (pc0 := 35) (pc' := 39) rfl (hb hby d1_35) (by decide) (by decide) ?_
    show Steps p.tables e below (T1.setTop (mkF m 39 #[.val (.ref ak), .val (.int lo), .val (.int hi), .val (.int xx), .val (.int (xx.toInt16.toInt32)), .val (.int (0 : Int32))] [(.int (1 : Int32))])) _
    exact retN X1 hx (t := .boolean) Bd.returns (by simp) (hb hby d1_39) hr
  · exact ⟨rfl, N1, e1⟩
theorem d1_10 : decode method_3_code 10 = .ok (.iload 4, 2) := by decide +kernel
theorem d1_12 : decode method_3_code 12 = .ok (.iload_n 2, 1) := by decide +kernel
theorem d1_13 : decode method_3_code 13 = .ok (.if_icmp .gt 7, 3) := by decide +kernel
theorem d2_8 : decode prog_1_method_8_code 8 = .ok (.iload_n 1, 1) := by decide +kernel
theorem d2_9 : decode prog_1_method_8_code 9 = .ok (.aload_n 0, 1) := by decide +kernel
theorem d2_10 : decode prog_1_method_8_code 10 = .ok (.getfield 66, 3) := by decide +kernel
theorem d2_13 : decode prog_1_method_8_code 13 = .ok (.if_icmp .gt 7, 3) := by decide +kernel
set_option maxRecDepth 65536 in
set_option maxHeartbeats 40000000 in
theorem rm2_4 (l : Launch) (Z : State) (a0 : Array Value) (hw : ∀ d ∈ tables_1, d.before a0 Z = true) (ws : List Jvm.Cond) (ak : Addr) (lo : Int32) (hi : Int32) (xx : Int32) (h0 : Heap) (n0 : Nat) (Z0 : n0 ≤ h0.size) (hS : Wk Z h0 ak lo hi) (hv1 : ¬ ((xx.toInt16.toInt32) < lo)) (hv2 : hi < (xx.toInt16.toInt32)) :
    MetFree l (⟨"com/example/keelstream/keelstream/ApiKey", "supports", "(S)Z"⟩ : MethodName) (head1 (Jvm.Cond.code (⟨"com/example/keelstream/keelstream/ApiKey", "supports", "(S)Z"⟩ : MethodName) prog_1_method_8_code 2 (some .boolean) :: ws) ({ frames := 0, cells := 0, slots := 0, locals := 0 } : Room)) (fun a U => a = #[(.ref ak), (.int (xx.toInt16.toInt32))] ∧ Z.Warmed39 U.vm ∧ U.heap = h0) (fun _ _ _ _ _ => True) (fun _ U o U' => ∃ v L, o = .returned v ∧ QP (some (.int (0 : Int32))) h0 n0 v U'.heap L ∧ FrameEnd U o U' L ({ frames := 0, cells := 0, slots := 0, locals := 0 } : Room).cells ({ frames := 0, cells := 0, slots := 0, locals := 0 } : Room).slots) := by
  refine MetFree.of_bodySF (plainFor_of_name pn_com_example_keelstream_keelstream_ApiKey) hisR ?_
  intro p e s m args below meth c s₁ Bd hml0 hP hK
  obtain ⟨rfl, hZ, hh⟩ := hP
  have hx := Bd.exec
  have hby := Bd.bytes
  have hml : c.maxLocals = 2 := hml0
  have hown : s.vm.findClass "com/example/keelstream/keelstream/ApiKey" = some m.cls := findClass_of_methodNamed Bd.named
  have X0 : Stand p l e ({ frames := 0, cells := 0, slots := 0, locals := 0 } : Room) s m #[(.ref ak), (.int (xx.toInt16.toInt32))] below meth c s₁ [] 0 0 := Stand.of_body Bd
  have e0 : s₁.heap = h0 := by rw [← hh, Bd.state]; rfl
  have N0 := Fr.nil n0
  have pre0 : ∀ t, Steps p.tables e below (s₁.setTop (mkF m 0 #[.val (.ref ak), .val (.int (xx.toInt16.toInt32))] [])) t → Steps p.tables e below (s₁.setTop (entryFrame m #[(.ref ak), (.int (xx.toInt16.toInt32))] 2)) t := fun t k => castTop (by first | (simp [entryFrame, mkF, argsToLocals, Value.category]; done) | rfl) k
  obtain ⟨E_k, F_lo, F_hi⟩ := id hS
  obtain ⟨T1, X1, e1, st1⟩ := getF X0 hx hZ hown (host := "") (Or.inl (hw _ (List.mem_of_getElem? (i := 13) rfl))) Via.refl e0 F_lo (g := (mkF m 2 #[.val (.ref ak), .val (.int (xx.toInt16.toInt32))] [(.ref ak), (.int (xx.toInt16.toInt32))])) rfl rfl (hb hby d2_2)
  obtain ⟨T2, X2, e2, st2⟩ := getF X1 hx hZ hown (host := "") (Or.inl (hw _ (List.mem_of_getElem? (i := 15) rfl))) Via.refl e1 F_hi (g := (mkF m 10 #[.val (.ref ak), .val (.int (xx.toInt16.toInt32))] [(.ref ak), (.int (xx.toInt16.toInt32))])) rfl rfl (hb hby d2_10)
  obtain ⟨fs, hr, hrun, hended, hW, hsame⟩ := X2.leave (v := some (.int (0 : Int32))) (fun h => by rw [Bd.returns] at h; cases h)
  refine ⟨_, _, pre0 _ ?_, hrun, hended, _, _, rfl, ?_, ⟨_, rfl⟩, hW, hsame.mono (by decide) (by decide)⟩
  · show Steps p.tables e below (s₁.setTop (mkF m 0 #[.val (.ref ak), .val (.int (xx.toInt16.toInt32))] [])) _
    refine XS.iloadN X0.here hx rfl (hb hby d2_0) rfl ?_
    show Steps p.tables e below (s₁.setTop (mkF m 1 #[.val (.ref ak), .val (.int (xx.toInt16.toInt32))] [(.int (xx.toInt16.toInt32))])) _
    refine XS.aloadN X0.here hx rfl (hb hby d2_1) rfl rfl ?_
    show Steps p.tables e below (s₁.setTop (mkF m 2 #[.val (.ref ak), .val (.int (xx.toInt16.toInt32))] [(.ref ak), (.int (xx.toInt16.toInt32))])) _
    refine st1 _ ?_
    show Steps p.tables e below (T1.setTop (mkF m 5 #[.val (.ref ak), .val (.int (xx.toInt16.toInt32))] [(.int lo), (.int (xx.toInt16.toInt32))])) _
    refine XS.icmpNo X1.here hx rfl (hb hby d2_5) rfl (flt hv1).1 ?_
    show Steps p.tables e below (T1.setTop (mkF m 8 #[.val (.ref ak), .val (.int (xx.toInt16.toInt32))] [])) _
    refine XS.iloadN X1.here hx rfl (hb hby d2_8) rfl ?_
    show Steps p.tables e below (T1.setTop (mkF m 9 #[.val (.ref ak), .val (.int (xx.toInt16.toInt32))] [(.int (xx.toInt16.toInt32))])) _
    refine XS.aloadN X1.here hx rfl (hb hby d2_9) rfl rfl ?_
    show Steps p.tables e below (T1.setTop (mkF m 10 #[.val (.ref ak), .val (.int (xx.toInt16.toInt32))] [(.ref ak), (.int (xx.toInt16.toInt32))])) _
    refine st2 _ ?_
    show Steps p.tables e below (T2.setTop (mkF m 13 #[.val (.ref ak), .val (.int (xx.toInt16.toInt32))] [(.int hi), (.int (xx.toInt16.toInt32))])) _
    refine XS.icmpYes X2.here hx rfl (pc0 := 13) (pc' := 20) rfl (hb hby d2_13) rfl (tlt hv2).2.2.1 (by decide) (by decide) ?_
    show Steps p.tables e below (T2.setTop (mkF m 20 #[.val (.ref ak), .val (.int (xx.toInt16.toInt32))] [])) _
    refine XS.iconst X2.here hx rfl (hb hby d2_20) ?_
    show Steps p.tables e below (T2.setTop (mkF m 21 #[.val (.ref ak), .val (.int (xx.toInt16.toInt32))] [(.int (0 : Int32))])) _
    exact retN X2 hx (t := .boolean) Bd.returns (by simp) (hb hby d2_21) hr
  · exact ⟨rfl, N0, e2⟩
set_option maxRecDepth 65536 in
set_option maxHeartbeats 40000000 in
theorem rm1_3 (l : Launch) (Z : State) (a0 : Array Value) (hw : ∀ d ∈ tables_1, d.before a0 Z = true) (ws : List Jvm.Cond) (ak : Addr) (lo : Int32) (hi : Int32) (xx : Int32) (h0 : Heap) (n0 : Nat) (Z0 : n0 ≤ h0.size) (hS : Wk Z h0 ak lo hi) (hv1 : ¬ ((xx.toInt16.toInt32) < lo)) (hv2 : hi < (xx.toInt16.toInt32)) :
    MetFree l (⟨"com/example/keelstream/keelstream/ApiKeySupportsPinLaw", "ok", "(Lcom/example/keelstream/keelstream/ApiKey;III)Z"⟩ : MethodName) (head1 (Jvm.Cond.code (⟨"com/example/keelstream/keelstream/ApiKeySupportsPinLaw", "ok", "(Lcom/example/keelstream/keelstream/ApiKey;III)Z"⟩ : MethodName) method_3_code 6 (some .boolean) :: ws) ({ frames := 1, cells := 0, slots := 0, locals := 13 } : Room)) (fun a U => a = #[(.ref ak), (.int lo), (.int hi), (.int xx)] ∧ Z.Warmed39 U.vm ∧ U.heap = h0) (fun _ _ _ _ _ => True) (fun _ U o U' => ∃ v L, o = .returned v ∧ QP (some (.int (1 : Int32))) h0 n0 v U'.heap L ∧ FrameEnd U o U' L ({ frames := 1, cells := 0, slots := 0, locals := 13 } : Room).cells ({ frames := 1, cells := 0, slots := 0, locals := 13 } : Room).slots) := by
  refine MetFree.of_bodySF (plainFor_of_name pn_com_example_keelstream_keelstream_ApiKeySupportsPinLaw) hisR ?_
  intro p e s m args below meth c s₁ Bd hml0 hP hK
  obtain ⟨rfl, hZ, hh⟩ := hP
  have hx := Bd.exec
  have hby := Bd.bytes
  have hml : c.maxLocals = 6 := hml0
  have hown : s.vm.findClass "com/example/keelstream/keelstream/ApiKeySupportsPinLaw" = some m.cls := findClass_of_methodNamed Bd.named
  have X0 : Stand p l e ({ frames := 1, cells := 0, slots := 0, locals := 13 } : Room) s m #[(.ref ak), (.int lo), (.int hi), (.int xx)] below meth c s₁ [] 0 0 := Stand.of_body Bd
  have e0 : s₁.heap = h0 := by rw [← hh, Bd.state]; rfl
  have N0 := Fr.nil n0
  have pre0 : ∀ t, Steps p.tables e below (s₁.setTop (mkF m 0 #[.val (.ref ak), .val (.int lo), .val (.int hi), .val (.int xx), .unset, .unset] [])) t → Steps p.tables e below (s₁.setTop (entryFrame m #[(.ref ak), (.int lo), (.int hi), (.int xx)] 6)) t := fun t k => castTop (by first | (simp [entryFrame, mkF, argsToLocals, Value.category]; done) | rfl) k
  obtain ⟨E_k, F_lo, F_hi⟩ := id hS
  obtain ⟨cq1, kq1, q1a, q1b, q1c⟩ := isOf hZ e0 E_k
  obtain ⟨_, _, ⟨T1, L1, k1, n1⟩, -, X1, ⟨Lc1, hQ1, l1, y1, z1⟩, st1⟩ := X0.virtualBack hx (y := (⟨"com/example/keelstream/keelstream/ApiKey", "supports", "(S)Z"⟩ : MethodName)) (z := (⟨"com/example/keelstream/keelstream/ApiKey", "supports", "(S)Z"⟩ : MethodName)) hown (mvT hZ (hw _ (List.mem_of_getElem? (i := 8) rfl))) (mvT hZ (hw _ (List.mem_of_getElem? (i := 9) rfl))) (notFace_of_selects (args := #[]) (mvT hZ (hw _ (List.mem_of_getElem? (i := 11) rfl)))) (mvT hZ (hw _ (List.mem_of_getElem? (i := 11) rfl))) (mvT hZ (hw _ (List.mem_of_getElem? (i := 10) rfl))) (by decide) (backOf (W := 0) (rm2_4 l Z a0 hw [] ak lo hi xx h0 n0 Z0 hS hv1 hv2) hZ (hw _ (List.mem_of_getElem? (i := 12) rfl)) (hw _ (List.mem_of_getElem? (i := 2) rfl)) (by decide) (by decide)) q1a q1c (g := (mkF m 26 #[.val (.ref ak), .val (.int lo), .val (.int hi), .val (.int xx), .val (.int (xx.toInt16.toInt32)), .val (.int (0 : Int32))] [(.int (xx.toInt16.toInt32)), (.ref ak)])) rfl (by rw [hml]; rfl) (Steps.refl _) (argsL := [(.int (xx.toInt16.toInt32))]) (rest := []) (lenOf pd_0 rfl) rfl (by show 2 * 0 + _ ≤ _; exact Nat.le_of_eq rfl) (hb hby d1_26) (fun _ _ => ⟨rfl, e0, (by decide : 0 + 0 ≤ _), (by decide : 0 + 0 ≤ _)⟩)
  dsimp only [Pt.U, Pt.locs, Pt.cells, Pt.slots] at X1 l1 y1 z1 st1 hQ1
  subst l1 y1 z1
  obtain ⟨rfl, N1q, e1⟩ := hQ1
  have N1 := Fr.app N0 N1q
  obtain ⟨fs, hr, hrun, hended, hW, hsame⟩ := X1.leave (v := some (.int (1 : Int32))) (fun h => by rw [Bd.returns] at h; cases h)
  refine ⟨_, _, pre0 _ ?_, hrun, hended, _, _, rfl, ?_, ⟨_, rfl⟩, hW, hsame.mono (by decide) (by decide)⟩
  · show Steps p.tables e below (s₁.setTop (mkF m 0 #[.val (.ref ak), .val (.int lo), .val (.int hi), .val (.int xx), .unset, .unset] [])) _
    refine XS.iloadN X0.here hx rfl (hb hby d1_0) rfl ?_
    show Steps p.tables e below (s₁.setTop (mkF m 1 #[.val (.ref ak), .val (.int lo), .val (.int hi), .val (.int xx), .unset, .unset] [(.int xx)])) _
    refine XS.i2s X0.here hx rfl (hb hby d1_1) rfl ?_
    show Steps p.tables e below (s₁.setTop (mkF m 2 #[.val (.ref ak), .val (.int lo), .val (.int hi), .val (.int xx), .unset, .unset] [(.int (xx.toInt16.toInt32))])) _
    refine XS.istore X0.here hx rfl (hb hby d1_2) rfl (l' := #[.val (.ref ak), .val (.int lo), .val (.int hi), .val (.int xx), .val (.int (xx.toInt16.toInt32)), .unset]) rfl ?_
    show Steps p.tables e below (s₁.setTop (mkF m 4 #[.val (.ref ak), .val (.int lo), .val (.int hi), .val (.int xx), .val (.int (xx.toInt16.toInt32)), .unset] [])) _
    refine XS.iload X0.here hx rfl (hb hby d1_4) rfl ?_
    show Steps p.tables e below (s₁.setTop (mkF m 6 #[.val (.ref ak), .val (.int lo), .val (.int hi), .val (.int xx), .val (.int (xx.toInt16.toInt32)), .unset] [(.int (xx.toInt16.toInt32))])) _
    refine XS.iloadN X0.here hx rfl (hb hby d1_6) rfl ?_
    show Steps p.tables e below (s₁.setTop (mkF m 7 #[.val (.ref ak), .val (.int lo), .val (.int hi), .val (.int xx), .val (.int (xx.toInt16.toInt32)), .unset] [(.int lo), (.int (xx.toInt16.toInt32))])) _
    refine XS.icmpNo X0.here hx rfl (hb hby d1_7) rfl (flt hv1).1 ?_
    show Steps p.tables e below (s₁.setTop (mkF m 10 #[.val (.ref ak), .val (.int lo), .val (.int hi), .val (.int xx), .val (.int (xx.toInt16.toInt32)), .unset] [])) _
    refine XS.iload X0.here hx rfl (hb hby d1_10) rfl ?_
    show Steps p.tables e below (s₁.setTop (mkF m 12 #[.val (.ref ak), .val (.int lo), .val (.int hi), .val (.int xx), .val (.int (xx.toInt16.toInt32)), .unset] [(.int (xx.toInt16.toInt32))])) _
    refine XS.iloadN X0.here hx rfl (hb hby d1_12) rfl ?_
    show Steps p.tables e below (s₁.setTop (mkF m 13 #[.val (.ref ak), .val (.int lo), .val (.int hi), .val (.int xx), .val (.int (xx.toInt16.toInt32)), .unset] [(.int hi), (.int (xx.toInt16.toInt32))])) _
    refine XS.icmpYes X0.here hx rfl (pc0 := 13) (pc' := 20) rfl (hb hby d1_13) rfl (tlt hv2).2.2.1 (by decide) (by decide) ?_
    show Steps p.tables e below (s₁.setTop (mkF m 20 #[.val (.ref ak), .val (.int lo), .val (.int hi), .val (.int xx), .val (.int (xx.toInt16.toInt32)), .unset] [])) _
    refine XS.iconst X0.here hx rfl (hb hby d1_20) ?_
    show Steps p.tables e below (s₁.setTop (mkF m 21 #[.val (.ref ak), .val (.int lo), .val (.int hi), .val (.int xx), .val (.int (xx.toInt16.toInt32)), .unset] [(.int (0 : Int32))])) _
    refine XS.istore X0.here hx rfl (hb hby d1_21) rfl (l' := #[.val (.ref ak), .val (.int lo), .val (.int hi), .val (.int xx), .val (.int (xx.toInt16.toInt32)), .val (.int (0 : Int32))]) rfl ?_
    show Steps p.tables e below (s₁.setTop (mkF m 23 #[.val (.ref ak), .val (.int lo), .val (.int hi), .val (.int xx), .val (.int (xx.toInt16.toInt32)), .val (.int (0 : Int32))] [])) _
    refine XS.aloadN X0.here hx rfl (hb hby d1_23) rfl rfl ?_
    show Steps p.tables e below (s₁.setTop (mkF m 24 #[.val (.ref ak), .val (.int lo), .val (.int hi), .val (.int xx), .val (.int (xx.toInt16.toInt32)), .val (.int (0 : Int32))] [(.ref ak)])) _
    refine XS.iload X0.here hx rfl (hb hby d1_24) rfl ?_
    show Steps p.tables e below (s₁.setTop (mkF m 26 #[.val (.ref ak), .val (.int lo), .val (.int hi), .val (.int xx), .val (.int (xx.toInt16.toInt32)), .val (.int (0 : Int32))] [(.int (xx.toInt16.toInt32)), (.ref ak)])) _
    refine st1.trans ?_
    show Steps p.tables e below (T1.setTop (mkF m 29 #[.val (.ref ak), .val (.int lo), .val (.int hi), .val (.int xx), .val (.int (xx.toInt16.toInt32)), .val (.int (0 : Int32))] [(.int (0 : Int32))])) _
    refine XS.iload X1.here hx rfl (hb hby d1_29) rfl ?_
    show Steps p.tables e below (T1.setTop (mkF m 31 #[.val (.ref ak), .val (.int lo), .val (.int hi), .val (.int xx), .val (.int (xx.toInt16.toInt32)), .val (.int (0 : Int32))] [(.int (0 : Int32)), (.int (0 : Int32))])) _
    refine XS.icmpNo X1.here hx rfl (hb hby d1_31) rfl (teq (by decide : (0 : Int32) = (0 : Int32))).2 ?_
    show Steps p.tables e below (T1.setTop (mkF m 34 #[.val (.ref ak), .val (.int lo), .val (.int hi), .val (.int xx), .val (.int (xx.toInt16.toInt32)), .val (.int (0 : Int32))] [])) _
    refine XS.iconst X1.here hx rfl (hb hby d1_34) ?_
    show Steps p.tables e below (T1.setTop (mkF m 35 #[.val (.ref ak), .val (.int lo), .val (.int hi), .val (.int xx), .val (.int (xx.toInt16.toInt32)), .val (.int (0 : Int32))] [(.int (1 : Int32))])) _
    refine XS.goto X1.here hx rfl (pc0 := 35) (pc' := 39) rfl (hb hby d1_35) (by decide) (by decide) ?_
    show Steps p.tables e below (T1.setTop (mkF m 39 #[.val (.ref ak), .val (.int lo), .val (.int hi), .val (.int xx), .val (.int (xx.toInt16.toInt32)), .val (.int (0 : Int32))] [(.int (1 : Int32))])) _
    exact retN X1 hx (t := .boolean) Bd.returns (by simp) (hb hby d1_39) hr
  · exact ⟨rfl, N1, e1⟩
theorem d1_16 : decode method_3_code 16 = .ok (.iconst 1, 1) := by decide +kernel
theorem d1_17 : decode method_3_code 17 = .ok (.goto 4, 3) := by decide +kernel
theorem d2_16 : decode prog_1_method_8_code 16 = .ok (.iconst 1, 1) := by decide +kernel
theorem d2_17 : decode prog_1_method_8_code 17 = .ok (.goto 4, 3) := by decide +kernel
set_option maxRecDepth 65536 in
set_option maxHeartbeats 40000000 in
theorem rm2_6 (l : Launch) (Z : State) (a0 : Array Value) (hw : ∀ d ∈ tables_1, d.before a0 Z = true) (ws : List Jvm.Cond) (ak : Addr) (lo : Int32) (hi : Int32) (xx : Int32) (h0 : Heap) (n0 : Nat) (Z0 : n0 ≤ h0.size) (hS : Wk Z h0 ak lo hi) (hv1 : ¬ ((xx.toInt16.toInt32) < lo)) (hv2 : ¬ (hi < (xx.toInt16.toInt32))) :
    MetFree l (⟨"com/example/keelstream/keelstream/ApiKey", "supports", "(S)Z"⟩ : MethodName) (head1 (Jvm.Cond.code (⟨"com/example/keelstream/keelstream/ApiKey", "supports", "(S)Z"⟩ : MethodName) prog_1_method_8_code 2 (some .boolean) :: ws) ({ frames := 0, cells := 0, slots := 0, locals := 0 } : Room)) (fun a U => a = #[(.ref ak), (.int (xx.toInt16.toInt32))] ∧ Z.Warmed39 U.vm ∧ U.heap = h0) (fun _ _ _ _ _ => True) (fun _ U o U' => ∃ v L, o = .returned v ∧ QP (some (.int (1 : Int32))) h0 n0 v U'.heap L ∧ FrameEnd U o U' L ({ frames := 0, cells := 0, slots := 0, locals := 0 } : Room).cells ({ frames := 0, cells := 0, slots := 0, locals := 0 } : Room).slots) := by
  refine MetFree.of_bodySF (plainFor_of_name pn_com_example_keelstream_keelstream_ApiKey) hisR ?_
  intro p e s m args below meth c s₁ Bd hml0 hP hK
  obtain ⟨rfl, hZ, hh⟩ := hP
  have hx := Bd.exec
  have hby := Bd.bytes
  have hml : c.maxLocals = 2 := hml0
  have hown : s.vm.findClass "com/example/keelstream/keelstream/ApiKey" = some m.cls := findClass_of_methodNamed Bd.named
  have X0 : Stand p l e ({ frames := 0, cells := 0, slots := 0, locals := 0 } : Room) s m #[(.ref ak), (.int (xx.toInt16.toInt32))] below meth c s₁ [] 0 0 := Stand.of_body Bd
  have e0 : s₁.heap = h0 := by rw [← hh, Bd.state]; rfl
  have N0 := Fr.nil n0
  have pre0 : ∀ t, Steps p.tables e below (s₁.setTop (mkF m 0 #[.val (.ref ak), .val (.int (xx.toInt16.toInt32))] [])) t → Steps p.tables e below (s₁.setTop (entryFrame m #[(.ref ak), (.int (xx.toInt16.toInt32))] 2)) t := fun t k => castTop (by first | (simp [entryFrame, mkF, argsToLocals, Value.category]; done) | rfl) k
  obtain ⟨E_k, F_lo, F_hi⟩ := id hS
  obtain ⟨T1, X1, e1, st1⟩ := getF X0 hx hZ hown (host := "") (Or.inl (hw _ (List.mem_of_getElem? (i := 13) rfl))) Via.refl e0 F_lo (g := (mkF m 2 #[.val (.ref ak), .val (.int (xx.toInt16.toInt32))] [(.ref ak), (.int (xx.toInt16.toInt32))])) rfl rfl (hb hby d2_2)
  obtain ⟨T2, X2, e2, st2⟩ := getF X1 hx hZ hown (host := "") (Or.inl (hw _ (List.mem_of_getElem? (i := 15) rfl))) Via.refl e1 F_hi (g := (mkF m 10 #[.val (.ref ak), .val (.int (xx.toInt16.toInt32))] [(.ref ak), (.int (xx.toInt16.toInt32))])) rfl rfl (hb hby d2_10)
  obtain ⟨fs, hr, hrun, hended, hW, hsame⟩ := X2.leave (v := some (.int (1 : Int32))) (fun h => by rw [Bd.returns] at h; cases h)
  refine ⟨_, _, pre0 _ ?_, hrun, hended, _, _, rfl, ?_, ⟨_, rfl⟩, hW, hsame.mono (by decide) (by decide)⟩
  · show Steps p.tables e below (s₁.setTop (mkF m 0 #[.val (.ref ak), .val (.int (xx.toInt16.toInt32))] [])) _
    refine XS.iloadN X0.here hx rfl (hb hby d2_0) rfl ?_
    show Steps p.tables e below (s₁.setTop (mkF m 1 #[.val (.ref ak), .val (.int (xx.toInt16.toInt32))] [(.int (xx.toInt16.toInt32))])) _
    refine XS.aloadN X0.here hx rfl (hb hby d2_1) rfl rfl ?_
    show Steps p.tables e below (s₁.setTop (mkF m 2 #[.val (.ref ak), .val (.int (xx.toInt16.toInt32))] [(.ref ak), (.int (xx.toInt16.toInt32))])) _
    refine st1 _ ?_
    show Steps p.tables e below (T1.setTop (mkF m 5 #[.val (.ref ak), .val (.int (xx.toInt16.toInt32))] [(.int lo), (.int (xx.toInt16.toInt32))])) _
    refine XS.icmpNo X1.here hx rfl (hb hby d2_5) rfl (flt hv1).1 ?_
    show Steps p.tables e below (T1.setTop (mkF m 8 #[.val (.ref ak), .val (.int (xx.toInt16.toInt32))] [])) _
    refine XS.iloadN X1.here hx rfl (hb hby d2_8) rfl ?_
    show Steps p.tables e below (T1.setTop (mkF m 9 #[.val (.ref ak), .val (.int (xx.toInt16.toInt32))] [(.int (xx.toInt16.toInt32))])) _
    refine XS.aloadN X1.here hx rfl (hb hby d2_9) rfl rfl ?_
    show Steps p.tables e below (T1.setTop (mkF m 10 #[.val (.ref ak), .val (.int (xx.toInt16.toInt32))] [(.ref ak), (.int (xx.toInt16.toInt32))])) _
    refine st2 _ ?_
    show Steps p.tables e below (T2.setTop (mkF m 13 #[.val (.ref ak), .val (.int (xx.toInt16.toInt32))] [(.int hi), (.int (xx.toInt16.toInt32))])) _
    refine XS.icmpNo X2.here hx rfl (hb hby d2_13) rfl (flt hv2).2.2.1 ?_
    show Steps p.tables e below (T2.setTop (mkF m 16 #[.val (.ref ak), .val (.int (xx.toInt16.toInt32))] [])) _
    refine XS.iconst X2.here hx rfl (hb hby d2_16) ?_
    show Steps p.tables e below (T2.setTop (mkF m 17 #[.val (.ref ak), .val (.int (xx.toInt16.toInt32))] [(.int (1 : Int32))])) _
    refine XS.goto X2.here hx rfl (pc0 := 17) (pc' := 21) rfl (hb hby d2_17) (by decide) (by decide) ?_
    show Steps p.tables e below (T2.setTop (mkF m 21 #[.val (.ref ak), .val (.int (xx.toInt16.toInt32))] [(.int (1 : Int32))])) _
    exact retN X2 hx (t := .boolean) Bd.returns (by simp) (hb hby d2_21) hr
  · exact ⟨rfl, N0, e2⟩
set_option maxRecDepth 65536 in
set_option maxHeartbeats 40000000 in
theorem rm1_5 (l : Launch) (Z : State) (a0 : Array Value) (hw : ∀ d ∈ tables_1, d.before a0 Z = true) (ws : List Jvm.Cond) (ak : Addr) (lo : Int32) (hi : Int32) (xx : Int32) (h0 : Heap) (n0 : Nat) (Z0 : n0 ≤ h0.size) (hS : Wk Z h0 ak lo hi) (hv1 : ¬ ((xx.toInt16.toInt32) < lo)) (hv2 : ¬ (hi < (xx.toInt16.toInt32))) :
    MetFree l (⟨"com/example/keelstream/keelstream/ApiKeySupportsPinLaw", "ok", "(Lcom/example/keelstream/keelstream/ApiKey;III)Z"⟩ : MethodName) (head1 (Jvm.Cond.code (⟨"com/example/keelstream/keelstream/ApiKeySupportsPinLaw", "ok", "(Lcom/example/keelstream/keelstream/ApiKey;III)Z"⟩ : MethodName) method_3_code 6 (some .boolean) :: ws) ({ frames := 1, cells := 0, slots := 0, locals := 13 } : Room)) (fun a U => a = #[(.ref ak), (.int lo), (.int hi), (.int xx)] ∧ Z.Warmed39 U.vm ∧ U.heap = h0) (fun _ _ _ _ _ => True) (fun _ U o U' => ∃ v L, o = .returned v ∧ QP (some (.int (1 : Int32))) h0 n0 v U'.heap L ∧ FrameEnd U o U' L ({ frames := 1, cells := 0, slots := 0, locals := 13 } : Room).cells ({ frames := 1, cells := 0, slots := 0, locals := 13 } : Room).slots) := by
  refine MetFree.of_bodySF (plainFor_of_name pn_com_example_keelstream_keelstream_ApiKeySupportsPinLaw) hisR ?_
  intro p e s m args below meth c s₁ Bd hml0 hP hK
  obtain ⟨rfl, hZ, hh⟩ := hP
  have hx := Bd.exec
  have hby := Bd.bytes
  have hml : c.maxLocals = 6 := hml0
  have hown : s.vm.findClass "com/example/keelstream/keelstream/ApiKeySupportsPinLaw" = some m.cls := findClass_of_methodNamed Bd.named
  have X0 : Stand p l e ({ frames := 1, cells := 0, slots := 0, locals := 13 } : Room) s m #[(.ref ak), (.int lo), (.int hi), (.int xx)] below meth c s₁ [] 0 0 := Stand.of_body Bd
  have e0 : s₁.heap = h0 := by rw [← hh, Bd.state]; rfl
  have N0 := Fr.nil n0
  have pre0 : ∀ t, Steps p.tables e below (s₁.setTop (mkF m 0 #[.val (.ref ak), .val (.int lo), .val (.int hi), .val (.int xx), .unset, .unset] [])) t → Steps p.tables e below (s₁.setTop (entryFrame m #[(.ref ak), (.int lo), (.int hi), (.int xx)] 6)) t := fun t k => castTop (by first | (simp [entryFrame, mkF, argsToLocals, Value.category]; done) | rfl) k
  obtain ⟨E_k, F_lo, F_hi⟩ := id hS
  obtain ⟨cq1, kq1, q1a, q1b, q1c⟩ := isOf hZ e0 E_k
  obtain ⟨_, _, ⟨T1, L1, k1, n1⟩, -, X1, ⟨Lc1, hQ1, l1, y1, z1⟩, st1⟩ := X0.virtualBack hx (y := (⟨"com/example/keelstream/keelstream/ApiKey", "supports", "(S)Z"⟩ : MethodName)) (z := (⟨"com/example/keelstream/keelstream/ApiKey", "supports", "(S)Z"⟩ : MethodName)) hown (mvT hZ (hw _ (List.mem_of_getElem? (i := 8) rfl))) (mvT hZ (hw _ (List.mem_of_getElem? (i := 9) rfl))) (notFace_of_selects (args := #[]) (mvT hZ (hw _ (List.mem_of_getElem? (i := 11) rfl)))) (mvT hZ (hw _ (List.mem_of_getElem? (i := 11) rfl))) (mvT hZ (hw _ (List.mem_of_getElem? (i := 10) rfl))) (by decide) (backOf (W := 0) (rm2_6 l Z a0 hw [] ak lo hi xx h0 n0 Z0 hS hv1 hv2) hZ (hw _ (List.mem_of_getElem? (i := 12) rfl)) (hw _ (List.mem_of_getElem? (i := 2) rfl)) (by decide) (by decide)) q1a q1c (g := (mkF m 26 #[.val (.ref ak), .val (.int lo), .val (.int hi), .val (.int xx), .val (.int (xx.toInt16.toInt32)), .val (.int (1 : Int32))] [(.int (xx.toInt16.toInt32)), (.ref ak)])) rfl (by rw [hml]; rfl) (Steps.refl _) (argsL := [(.int (xx.toInt16.toInt32))]) (rest := []) (lenOf pd_0 rfl) rfl (by show 2 * 0 + _ ≤ _; exact Nat.le_of_eq rfl) (hb hby d1_26) (fun _ _ => ⟨rfl, e0, (by decide : 0 + 0 ≤ _), (by decide : 0 + 0 ≤ _)⟩)
  dsimp only [Pt.U, Pt.locs, Pt.cells, Pt.slots] at X1 l1 y1 z1 st1 hQ1
  subst l1 y1 z1
  obtain ⟨rfl, N1q, e1⟩ := hQ1
  have N1 := Fr.app N0 N1q
  obtain ⟨fs, hr, hrun, hended, hW, hsame⟩ := X1.leave (v := some (.int (1 : Int32))) (fun h => by rw [Bd.returns] at h; cases h)
  refine ⟨_, _, pre0 _ ?_, hrun, hended, _, _, rfl, ?_, ⟨_, rfl⟩, hW, hsame.mono (by decide) (by decide)⟩
  · show Steps p.tables e below (s₁.setTop (mkF m 0 #[.val (.ref ak), .val (.int lo), .val (.int hi), .val (.int xx), .unset, .unset] [])) _
    refine XS.iloadN X0.here hx rfl (hb hby d1_0) rfl ?_
    show Steps p.tables e below (s₁.setTop (mkF m 1 #[.val (.ref ak), .val (.int lo), .val (.int hi), .val (.int xx), .unset, .unset] [(.int xx)])) _
    refine XS.i2s X0.here hx rfl (hb hby d1_1) rfl ?_
    show Steps p.tables e below (s₁.setTop (mkF m 2 #[.val (.ref ak), .val (.int lo), .val (.int hi), .val (.int xx), .unset, .unset] [(.int (xx.toInt16.toInt32))])) _
    refine XS.istore X0.here hx rfl (hb hby d1_2) rfl (l' := #[.val (.ref ak), .val (.int lo), .val (.int hi), .val (.int xx), .val (.int (xx.toInt16.toInt32)), .unset]) rfl ?_
    show Steps p.tables e below (s₁.setTop (mkF m 4 #[.val (.ref ak), .val (.int lo), .val (.int hi), .val (.int xx), .val (.int (xx.toInt16.toInt32)), .unset] [])) _
    refine XS.iload X0.here hx rfl (hb hby d1_4) rfl ?_
    show Steps p.tables e below (s₁.setTop (mkF m 6 #[.val (.ref ak), .val (.int lo), .val (.int hi), .val (.int xx), .val (.int (xx.toInt16.toInt32)), .unset] [(.int (xx.toInt16.toInt32))])) _
    refine XS.iloadN X0.here hx rfl (hb hby d1_6) rfl ?_
    show Steps p.tables e below (s₁.setTop (mkF m 7 #[.val (.ref ak), .val (.int lo), .val (.int hi), .val (.int xx), .val (.int (xx.toInt16.toInt32)), .unset] [(.int lo), (.int (xx.toInt16.toInt32))])) _
    refine XS.icmpNo X0.here hx rfl (hb hby d1_7) rfl (flt hv1).1 ?_
    show Steps p.tables e below (s₁.setTop (mkF m 10 #[.val (.ref ak), .val (.int lo), .val (.int hi), .val (.int xx), .val (.int (xx.toInt16.toInt32)), .unset] [])) _
    refine XS.iload X0.here hx rfl (hb hby d1_10) rfl ?_
    show Steps p.tables e below (s₁.setTop (mkF m 12 #[.val (.ref ak), .val (.int lo), .val (.int hi), .val (.int xx), .val (.int (xx.toInt16.toInt32)), .unset] [(.int (xx.toInt16.toInt32))])) _
    refine XS.iloadN X0.here hx rfl (hb hby d1_12) rfl ?_
    show Steps p.tables e below (s₁.setTop (mkF m 13 #[.val (.ref ak), .val (.int lo), .val (.int hi), .val (.int xx), .val (.int (xx.toInt16.toInt32)), .unset] [(.int hi), (.int (xx.toInt16.toInt32))])) _
    refine XS.icmpNo X0.here hx rfl (hb hby d1_13) rfl (flt hv2).2.2.1 ?_
    show Steps p.tables e below (s₁.setTop (mkF m 16 #[.val (.ref ak), .val (.int lo), .val (.int hi), .val (.int xx), .val (.int (xx.toInt16.toInt32)), .unset] [])) _
    refine XS.iconst X0.here hx rfl (hb hby d1_16) ?_
    show Steps p.tables e below (s₁.setTop (mkF m 17 #[.val (.ref ak), .val (.int lo), .val (.int hi), .val (.int xx), .val (.int (xx.toInt16.toInt32)), .unset] [(.int (1 : Int32))])) _
    refine XS.goto X0.here hx rfl (pc0 := 17) (pc' := 21) rfl (hb hby d1_17) (by decide) (by decide) ?_
    show Steps p.tables e below (s₁.setTop (mkF m 21 #[.val (.ref ak), .val (.int lo), .val (.int hi), .val (.int xx), .val (.int (xx.toInt16.toInt32)), .unset] [(.int (1 : Int32))])) _
    refine XS.istore X0.here hx rfl (hb hby d1_21) rfl (l' := #[.val (.ref ak), .val (.int lo), .val (.int hi), .val (.int xx), .val (.int (xx.toInt16.toInt32)), .val (.int (1 : Int32))]) rfl ?_
    show Steps p.tables e below (s₁.setTop (mkF m 23 #[.val (.ref ak), .val (.int lo), .val (.int hi), .val (.int xx), .val (.int (xx.toInt16.toInt32)), .val (.int (1 : Int32))] [])) _
    refine XS.aloadN X0.here hx rfl (hb hby d1_23) rfl rfl ?_
    show Steps p.tables e below (s₁.setTop (mkF m 24 #[.val (.ref ak), .val (.int lo), .val (.int hi), .val (.int xx), .val (.int (xx.toInt16.toInt32)), .val (.int (1 : Int32))] [(.ref ak)])) _
    refine XS.iload X0.here hx rfl (hb hby d1_24) rfl ?_
    show Steps p.tables e below (s₁.setTop (mkF m 26 #[.val (.ref ak), .val (.int lo), .val (.int hi), .val (.int xx), .val (.int (xx.toInt16.toInt32)), .val (.int (1 : Int32))] [(.int (xx.toInt16.toInt32)), (.ref ak)])) _
    refine st1.trans ?_
    show Steps p.tables e below (T1.setTop (mkF m 29 #[.val (.ref ak), .val (.int lo), .val (.int hi), .val (.int xx), .val (.int (xx.toInt16.toInt32)), .val (.int (1 : Int32))] [(.int (1 : Int32))])) _
    refine XS.iload X1.here hx rfl (hb hby d1_29) rfl ?_
    show Steps p.tables e below (T1.setTop (mkF m 31 #[.val (.ref ak), .val (.int lo), .val (.int hi), .val (.int xx), .val (.int (xx.toInt16.toInt32)), .val (.int (1 : Int32))] [(.int (1 : Int32)), (.int (1 : Int32))])) _
    refine XS.icmpNo X1.here hx rfl (hb hby d1_31) rfl (teq (by decide : (1 : Int32) = (1 : Int32))).2 ?_
    show Steps p.tables e below (T1.setTop (mkF m 34 #[.val (.ref ak), .val (.int lo), .val (.int hi), .val (.int xx), .val (.int (xx.toInt16.toInt32)), .val (.int (1 : Int32))] [])) _
    refine XS.iconst X1.here hx rfl (hb hby d1_34) ?_
    show Steps p.tables e below (T1.setTop (mkF m 35 #[.val (.ref ak), .val (.int lo), .val (.int hi), .val (.int xx), .val (.int (xx.toInt16.toInt32)), .val (.int (1 : Int32))] [(.int (1 : Int32))])) _
    refine XS.goto X1.here hx rfl (pc0 := 35) (pc' := 39) rfl (hb hby d1_35) (by decide) (by decide) ?_
    show Steps p.tables e below (T1.setTop (mkF m 39 #[.val (.ref ak), .val (.int lo), .val (.int hi), .val (.int xx), .val (.int (xx.toInt16.toInt32)), .val (.int (1 : Int32))] [(.int (1 : Int32))])) _
    exact retN X1 hx (t := .boolean) Bd.returns (by simp) (hb hby d1_39) hr
  · exact ⟨rfl, N1, e1⟩
theorem okAll (l : Launch) (Z : State) (a0 : Array Value) (hw : ∀ d ∈ tables_1, d.before a0 Z = true) (ws : List Jvm.Cond) (ak : Addr) (lo hi xx : Int32) (h0 : Heap) (n0 : Nat) (Z0 : n0 ≤ h0.size) (hS : Wk Z h0 ak lo hi) :
    MetFree l (⟨"com/example/keelstream/keelstream/ApiKeySupportsPinLaw", "ok", "(Lcom/example/keelstream/keelstream/ApiKey;III)Z"⟩ : MethodName) (head1 (Jvm.Cond.code (⟨"com/example/keelstream/keelstream/ApiKeySupportsPinLaw", "ok", "(Lcom/example/keelstream/keelstream/ApiKey;III)Z"⟩ : MethodName) method_3_code 6 (some .boolean) :: ws) ({ frames := 1, cells := 0, slots := 0, locals := 13 } : Room)) (fun a U => a = #[(.ref ak), (.int lo), (.int hi), (.int xx)] ∧ Z.Warmed39 U.vm ∧ U.heap = h0) (fun _ _ _ _ _ => True) (fun _ U o U' => ∃ v L, o = .returned v ∧ QP (some (.int (1 : Int32))) h0 n0 v U'.heap L ∧ FrameEnd U o U' L ({ frames := 1, cells := 0, slots := 0, locals := 13 } : Room).cells ({ frames := 1, cells := 0, slots := 0, locals := 13 } : Room).slots) := by
  by_cases hv1 : (xx.toInt16.toInt32) < lo
  · exact rm1_1 l Z a0 hw ws ak lo hi xx h0 n0 Z0 hS hv1
  · by_cases hv2 : hi < (xx.toInt16.toInt32)
    · exact rm1_3 l Z a0 hw ws ak lo hi xx h0 n0 Z0 hS hv1 hv2
    · exact rm1_5 l Z a0 hw ws ak lo hi xx h0 n0 Z0 hS hv1 hv2
def Wd (Z : State) (h : Heap) (a_PRODUCE : Addr) (a_LIST_OFFSETS : Addr) (a_HEARTBEAT : Addr) (a_OFFSET_COMMIT : Addr) (a_FETCH : Addr) (a_FIND_COORDINATOR : Addr) (a_API_VERSIONS : Addr) (a_METADATA : Addr) (a_LEAVE_GROUP : Addr) (a_JOIN_GROUP : Addr) (a_SYNC_GROUP : Addr) (a_OFFSET_FETCH : Addr) : Prop := Sta Z h "com/example/keelstream/keelstream/ApiKey" "PRODUCE" "Lcom/example/keelstream/keelstream/ApiKey;" (.ref a_PRODUCE) ∧ Exa Z h a_PRODUCE "com/example/keelstream/keelstream/ApiKey" ∧ Sta Z h "com/example/keelstream/keelstream/ApiKey" "LIST_OFFSETS" "Lcom/example/keelstream/keelstream/ApiKey;" (.ref a_LIST_OFFSETS) ∧ Exa Z h a_LIST_OFFSETS "com/example/keelstream/keelstream/ApiKey" ∧ Sta Z h "com/example/keelstream/keelstream/ApiKey" "HEARTBEAT" "Lcom/example/keelstream/keelstream/ApiKey;" (.ref a_HEARTBEAT) ∧ Exa Z h a_HEARTBEAT "com/example/keelstream/keelstream/ApiKey" ∧ Sta Z h "com/example/keelstream/keelstream/ApiKey" "OFFSET_COMMIT" "Lcom/example/keelstream/keelstream/ApiKey;" (.ref a_OFFSET_COMMIT) ∧ Exa Z h a_OFFSET_COMMIT "com/example/keelstream/keelstream/ApiKey" ∧ Sta Z h "com/example/keelstream/keelstream/ApiKey" "FETCH" "Lcom/example/keelstream/keelstream/ApiKey;" (.ref a_FETCH) ∧ Exa Z h a_FETCH "com/example/keelstream/keelstream/ApiKey" ∧ Sta Z h "com/example/keelstream/keelstream/ApiKey" "FIND_COORDINATOR" "Lcom/example/keelstream/keelstream/ApiKey;" (.ref a_FIND_COORDINATOR) ∧ Exa Z h a_FIND_COORDINATOR "com/example/keelstream/keelstream/ApiKey" ∧ Sta Z h "com/example/keelstream/keelstream/ApiKey" "API_VERSIONS" "Lcom/example/keelstream/keelstream/ApiKey;" (.ref a_API_VERSIONS) ∧ Exa Z h a_API_VERSIONS "com/example/keelstream/keelstream/ApiKey" ∧ Sta Z h "com/example/keelstream/keelstream/ApiKey" "METADATA" "Lcom/example/keelstream/keelstream/ApiKey;" (.ref a_METADATA) ∧ Exa Z h a_METADATA "com/example/keelstream/keelstream/ApiKey" ∧ Sta Z h "com/example/keelstream/keelstream/ApiKey" "LEAVE_GROUP" "Lcom/example/keelstream/keelstream/ApiKey;" (.ref a_LEAVE_GROUP) ∧ Exa Z h a_LEAVE_GROUP "com/example/keelstream/keelstream/ApiKey" ∧ Sta Z h "com/example/keelstream/keelstream/ApiKey" "JOIN_GROUP" "Lcom/example/keelstream/keelstream/ApiKey;" (.ref a_JOIN_GROUP) ∧ Exa Z h a_JOIN_GROUP "com/example/keelstream/keelstream/ApiKey" ∧ Sta Z h "com/example/keelstream/keelstream/ApiKey" "SYNC_GROUP" "Lcom/example/keelstream/keelstream/ApiKey;" (.ref a_SYNC_GROUP) ∧ Exa Z h a_SYNC_GROUP "com/example/keelstream/keelstream/ApiKey" ∧ Sta Z h "com/example/keelstream/keelstream/ApiKey" "OFFSET_FETCH" "Lcom/example/keelstream/keelstream/ApiKey;" (.ref a_OFFSET_FETCH) ∧ Exa Z h a_OFFSET_FETCH "com/example/keelstream/keelstream/ApiKey" ∧ Fld Z h a_PRODUCE "com/example/keelstream/keelstream/ApiKey" "minVersion" "S" (.int (3 : Int32)) ∧ Fld Z h a_PRODUCE "com/example/keelstream/keelstream/ApiKey" "maxVersion" "S" (.int (3 : Int32)) ∧ Fld Z h a_LIST_OFFSETS "com/example/keelstream/keelstream/ApiKey" "minVersion" "S" (.int (1 : Int32)) ∧ Fld Z h a_LIST_OFFSETS "com/example/keelstream/keelstream/ApiKey" "maxVersion" "S" (.int (1 : Int32)) ∧ Fld Z h a_HEARTBEAT "com/example/keelstream/keelstream/ApiKey" "minVersion" "S" (.int (0 : Int32)) ∧ Fld Z h a_HEARTBEAT "com/example/keelstream/keelstream/ApiKey" "maxVersion" "S" (.int (0 : Int32)) ∧ Fld Z h a_OFFSET_COMMIT "com/example/keelstream/keelstream/ApiKey" "minVersion" "S" (.int (2 : Int32)) ∧ Fld Z h a_OFFSET_COMMIT "com/example/keelstream/keelstream/ApiKey" "maxVersion" "S" (.int (2 : Int32)) ∧ Fld Z h a_FETCH "com/example/keelstream/keelstream/ApiKey" "minVersion" "S" (.int (4 : Int32)) ∧ Fld Z h a_FETCH "com/example/keelstream/keelstream/ApiKey" "maxVersion" "S" (.int (4 : Int32)) ∧ Fld Z h a_FIND_COORDINATOR "com/example/keelstream/keelstream/ApiKey" "minVersion" "S" (.int (0 : Int32)) ∧ Fld Z h a_FIND_COORDINATOR "com/example/keelstream/keelstream/ApiKey" "maxVersion" "S" (.int (1 : Int32)) ∧ Fld Z h a_API_VERSIONS "com/example/keelstream/keelstream/ApiKey" "minVersion" "S" (.int (0 : Int32)) ∧ Fld Z h a_API_VERSIONS "com/example/keelstream/keelstream/ApiKey" "maxVersion" "S" (.int (3 : Int32)) ∧ Fld Z h a_METADATA "com/example/keelstream/keelstream/ApiKey" "minVersion" "S" (.int (0 : Int32)) ∧ Fld Z h a_METADATA "com/example/keelstream/keelstream/ApiKey" "maxVersion" "S" (.int (1 : Int32)) ∧ Fld Z h a_LEAVE_GROUP "com/example/keelstream/keelstream/ApiKey" "minVersion" "S" (.int (0 : Int32)) ∧ Fld Z h a_LEAVE_GROUP "com/example/keelstream/keelstream/ApiKey" "maxVersion" "S" (.int (0 : Int32)) ∧ Fld Z h a_JOIN_GROUP "com/example/keelstream/keelstream/ApiKey" "minVersion" "S" (.int (0 : Int32)) ∧ Fld Z h a_JOIN_GROUP "com/example/keelstream/keelstream/ApiKey" "maxVersion" "S" (.int (1 : Int32)) ∧ Fld Z h a_SYNC_GROUP "com/example/keelstream/keelstream/ApiKey" "minVersion" "S" (.int (0 : Int32)) ∧ Fld Z h a_SYNC_GROUP "com/example/keelstream/keelstream/ApiKey" "maxVersion" "S" (.int (0 : Int32)) ∧ Fld Z h a_OFFSET_FETCH "com/example/keelstream/keelstream/ApiKey" "minVersion" "S" (.int (1 : Int32)) ∧ Fld Z h a_OFFSET_FETCH "com/example/keelstream/keelstream/ApiKey" "maxVersion" "S" (.int (1 : Int32))
theorem pd_1 : parseMethodDescriptor "(Lcom/example/keelstream/keelstream/ApiKey;III)Z" = some ⟨[(.object "com/example/keelstream/keelstream/ApiKey"), .int, .int, .int], some .boolean⟩ := by decide +kernel
set_option maxRecDepth 65536 in
set_option maxHeartbeats 40000000 in
theorem rm0_7 (l : Launch) (Z : State) (a0 : Array Value) (hw : ∀ d ∈ tables_1, d.before a0 Z = true) (ws : List Jvm.Cond) (a_PRODUCE : Addr) (a_LIST_OFFSETS : Addr) (a_HEARTBEAT : Addr) (a_OFFSET_COMMIT : Addr) (a_FETCH : Addr) (a_FIND_COORDINATOR : Addr) (a_API_VERSIONS : Addr) (a_METADATA : Addr) (a_LEAVE_GROUP : Addr) (a_JOIN_GROUP : Addr) (a_SYNC_GROUP : Addr) (a_OFFSET_FETCH : Addr) (p1 : Int32) (p2 : Int32) (h0 : Heap) (n0 : Nat) (Z0 : n0 ≤ h0.size) (hS : Wd Z h0 a_PRODUCE a_LIST_OFFSETS a_HEARTBEAT a_OFFSET_COMMIT a_FETCH a_FIND_COORDINATOR a_API_VERSIONS a_METADATA a_LEAVE_GROUP a_JOIN_GROUP a_SYNC_GROUP a_OFFSET_FETCH) (hi : ((p1 &&& (2147483647 : Int32)) % (12 : Int32)) = (0 : Int32)) :
    MetFree l x (head1 (Jvm.Cond.code x code maxLocals ret :: ws) room_1) (fun a U => a = #[(.int p1), (.int p2)] ∧ Z.Warmed39 U.vm ∧ U.heap = h0) (fun _ _ _ _ _ => True) (fun _ U o U' => ∃ v L, o = .returned v ∧ Q0 n0 v L ∧ FrameEnd U o U' L room_1.cells room_1.slots) := by
  refine MetFree.of_bodySF (plainFor_of_name pn_com_example_keelstream_keelstream_ApiKeySupportsPinLaw) hisR ?_
  intro p e s m args below meth c s₁ Bd hml0 hP hK
  obtain ⟨rfl, hZ, hh⟩ := hP
  have hx := Bd.exec
  have hby := Bd.bytes
  have hml : c.maxLocals = 6 := hml0
  have hown : s.vm.findClass "com/example/keelstream/keelstream/ApiKeySupportsPinLaw" = some m.cls := findClass_of_methodNamed Bd.named
  have X0 : Stand p l e room_1 s m #[(.int p1), (.int p2)] below meth c s₁ [] 0 0 := Stand.of_body Bd
  have e0 : s₁.heap = h0 := by rw [← hh, Bd.state]; rfl
  have N0 := Fr.nil n0
  have pre0 : ∀ t, Steps p.tables e below (s₁.setTop (mkF m 0 #[.val (.int p1), .val (.int p2), .unset, .unset, .unset, .unset] [])) t → Steps p.tables e below (s₁.setTop (entryFrame m #[(.int p1), (.int p2)] maxLocals)) t := fun t k => castTop (by first | (simp [entryFrame, mkF, argsToLocals, Value.category, maxLocals]; done) | rfl) k
  obtain ⟨S_PRODUCE, E_PRODUCE, S_LIST_OFFSETS, E_LIST_OFFSETS, S_HEARTBEAT, E_HEARTBEAT, S_OFFSET_COMMIT, E_OFFSET_COMMIT, S_FETCH, E_FETCH, S_FIND_COORDINATOR, E_FIND_COORDINATOR, S_API_VERSIONS, E_API_VERSIONS, S_METADATA, E_METADATA, S_LEAVE_GROUP, E_LEAVE_GROUP, S_JOIN_GROUP, E_JOIN_GROUP, S_SYNC_GROUP, E_SYNC_GROUP, S_OFFSET_FETCH, E_OFFSET_FETCH, F_PRODUCE_minVersion, F_PRODUCE_maxVersion, F_LIST_OFFSETS_minVersion, F_LIST_OFFSETS_maxVersion, F_HEARTBEAT_minVersion, F_HEARTBEAT_maxVersion, F_OFFSET_COMMIT_minVersion, F_OFFSET_COMMIT_maxVersion, F_FETCH_minVersion, F_FETCH_maxVersion, F_FIND_COORDINATOR_minVersion, F_FIND_COORDINATOR_maxVersion, F_API_VERSIONS_minVersion, F_API_VERSIONS_maxVersion, F_METADATA_minVersion, F_METADATA_maxVersion, F_LEAVE_GROUP_minVersion, F_LEAVE_GROUP_maxVersion, F_JOIN_GROUP_minVersion, F_JOIN_GROUP_maxVersion, F_SYNC_GROUP_minVersion, F_SYNC_GROUP_maxVersion, F_OFFSET_FETCH_minVersion, F_OFFSET_FETCH_maxVersion⟩ := id hS
  obtain ⟨T1, X1, e1, st1⟩ := getS2 X0 hx hZ hown (host := "") (Or.inl (hw _ (List.mem_of_getElem? (i := 1) rfl))) Via.refl e0 S_PRODUCE (g := (mkF m 12 #[.val (.int p1), .val (.int p2), .val (.int (0 : Int32)), .unset, .unset, .unset] [])) rfl (hb hby at_12)
  obtain ⟨_, _, ⟨T2, L2, k2, n2⟩, -, X2, ⟨Lc2, hQ2, l2, y2, z2⟩, st2⟩ := Jvm.LawKit.callS X1 hx (y := (⟨"com/example/keelstream/keelstream/ApiKeySupportsPinLaw", "ok", "(Lcom/example/keelstream/keelstream/ApiKey;III)Z"⟩ : MethodName)) hown (mvT hZ (hw _ (List.mem_of_getElem? (i := 4) rfl))) (mvT hZ (hw _ (List.mem_of_getElem? (i := 5) rfl))) (mvT hZ (hw _ (List.mem_of_getElem? (i := 6) rfl))) (mvT hZ (hw _ (List.mem_of_getElem? (i := 7) rfl))) (by decide) (backOf (W := 0) (okAll l Z a0 hw [] a_PRODUCE (3 : Int32) (3 : Int32) p2 h0 n0 Z0 ⟨E_PRODUCE, F_PRODUCE_minVersion, F_PRODUCE_maxVersion⟩) hZ (hw _ (List.mem_of_getElem? (i := 7) rfl)) (hw _ (List.mem_of_getElem? (i := 6) rfl)) (by decide) (by decide)) (g := (mkF m 226 #[.val (.int p1), .val (.int p2), .val (.int (0 : Int32)), .val (.ref a_PRODUCE), .val (.int (3 : Int32)), .val (.int (3 : Int32))] [(.int p2), (.int (3 : Int32)), (.int (3 : Int32)), (.ref a_PRODUCE)])) rfl (by rw [hml]; rfl) (argsL := [(.ref a_PRODUCE), (.int (3 : Int32)), (.int (3 : Int32)), (.int p2)]) (rest := []) (lenOf pd_1 rfl) rfl (by show 2 * 0 + _ ≤ _; exact Nat.le_of_eq rfl) (hb hby at_226) (fun _ _ => ⟨rfl, e1, (by decide : 0 + 0 ≤ _), (by decide : 0 + 0 ≤ _)⟩)
  dsimp only [Pt.U, Pt.locs, Pt.cells, Pt.slots] at X2 l2 y2 z2 st2 hQ2
  subst l2 y2 z2
  obtain ⟨rfl, N2q, e2⟩ := hQ2
  have N2 := Fr.app N0 N2q
  obtain ⟨_, _, ⟨T3, L3, k3, n3⟩, -, X3, ⟨Lc3, hQ3, l3, y3, z3⟩, st3⟩ := Jvm.LawKit.callS X2 hx (y := (⟨"com/example/keelstream/keelstream/ApiKeySupportsPinLaw", "ok", "(Lcom/example/keelstream/keelstream/ApiKey;III)Z"⟩ : MethodName)) hown (mvT hZ (hw _ (List.mem_of_getElem? (i := 4) rfl))) (mvT hZ (hw _ (List.mem_of_getElem? (i := 5) rfl))) (mvT hZ (hw _ (List.mem_of_getElem? (i := 6) rfl))) (mvT hZ (hw _ (List.mem_of_getElem? (i := 7) rfl))) (by decide) (backOf (W := 0) (okAll l Z a0 hw [] a_PRODUCE (3 : Int32) (3 : Int32) ((3 : Int32) - (1 : Int32)) h0 n0 Z0 ⟨E_PRODUCE, F_PRODUCE_minVersion, F_PRODUCE_maxVersion⟩) hZ (hw _ (List.mem_of_getElem? (i := 7) rfl)) (hw _ (List.mem_of_getElem? (i := 6) rfl)) (by decide) (by decide)) (g := (mkF m 241 #[.val (.int p1), .val (.int p2), .val (.int (0 : Int32)), .val (.ref a_PRODUCE), .val (.int (3 : Int32)), .val (.int (3 : Int32))] [(.int ((3 : Int32) - (1 : Int32))), (.int (3 : Int32)), (.int (3 : Int32)), (.ref a_PRODUCE)])) rfl (by rw [hml]; rfl) (argsL := [(.ref a_PRODUCE), (.int (3 : Int32)), (.int (3 : Int32)), (.int ((3 : Int32) - (1 : Int32)))]) (rest := []) (lenOf pd_1 rfl) rfl (by show 2 * 0 + _ ≤ _; exact Nat.le_of_eq rfl) (hb hby at_241) (fun _ _ => ⟨rfl, e2, (by decide : 0 + 0 ≤ _), (by decide : 0 + 0 ≤ _)⟩)
  dsimp only [Pt.U, Pt.locs, Pt.cells, Pt.slots] at X3 l3 y3 z3 st3 hQ3
  subst l3 y3 z3
  obtain ⟨rfl, N3q, e3⟩ := hQ3
  have N3 := Fr.app N2 N3q
  obtain ⟨_, _, ⟨T4, L4, k4, n4⟩, -, X4, ⟨Lc4, hQ4, l4, y4, z4⟩, st4⟩ := Jvm.LawKit.callS X3 hx (y := (⟨"com/example/keelstream/keelstream/ApiKeySupportsPinLaw", "ok", "(Lcom/example/keelstream/keelstream/ApiKey;III)Z"⟩ : MethodName)) hown (mvT hZ (hw _ (List.mem_of_getElem? (i := 4) rfl))) (mvT hZ (hw _ (List.mem_of_getElem? (i := 5) rfl))) (mvT hZ (hw _ (List.mem_of_getElem? (i := 6) rfl))) (mvT hZ (hw _ (List.mem_of_getElem? (i := 7) rfl))) (by decide) (backOf (W := 0) (okAll l Z a0 hw [] a_PRODUCE (3 : Int32) (3 : Int32) (3 : Int32) h0 n0 Z0 ⟨E_PRODUCE, F_PRODUCE_minVersion, F_PRODUCE_maxVersion⟩) hZ (hw _ (List.mem_of_getElem? (i := 7) rfl)) (hw _ (List.mem_of_getElem? (i := 6) rfl)) (by decide) (by decide)) (g := (mkF m 254 #[.val (.int p1), .val (.int p2), .val (.int (0 : Int32)), .val (.ref a_PRODUCE), .val (.int (3 : Int32)), .val (.int (3 : Int32))] [(.int (3 : Int32)), (.int (3 : Int32)), (.int (3 : Int32)), (.ref a_PRODUCE)])) rfl (by rw [hml]; rfl) (argsL := [(.ref a_PRODUCE), (.int (3 : Int32)), (.int (3 : Int32)), (.int (3 : Int32))]) (rest := []) (lenOf pd_1 rfl) rfl (by show 2 * 0 + _ ≤ _; exact Nat.le_of_eq rfl) (hb hby at_254) (fun _ _ => ⟨rfl, e3, (by decide : 0 + 0 ≤ _), (by decide : 0 + 0 ≤ _)⟩)
  dsimp only [Pt.U, Pt.locs, Pt.cells, Pt.slots] at X4 l4 y4 z4 st4 hQ4
  subst l4 y4 z4
  obtain ⟨rfl, N4q, e4⟩ := hQ4
  have N4 := Fr.app N3 N4q
  obtain ⟨_, _, ⟨T5, L5, k5, n5⟩, -, X5, ⟨Lc5, hQ5, l5, y5, z5⟩, st5⟩ := Jvm.LawKit.callS X4 hx (y := (⟨"com/example/keelstream/keelstream/ApiKeySupportsPinLaw", "ok", "(Lcom/example/keelstream/keelstream/ApiKey;III)Z"⟩ : MethodName)) hown (mvT hZ (hw _ (List.mem_of_getElem? (i := 4) rfl))) (mvT hZ (hw _ (List.mem_of_getElem? (i := 5) rfl))) (mvT hZ (hw _ (List.mem_of_getElem? (i := 6) rfl))) (mvT hZ (hw _ (List.mem_of_getElem? (i := 7) rfl))) (by decide) (backOf (W := 0) (okAll l Z a0 hw [] a_PRODUCE (3 : Int32) (3 : Int32) (3 : Int32) h0 n0 Z0 ⟨E_PRODUCE, F_PRODUCE_minVersion, F_PRODUCE_maxVersion⟩) hZ (hw _ (List.mem_of_getElem? (i := 7) rfl)) (hw _ (List.mem_of_getElem? (i := 6) rfl)) (by decide) (by decide)) (g := (mkF m 267 #[.val (.int p1), .val (.int p2), .val (.int (0 : Int32)), .val (.ref a_PRODUCE), .val (.int (3 : Int32)), .val (.int (3 : Int32))] [(.int (3 : Int32)), (.int (3 : Int32)), (.int (3 : Int32)), (.ref a_PRODUCE)])) rfl (by rw [hml]; rfl) (argsL := [(.ref a_PRODUCE), (.int (3 : Int32)), (.int (3 : Int32)), (.int (3 : Int32))]) (rest := []) (lenOf pd_1 rfl) rfl (by show 2 * 0 + _ ≤ _; exact Nat.le_of_eq rfl) (hb hby at_267) (fun _ _ => ⟨rfl, e4, (by decide : 0 + 0 ≤ _), (by decide : 0 + 0 ≤ _)⟩)
  dsimp only [Pt.U, Pt.locs, Pt.cells, Pt.slots] at X5 l5 y5 z5 st5 hQ5
  subst l5 y5 z5
  obtain ⟨rfl, N5q, e5⟩ := hQ5
  have N5 := Fr.app N4 N5q
  obtain ⟨_, _, ⟨T6, L6, k6, n6⟩, -, X6, ⟨Lc6, hQ6, l6, y6, z6⟩, st6⟩ := Jvm.LawKit.callS X5 hx (y := (⟨"com/example/keelstream/keelstream/ApiKeySupportsPinLaw", "ok", "(Lcom/example/keelstream/keelstream/ApiKey;III)Z"⟩ : MethodName)) hown (mvT hZ (hw _ (List.mem_of_getElem? (i := 4) rfl))) (mvT hZ (hw _ (List.mem_of_getElem? (i := 5) rfl))) (mvT hZ (hw _ (List.mem_of_getElem? (i := 6) rfl))) (mvT hZ (hw _ (List.mem_of_getElem? (i := 7) rfl))) (by decide) (backOf (W := 0) (okAll l Z a0 hw [] a_PRODUCE (3 : Int32) (3 : Int32) ((3 : Int32) + (1 : Int32)) h0 n0 Z0 ⟨E_PRODUCE, F_PRODUCE_minVersion, F_PRODUCE_maxVersion⟩) hZ (hw _ (List.mem_of_getElem? (i := 7) rfl)) (hw _ (List.mem_of_getElem? (i := 6) rfl)) (by decide) (by decide)) (g := (mkF m 282 #[.val (.int p1), .val (.int p2), .val (.int (0 : Int32)), .val (.ref a_PRODUCE), .val (.int (3 : Int32)), .val (.int (3 : Int32))] [(.int ((3 : Int32) + (1 : Int32))), (.int (3 : Int32)), (.int (3 : Int32)), (.ref a_PRODUCE)])) rfl (by rw [hml]; rfl) (argsL := [(.ref a_PRODUCE), (.int (3 : Int32)), (.int (3 : Int32)), (.int ((3 : Int32) + (1 : Int32)))]) (rest := []) (lenOf pd_1 rfl) rfl (by show 2 * 0 + _ ≤ _; exact Nat.le_of_eq rfl) (hb hby at_282) (fun _ _ => ⟨rfl, e5, (by decide : 0 + 0 ≤ _), (by decide : 0 + 0 ≤ _)⟩)
  dsimp only [Pt.U, Pt.locs, Pt.cells, Pt.slots] at X6 l6 y6 z6 st6 hQ6
  subst l6 y6 z6
  obtain ⟨rfl, N6q, e6⟩ := hQ6
  have N6 := Fr.app N5 N6q
  obtain ⟨fs, hr, hrun, hended, hW, hsame⟩ := X6.leave (v := some (.int (1 : Int32))) (fun h => by rw [Bd.returns] at h; cases h)
  refine ⟨_, _, pre0 _ ?_, hrun, hended, _, _, rfl, ?_, ⟨_, rfl⟩, hW, hsame.mono (by decide) (by decide)⟩
  · show Steps p.tables e below (s₁.setTop (mkF m 0 #[.val (.int p1), .val (.int p2), .unset, .unset, .unset, .unset] [])) _
    refine XS.iloadN X0.here hx rfl (hb hby at_0) rfl ?_
    show Steps p.tables e below (s₁.setTop (mkF m 1 #[.val (.int p1), .val (.int p2), .unset, .unset, .unset, .unset] [(.int p1)])) _
    refine X0.ldcInt hx hown (mvT hZ (hw _ (List.mem_of_getElem? (i := 0) rfl))) (g := (mkF m 1 #[.val (.int p1), .val (.int p2), .unset, .unset, .unset, .unset] [(.int p1)])) rfl (hb hby at_1) _ ?_
    show Steps p.tables e below (s₁.setTop (mkF m 3 #[.val (.int p1), .val (.int p2), .unset, .unset, .unset, .unset] [(.int (2147483647 : Int32)), (.int p1)])) _
    refine XS.iand X0.here hx rfl (hb hby at_3) rfl ?_
    show Steps p.tables e below (s₁.setTop (mkF m 4 #[.val (.int p1), .val (.int p2), .unset, .unset, .unset, .unset] [(.int (p1 &&& (2147483647 : Int32)))])) _
    refine XS.bipush X0.here hx rfl (hb hby at_4) ?_
    show Steps p.tables e below (s₁.setTop (mkF m 6 #[.val (.int p1), .val (.int p2), .unset, .unset, .unset, .unset] [(.int (12 : Int32)), (.int (p1 &&& (2147483647 : Int32)))])) _
    refine Jvm.RoadKit.iremM (g := (mkF m 6 #[.val (.int p1), .val (.int p2), .unset, .unset, .unset, .unset] [(.int (12 : Int32)), (.int (p1 &&& (2147483647 : Int32)))])) X0 hx rfl (hb hby at_6) rfl (by decide) ?_
    rw [hi]
    show Steps p.tables e below (s₁.setTop (mkF m 7 #[.val (.int p1), .val (.int p2), .unset, .unset, .unset, .unset] [(.int (0 : Int32))])) _
    refine XS.istoreN X0.here hx rfl (hb hby at_7) rfl (l' := #[.val (.int p1), .val (.int p2), .val (.int (0 : Int32)), .unset, .unset, .unset]) rfl ?_
    show Steps p.tables e below (s₁.setTop (mkF m 8 #[.val (.int p1), .val (.int p2), .val (.int (0 : Int32)), .unset, .unset, .unset] [])) _
    refine XS.iloadN X0.here hx rfl (hb hby at_8) rfl ?_
    show Steps p.tables e below (s₁.setTop (mkF m 9 #[.val (.int p1), .val (.int p2), .val (.int (0 : Int32)), .unset, .unset, .unset] [(.int (0 : Int32))])) _
    refine XS.ifNo X0.here hx rfl (hb hby at_9) rfl ((if0 _ _).trans (teq (by decide : (0 : Int32) = (0 : Int32))).2) ?_
    show Steps p.tables e below (s₁.setTop (mkF m 12 #[.val (.int p1), .val (.int p2), .val (.int (0 : Int32)), .unset, .unset, .unset] [])) _
    refine st1 _ ?_
    show Steps p.tables e below (T1.setTop (mkF m 15 #[.val (.int p1), .val (.int p2), .val (.int (0 : Int32)), .unset, .unset, .unset] [(.ref a_PRODUCE)])) _
    refine XS.astoreN X1.here hx rfl (hb hby at_15) rfl rfl (l' := #[.val (.int p1), .val (.int p2), .val (.int (0 : Int32)), .val (.ref a_PRODUCE), .unset, .unset]) rfl ?_
    show Steps p.tables e below (T1.setTop (mkF m 16 #[.val (.int p1), .val (.int p2), .val (.int (0 : Int32)), .val (.ref a_PRODUCE), .unset, .unset] [])) _
    refine XS.iconst X1.here hx rfl (hb hby at_16) ?_
    show Steps p.tables e below (T1.setTop (mkF m 17 #[.val (.int p1), .val (.int p2), .val (.int (0 : Int32)), .val (.ref a_PRODUCE), .unset, .unset] [(.int (3 : Int32))])) _
    refine XS.istore X1.here hx rfl (hb hby at_17) rfl (l' := #[.val (.int p1), .val (.int p2), .val (.int (0 : Int32)), .val (.ref a_PRODUCE), .val (.int (3 : Int32)), .unset]) rfl ?_
    show Steps p.tables e below (T1.setTop (mkF m 19 #[.val (.int p1), .val (.int p2), .val (.int (0 : Int32)), .val (.ref a_PRODUCE), .val (.int (3 : Int32)), .unset] [])) _
    refine XS.iconst X1.here hx rfl (hb hby at_19) ?_
    show Steps p.tables e below (T1.setTop (mkF m 20 #[.val (.int p1), .val (.int p2), .val (.int (0 : Int32)), .val (.ref a_PRODUCE), .val (.int (3 : Int32)), .unset] [(.int (3 : Int32))])) _
    refine XS.istore X1.here hx rfl (hb hby at_20) rfl (l' := #[.val (.int p1), .val (.int p2), .val (.int (0 : Int32)), .val (.ref a_PRODUCE), .val (.int (3 : Int32)), .val (.int (3 : Int32))]) rfl ?_
    show Steps p.tables e below (T1.setTop (mkF m 22 #[.val (.int p1), .val (.int p2), .val (.int (0 : Int32)), .val (.ref a_PRODUCE), .val (.int (3 : Int32)), .val (.int (3 : Int32))] [])) _
    refine XS.goto X1.here hx rfl (pc0 := 22) (pc' := 220) rfl (hb hby at_22) (by decide) (by decide) ?_
    show Steps p.tables e below (T1.setTop (mkF m 220 #[.val (.int p1), .val (.int p2), .val (.int (0 : Int32)), .val (.ref a_PRODUCE), .val (.int (3 : Int32)), .val (.int (3 : Int32))] [])) _
    refine XS.aloadN X1.here hx rfl (hb hby at_220) rfl rfl ?_
    show Steps p.tables e below (T1.setTop (mkF m 221 #[.val (.int p1), .val (.int p2), .val (.int (0 : Int32)), .val (.ref a_PRODUCE), .val (.int (3 : Int32)), .val (.int (3 : Int32))] [(.ref a_PRODUCE)])) _
    refine XS.iload X1.here hx rfl (hb hby at_221) rfl ?_
    show Steps p.tables e below (T1.setTop (mkF m 223 #[.val (.int p1), .val (.int p2), .val (.int (0 : Int32)), .val (.ref a_PRODUCE), .val (.int (3 : Int32)), .val (.int (3 : Int32))] [(.int (3 : Int32)), (.ref a_PRODUCE)])) _
    refine XS.iload X1.here hx rfl (hb hby at_223) rfl ?_
    show Steps p.tables e below (T1.setTop (mkF m 225 #[.val (.int p1), .val (.int p2), .val (.int (0 : Int32)), .val (.ref a_PRODUCE), .val (.int (3 : Int32)), .val (.int (3 : Int32))] [(.int (3 : Int32)), (.int (3 : Int32)), (.ref a_PRODUCE)])) _
    refine XS.iloadN X1.here hx rfl (hb hby at_225) rfl ?_
    show Steps p.tables e below (T1.setTop (mkF m 226 #[.val (.int p1), .val (.int p2), .val (.int (0 : Int32)), .val (.ref a_PRODUCE), .val (.int (3 : Int32)), .val (.int (3 : Int32))] [(.int p2), (.int (3 : Int32)), (.int (3 : Int32)), (.ref a_PRODUCE)])) _
    refine st2 _ ?_
    show Steps p.tables e below (T2.setTop (mkF m 229 #[.val (.int p1), .val (.int p2), .val (.int (0 : Int32)), .val (.ref a_PRODUCE), .val (.int (3 : Int32)), .val (.int (3 : Int32))] [(.int (1 : Int32))])) _
    refine XS.ifNo X2.here hx rfl (hb hby at_229) rfl ((if0 _ _).trans (feq (by decide : ¬ ((1 : Int32) = (0 : Int32)))).1) ?_
    show Steps p.tables e below (T2.setTop (mkF m 232 #[.val (.int p1), .val (.int p2), .val (.int (0 : Int32)), .val (.ref a_PRODUCE), .val (.int (3 : Int32)), .val (.int (3 : Int32))] [])) _
    refine XS.aloadN X2.here hx rfl (hb hby at_232) rfl rfl ?_
    show Steps p.tables e below (T2.setTop (mkF m 233 #[.val (.int p1), .val (.int p2), .val (.int (0 : Int32)), .val (.ref a_PRODUCE), .val (.int (3 : Int32)), .val (.int (3 : Int32))] [(.ref a_PRODUCE)])) _
    refine XS.iload X2.here hx rfl (hb hby at_233) rfl ?_
    show Steps p.tables e below (T2.setTop (mkF m 235 #[.val (.int p1), .val (.int p2), .val (.int (0 : Int32)), .val (.ref a_PRODUCE), .val (.int (3 : Int32)), .val (.int (3 : Int32))] [(.int (3 : Int32)), (.ref a_PRODUCE)])) _
    refine XS.iload X2.here hx rfl (hb hby at_235) rfl ?_
    show Steps p.tables e below (T2.setTop (mkF m 237 #[.val (.int p1), .val (.int p2), .val (.int (0 : Int32)), .val (.ref a_PRODUCE), .val (.int (3 : Int32)), .val (.int (3 : Int32))] [(.int (3 : Int32)), (.int (3 : Int32)), (.ref a_PRODUCE)])) _
    refine XS.iload X2.here hx rfl (hb hby at_237) rfl ?_
    show Steps p.tables e below (T2.setTop (mkF m 239 #[.val (.int p1), .val (.int p2), .val (.int (0 : Int32)), .val (.ref a_PRODUCE), .val (.int (3 : Int32)), .val (.int (3 : Int32))] [(.int (3 : Int32)), (.int (3 : Int32)), (.int (3 : Int32)), (.ref a_PRODUCE)])) _
    refine XS.iconst X2.here hx rfl (hb hby at_239) ?_
    show Steps p.tables e below (T2.setTop (mkF m 240 #[.val (.int p1), .val (.int p2), .val (.int (0 : Int32)), .val (.ref a_PRODUCE), .val (.int (3 : Int32)), .val (.int (3 : Int32))] [(.int (1 : Int32)), (.int (3 : Int32)), (.int (3 : Int32)), (.int (3 : Int32)), (.ref a_PRODUCE)])) _
    refine XS.isub X2.here hx rfl (hb hby at_240) rfl ?_
    show Steps p.tables e below (T2.setTop (mkF m 241 #[.val (.int p1), .val (.int p2), .val (.int (0 : Int32)), .val (.ref a_PRODUCE), .val (.int (3 : Int32)), .val (.int (3 : Int32))] [(.int ((3 : Int32) - (1 : Int32))), (.int (3 : Int32)), (.int (3 : Int32)), (.ref a_PRODUCE)])) _
    refine st3 _ ?_
    show Steps p.tables e below (T3.setTop (mkF m 244 #[.val (.int p1), .val (.int p2), .val (.int (0 : Int32)), .val (.ref a_PRODUCE), .val (.int (3 : Int32)), .val (.int (3 : Int32))] [(.int (1 : Int32))])) _
    refine XS.ifNo X3.here hx rfl (hb hby at_244) rfl ((if0 _ _).trans (feq (by decide : ¬ ((1 : Int32) = (0 : Int32)))).1) ?_
    show Steps p.tables e below (T3.setTop (mkF m 247 #[.val (.int p1), .val (.int p2), .val (.int (0 : Int32)), .val (.ref a_PRODUCE), .val (.int (3 : Int32)), .val (.int (3 : Int32))] [])) _
    refine XS.aloadN X3.here hx rfl (hb hby at_247) rfl rfl ?_
    show Steps p.tables e below (T3.setTop (mkF m 248 #[.val (.int p1), .val (.int p2), .val (.int (0 : Int32)), .val (.ref a_PRODUCE), .val (.int (3 : Int32)), .val (.int (3 : Int32))] [(.ref a_PRODUCE)])) _
    refine XS.iload X3.here hx rfl (hb hby at_248) rfl ?_
    show Steps p.tables e below (T3.setTop (mkF m 250 #[.val (.int p1), .val (.int p2), .val (.int (0 : Int32)), .val (.ref a_PRODUCE), .val (.int (3 : Int32)), .val (.int (3 : Int32))] [(.int (3 : Int32)), (.ref a_PRODUCE)])) _
    refine XS.iload X3.here hx rfl (hb hby at_250) rfl ?_
    show Steps p.tables e below (T3.setTop (mkF m 252 #[.val (.int p1), .val (.int p2), .val (.int (0 : Int32)), .val (.ref a_PRODUCE), .val (.int (3 : Int32)), .val (.int (3 : Int32))] [(.int (3 : Int32)), (.int (3 : Int32)), (.ref a_PRODUCE)])) _
    refine XS.iload X3.here hx rfl (hb hby at_252) rfl ?_
    show Steps p.tables e below (T3.setTop (mkF m 254 #[.val (.int p1), .val (.int p2), .val (.int (0 : Int32)), .val (.ref a_PRODUCE), .val (.int (3 : Int32)), .val (.int (3 : Int32))] [(.int (3 : Int32)), (.int (3 : Int32)), (.int (3 : Int32)), (.ref a_PRODUCE)])) _
    refine st4 _ ?_
    show Steps p.tables e below (T4.setTop (mkF m 257 #[.val (.int p1), .val (.int p2), .val (.int (0 : Int32)), .val (.ref a_PRODUCE), .val (.int (3 : Int32)), .val (.int (3 : Int32))] [(.int (1 : Int32))])) _
    refine XS.ifNo X4.here hx rfl (hb hby at_257) rfl ((if0 _ _).trans (feq (by decide : ¬ ((1 : Int32) = (0 : Int32)))).1) ?_
    show Steps p.tables e below (T4.setTop (mkF m 260 #[.val (.int p1), .val (.int p2), .val (.int (0 : Int32)), .val (.ref a_PRODUCE), .val (.int (3 : Int32)), .val (.int (3 : Int32))] [])) _
    refine XS.aloadN X4.here hx rfl (hb hby at_260) rfl rfl ?_
    show Steps p.tables e below (T4.setTop (mkF m 261 #[.val (.int p1), .val (.int p2), .val (.int (0 : Int32)), .val (.ref a_PRODUCE), .val (.int (3 : Int32)), .val (.int (3 : Int32))] [(.ref a_PRODUCE)])) _
    refine XS.iload X4.here hx rfl (hb hby at_261) rfl ?_
    show Steps p.tables e below (T4.setTop (mkF m 263 #[.val (.int p1), .val (.int p2), .val (.int (0 : Int32)), .val (.ref a_PRODUCE), .val (.int (3 : Int32)), .val (.int (3 : Int32))] [(.int (3 : Int32)), (.ref a_PRODUCE)])) _
    refine XS.iload X4.here hx rfl (hb hby at_263) rfl ?_
    show Steps p.tables e below (T4.setTop (mkF m 265 #[.val (.int p1), .val (.int p2), .val (.int (0 : Int32)), .val (.ref a_PRODUCE), .val (.int (3 : Int32)), .val (.int (3 : Int32))] [(.int (3 : Int32)), (.int (3 : Int32)), (.ref a_PRODUCE)])) _
    refine XS.iload X4.here hx rfl (hb hby at_265) rfl ?_
    show Steps p.tables e below (T4.setTop (mkF m 267 #[.val (.int p1), .val (.int p2), .val (.int (0 : Int32)), .val (.ref a_PRODUCE), .val (.int (3 : Int32)), .val (.int (3 : Int32))] [(.int (3 : Int32)), (.int (3 : Int32)), (.int (3 : Int32)), (.ref a_PRODUCE)])) _
    refine st5 _ ?_
    show Steps p.tables e below (T5.setTop (mkF m 270 #[.val (.int p1), .val (.int p2), .val (.int (0 : Int32)), .val (.ref a_PRODUCE), .val (.int (3 : Int32)), .val (.int (3 : Int32))] [(.int (1 : Int32))])) _
    refine XS.ifNo X5.here hx rfl (hb hby at_270) rfl ((if0 _ _).trans (feq (by decide : ¬ ((1 : Int32) = (0 : Int32)))).1) ?_
    show Steps p.tables e below (T5.setTop (mkF m 273 #[.val (.int p1), .val (.int p2), .val (.int (0 : Int32)), .val (.ref a_PRODUCE), .val (.int (3 : Int32)), .val (.int (3 : Int32))] [])) _
    refine XS.aloadN X5.here hx rfl (hb hby at_273) rfl rfl ?_
    show Steps p.tables e below (T5.setTop (mkF m 274 #[.val (.int p1), .val (.int p2), .val (.int (0 : Int32)), .val (.ref a_PRODUCE), .val (.int (3 : Int32)), .val (.int (3 : Int32))] [(.ref a_PRODUCE)])) _
    refine XS.iload X5.here hx rfl (hb hby at_274) rfl ?_
    show Steps p.tables e below (T5.setTop (mkF m 276 #[.val (.int p1), .val (.int p2), .val (.int (0 : Int32)), .val (.ref a_PRODUCE), .val (.int (3 : Int32)), .val (.int (3 : Int32))] [(.int (3 : Int32)), (.ref a_PRODUCE)])) _
    refine XS.iload X5.here hx rfl (hb hby at_276) rfl ?_
    show Steps p.tables e below (T5.setTop (mkF m 278 #[.val (.int p1), .val (.int p2), .val (.int (0 : Int32)), .val (.ref a_PRODUCE), .val (.int (3 : Int32)), .val (.int (3 : Int32))] [(.int (3 : Int32)), (.int (3 : Int32)), (.ref a_PRODUCE)])) _
    refine XS.iload X5.here hx rfl (hb hby at_278) rfl ?_
    show Steps p.tables e below (T5.setTop (mkF m 280 #[.val (.int p1), .val (.int p2), .val (.int (0 : Int32)), .val (.ref a_PRODUCE), .val (.int (3 : Int32)), .val (.int (3 : Int32))] [(.int (3 : Int32)), (.int (3 : Int32)), (.int (3 : Int32)), (.ref a_PRODUCE)])) _
    refine XS.iconst X5.here hx rfl (hb hby at_280) ?_
    show Steps p.tables e below (T5.setTop (mkF m 281 #[.val (.int p1), .val (.int p2), .val (.int (0 : Int32)), .val (.ref a_PRODUCE), .val (.int (3 : Int32)), .val (.int (3 : Int32))] [(.int (1 : Int32)), (.int (3 : Int32)), (.int (3 : Int32)), (.int (3 : Int32)), (.ref a_PRODUCE)])) _
    refine XS.iadd X5.here hx rfl (hb hby at_281) rfl ?_
    show Steps p.tables e below (T5.setTop (mkF m 282 #[.val (.int p1), .val (.int p2), .val (.int (0 : Int32)), .val (.ref a_PRODUCE), .val (.int (3 : Int32)), .val (.int (3 : Int32))] [(.int ((3 : Int32) + (1 : Int32))), (.int (3 : Int32)), (.int (3 : Int32)), (.ref a_PRODUCE)])) _
    refine st6 _ ?_
    show Steps p.tables e below (T6.setTop (mkF m 285 #[.val (.int p1), .val (.int p2), .val (.int (0 : Int32)), .val (.ref a_PRODUCE), .val (.int (3 : Int32)), .val (.int (3 : Int32))] [(.int (1 : Int32))])) _
    refine XS.ifNo X6.here hx rfl (hb hby at_285) rfl ((if0 _ _).trans (feq (by decide : ¬ ((1 : Int32) = (0 : Int32)))).1) ?_
    show Steps p.tables e below (T6.setTop (mkF m 288 #[.val (.int p1), .val (.int p2), .val (.int (0 : Int32)), .val (.ref a_PRODUCE), .val (.int (3 : Int32)), .val (.int (3 : Int32))] [])) _
    refine XS.iconst X6.here hx rfl (hb hby at_288) ?_
    show Steps p.tables e below (T6.setTop (mkF m 289 #[.val (.int p1), .val (.int p2), .val (.int (0 : Int32)), .val (.ref a_PRODUCE), .val (.int (3 : Int32)), .val (.int (3 : Int32))] [(.int (1 : Int32))])) _
    refine XS.goto X6.here hx rfl (pc0 := 289) (pc' := 293) rfl (hb hby at_289) (by decide) (by decide) ?_
    show Steps p.tables e below (T6.setTop (mkF m 293 #[.val (.int p1), .val (.int p2), .val (.int (0 : Int32)), .val (.ref a_PRODUCE), .val (.int (3 : Int32)), .val (.int (3 : Int32))] [(.int (1 : Int32))])) _
    exact retN X6 hx (t := .boolean) Bd.returns (by simp) (hb hby at_293) hr
  · exact ⟨rfl, N6⟩
set_option maxRecDepth 65536 in
set_option maxHeartbeats 40000000 in
theorem rm0_8 (l : Launch) (Z : State) (a0 : Array Value) (hw : ∀ d ∈ tables_1, d.before a0 Z = true) (ws : List Jvm.Cond) (a_PRODUCE : Addr) (a_LIST_OFFSETS : Addr) (a_HEARTBEAT : Addr) (a_OFFSET_COMMIT : Addr) (a_FETCH : Addr) (a_FIND_COORDINATOR : Addr) (a_API_VERSIONS : Addr) (a_METADATA : Addr) (a_LEAVE_GROUP : Addr) (a_JOIN_GROUP : Addr) (a_SYNC_GROUP : Addr) (a_OFFSET_FETCH : Addr) (p1 : Int32) (p2 : Int32) (h0 : Heap) (n0 : Nat) (Z0 : n0 ≤ h0.size) (hS : Wd Z h0 a_PRODUCE a_LIST_OFFSETS a_HEARTBEAT a_OFFSET_COMMIT a_FETCH a_FIND_COORDINATOR a_API_VERSIONS a_METADATA a_LEAVE_GROUP a_JOIN_GROUP a_SYNC_GROUP a_OFFSET_FETCH) (hi : ((p1 &&& (2147483647 : Int32)) % (12 : Int32)) = (1 : Int32)) :
    MetFree l x (head1 (Jvm.Cond.code x code maxLocals ret :: ws) room_1) (fun a U => a = #[(.int p1), (.int p2)] ∧ Z.Warmed39 U.vm ∧ U.heap = h0) (fun _ _ _ _ _ => True) (fun _ U o U' => ∃ v L, o = .returned v ∧ Q0 n0 v L ∧ FrameEnd U o U' L room_1.cells room_1.slots) := by
  refine MetFree.of_bodySF (plainFor_of_name pn_com_example_keelstream_keelstream_ApiKeySupportsPinLaw) hisR ?_
  intro p e s m args below meth c s₁ Bd hml0 hP hK
  obtain ⟨rfl, hZ, hh⟩ := hP
  have hx := Bd.exec
  have hby := Bd.bytes
  have hml : c.maxLocals = 6 := hml0
  have hown : s.vm.findClass "com/example/keelstream/keelstream/ApiKeySupportsPinLaw" = some m.cls := findClass_of_methodNamed Bd.named
  have X0 : Stand p l e room_1 s m #[(.int p1), (.int p2)] below meth c s₁ [] 0 0 := Stand.of_body Bd
  have e0 : s₁.heap = h0 := by rw [← hh, Bd.state]; rfl
  have N0 := Fr.nil n0
  have pre0 : ∀ t, Steps p.tables e below (s₁.setTop (mkF m 0 #[.val (.int p1), .val (.int p2), .unset, .unset, .unset, .unset] [])) t → Steps p.tables e below (s₁.setTop (entryFrame m #[(.int p1), (.int p2)] maxLocals)) t := fun t k => castTop (by first | (simp [entryFrame, mkF, argsToLocals, Value.category, maxLocals]; done) | rfl) k
  obtain ⟨S_PRODUCE, E_PRODUCE, S_LIST_OFFSETS, E_LIST_OFFSETS, S_HEARTBEAT, E_HEARTBEAT, S_OFFSET_COMMIT, E_OFFSET_COMMIT, S_FETCH, E_FETCH, S_FIND_COORDINATOR, E_FIND_COORDINATOR, S_API_VERSIONS, E_API_VERSIONS, S_METADATA, E_METADATA, S_LEAVE_GROUP, E_LEAVE_GROUP, S_JOIN_GROUP, E_JOIN_GROUP, S_SYNC_GROUP, E_SYNC_GROUP, S_OFFSET_FETCH, E_OFFSET_FETCH, F_PRODUCE_minVersion, F_PRODUCE_maxVersion, F_LIST_OFFSETS_minVersion, F_LIST_OFFSETS_maxVersion, F_HEARTBEAT_minVersion, F_HEARTBEAT_maxVersion, F_OFFSET_COMMIT_minVersion, F_OFFSET_COMMIT_maxVersion, F_FETCH_minVersion, F_FETCH_maxVersion, F_FIND_COORDINATOR_minVersion, F_FIND_COORDINATOR_maxVersion, F_API_VERSIONS_minVersion, F_API_VERSIONS_maxVersion, F_METADATA_minVersion, F_METADATA_maxVersion, F_LEAVE_GROUP_minVersion, F_LEAVE_GROUP_maxVersion, F_JOIN_GROUP_minVersion, F_JOIN_GROUP_maxVersion, F_SYNC_GROUP_minVersion, F_SYNC_GROUP_maxVersion, F_OFFSET_FETCH_minVersion, F_OFFSET_FETCH_maxVersion⟩ := id hS
  obtain ⟨T1, X1, e1, st1⟩ := getS2 X0 hx hZ hown (host := "") (Or.inl (hw _ (List.mem_of_getElem? (i := 23) rfl))) Via.refl e0 S_FETCH (g := (mkF m 30 #[.val (.int p1), .val (.int p2), .val (.int (1 : Int32)), .unset, .unset, .unset] [])) rfl (hb hby at_30)
  obtain ⟨_, _, ⟨T2, L2, k2, n2⟩, -, X2, ⟨Lc2, hQ2, l2, y2, z2⟩, st2⟩ := Jvm.LawKit.callS X1 hx (y := (⟨"com/example/keelstream/keelstream/ApiKeySupportsPinLaw", "ok", "(Lcom/example/keelstream/keelstream/ApiKey;III)Z"⟩ : MethodName)) hown (mvT hZ (hw _ (List.mem_of_getElem? (i := 4) rfl))) (mvT hZ (hw _ (List.mem_of_getElem? (i := 5) rfl))) (mvT hZ (hw _ (List.mem_of_getElem? (i := 6) rfl))) (mvT hZ (hw _ (List.mem_of_getElem? (i := 7) rfl))) (by decide) (backOf (W := 0) (okAll l Z a0 hw [] a_FETCH (4 : Int32) (4 : Int32) p2 h0 n0 Z0 ⟨E_FETCH, F_FETCH_minVersion, F_FETCH_maxVersion⟩) hZ (hw _ (List.mem_of_getElem? (i := 7) rfl)) (hw _ (List.mem_of_getElem? (i := 6) rfl)) (by decide) (by decide)) (g := (mkF m 226 #[.val (.int p1), .val (.int p2), .val (.int (1 : Int32)), .val (.ref a_FETCH), .val (.int (4 : Int32)), .val (.int (4 : Int32))] [(.int p2), (.int (4 : Int32)), (.int (4 : Int32)), (.ref a_FETCH)])) rfl (by rw [hml]; rfl) (argsL := [(.ref a_FETCH), (.int (4 : Int32)), (.int (4 : Int32)), (.int p2)]) (rest := []) (lenOf pd_1 rfl) rfl (by show 2 * 0 + _ ≤ _; exact Nat.le_of_eq rfl) (hb hby at_226) (fun _ _ => ⟨rfl, e1, (by decide : 0 + 0 ≤ _), (by decide : 0 + 0 ≤ _)⟩)
  dsimp only [Pt.U, Pt.locs, Pt.cells, Pt.slots] at X2 l2 y2 z2 st2 hQ2
  subst l2 y2 z2
  obtain ⟨rfl, N2q, e2⟩ := hQ2
  have N2 := Fr.app N0 N2q
  obtain ⟨_, _, ⟨T3, L3, k3, n3⟩, -, X3, ⟨Lc3, hQ3, l3, y3, z3⟩, st3⟩ := Jvm.LawKit.callS X2 hx (y := (⟨"com/example/keelstream/keelstream/ApiKeySupportsPinLaw", "ok", "(Lcom/example/keelstream/keelstream/ApiKey;III)Z"⟩ : MethodName)) hown (mvT hZ (hw _ (List.mem_of_getElem? (i := 4) rfl))) (mvT hZ (hw _ (List.mem_of_getElem? (i := 5) rfl))) (mvT hZ (hw _ (List.mem_of_getElem? (i := 6) rfl))) (mvT hZ (hw _ (List.mem_of_getElem? (i := 7) rfl))) (by decide) (backOf (W := 0) (okAll l Z a0 hw [] a_FETCH (4 : Int32) (4 : Int32) ((4 : Int32) - (1 : Int32)) h0 n0 Z0 ⟨E_FETCH, F_FETCH_minVersion, F_FETCH_maxVersion⟩) hZ (hw _ (List.mem_of_getElem? (i := 7) rfl)) (hw _ (List.mem_of_getElem? (i := 6) rfl)) (by decide) (by decide)) (g := (mkF m 241 #[.val (.int p1), .val (.int p2), .val (.int (1 : Int32)), .val (.ref a_FETCH), .val (.int (4 : Int32)), .val (.int (4 : Int32))] [(.int ((4 : Int32) - (1 : Int32))), (.int (4 : Int32)), (.int (4 : Int32)), (.ref a_FETCH)])) rfl (by rw [hml]; rfl) (argsL := [(.ref a_FETCH), (.int (4 : Int32)), (.int (4 : Int32)), (.int ((4 : Int32) - (1 : Int32)))]) (rest := []) (lenOf pd_1 rfl) rfl (by show 2 * 0 + _ ≤ _; exact Nat.le_of_eq rfl) (hb hby at_241) (fun _ _ => ⟨rfl, e2, (by decide : 0 + 0 ≤ _), (by decide : 0 + 0 ≤ _)⟩)
  dsimp only [Pt.U, Pt.locs, Pt.cells, Pt.slots] at X3 l3 y3 z3 st3 hQ3
  subst l3 y3 z3
  obtain ⟨rfl, N3q, e3⟩ := hQ3
  have N3 := Fr.app N2 N3q
  obtain ⟨_, _, ⟨T4, L4, k4, n4⟩, -, X4, ⟨Lc4, hQ4, l4, y4, z4⟩, st4⟩ := Jvm.LawKit.callS X3 hx (y := (⟨"com/example/keelstream/keelstream/ApiKeySupportsPinLaw", "ok", "(Lcom/example/keelstream/keelstream/ApiKey;III)Z"⟩ : MethodName)) hown (mvT hZ (hw _ (List.mem_of_getElem? (i := 4) rfl))) (mvT hZ (hw _ (List.mem_of_getElem? (i := 5) rfl))) (mvT hZ (hw _ (List.mem_of_getElem? (i := 6) rfl))) (mvT hZ (hw _ (List.mem_of_getElem? (i := 7) rfl))) (by decide) (backOf (W := 0) (okAll l Z a0 hw [] a_FETCH (4 : Int32) (4 : Int32) (4 : Int32) h0 n0 Z0 ⟨E_FETCH, F_FETCH_minVersion, F_FETCH_maxVersion⟩) hZ (hw _ (List.mem_of_getElem? (i := 7) rfl)) (hw _ (List.mem_of_getElem? (i := 6) rfl)) (by decide) (by decide)) (g := (mkF m 254 #[.val (.int p1), .val (.int p2), .val (.int (1 : Int32)), .val (.ref a_FETCH), .val (.int (4 : Int32)), .val (.int (4 : Int32))] [(.int (4 : Int32)), (.int (4 : Int32)), (.int (4 : Int32)), (.ref a_FETCH)])) rfl (by rw [hml]; rfl) (argsL := [(.ref a_FETCH), (.int (4 : Int32)), (.int (4 : Int32)), (.int (4 : Int32))]) (rest := []) (lenOf pd_1 rfl) rfl (by show 2 * 0 + _ ≤ _; exact Nat.le_of_eq rfl) (hb hby at_254) (fun _ _ => ⟨rfl, e3, (by decide : 0 + 0 ≤ _), (by decide : 0 + 0 ≤ _)⟩)
  dsimp only [Pt.U, Pt.locs, Pt.cells, Pt.slots] at X4 l4 y4 z4 st4 hQ4
  subst l4 y4 z4
  obtain ⟨rfl, N4q, e4⟩ := hQ4
  have N4 := Fr.app N3 N4q
  obtain ⟨_, _, ⟨T5, L5, k5, n5⟩, -, X5, ⟨Lc5, hQ5, l5, y5, z5⟩, st5⟩ := Jvm.LawKit.callS X4 hx (y := (⟨"com/example/keelstream/keelstream/ApiKeySupportsPinLaw", "ok", "(Lcom/example/keelstream/keelstream/ApiKey;III)Z"⟩ : MethodName)) hown (mvT hZ (hw _ (List.mem_of_getElem? (i := 4) rfl))) (mvT hZ (hw _ (List.mem_of_getElem? (i := 5) rfl))) (mvT hZ (hw _ (List.mem_of_getElem? (i := 6) rfl))) (mvT hZ (hw _ (List.mem_of_getElem? (i := 7) rfl))) (by decide) (backOf (W := 0) (okAll l Z a0 hw [] a_FETCH (4 : Int32) (4 : Int32) (4 : Int32) h0 n0 Z0 ⟨E_FETCH, F_FETCH_minVersion, F_FETCH_maxVersion⟩) hZ (hw _ (List.mem_of_getElem? (i := 7) rfl)) (hw _ (List.mem_of_getElem? (i := 6) rfl)) (by decide) (by decide)) (g := (mkF m 267 #[.val (.int p1), .val (.int p2), .val (.int (1 : Int32)), .val (.ref a_FETCH), .val (.int (4 : Int32)), .val (.int (4 : Int32))] [(.int (4 : Int32)), (.int (4 : Int32)), (.int (4 : Int32)), (.ref a_FETCH)])) rfl (by rw [hml]; rfl) (argsL := [(.ref a_FETCH), (.int (4 : Int32)), (.int (4 : Int32)), (.int (4 : Int32))]) (rest := []) (lenOf pd_1 rfl) rfl (by show 2 * 0 + _ ≤ _; exact Nat.le_of_eq rfl) (hb hby at_267) (fun _ _ => ⟨rfl, e4, (by decide : 0 + 0 ≤ _), (by decide : 0 + 0 ≤ _)⟩)
  dsimp only [Pt.U, Pt.locs, Pt.cells, Pt.slots] at X5 l5 y5 z5 st5 hQ5
  subst l5 y5 z5
  obtain ⟨rfl, N5q, e5⟩ := hQ5
  have N5 := Fr.app N4 N5q
  obtain ⟨_, _, ⟨T6, L6, k6, n6⟩, -, X6, ⟨Lc6, hQ6, l6, y6, z6⟩, st6⟩ := Jvm.LawKit.callS X5 hx (y := (⟨"com/example/keelstream/keelstream/ApiKeySupportsPinLaw", "ok", "(Lcom/example/keelstream/keelstream/ApiKey;III)Z"⟩ : MethodName)) hown (mvT hZ (hw _ (List.mem_of_getElem? (i := 4) rfl))) (mvT hZ (hw _ (List.mem_of_getElem? (i := 5) rfl))) (mvT hZ (hw _ (List.mem_of_getElem? (i := 6) rfl))) (mvT hZ (hw _ (List.mem_of_getElem? (i := 7) rfl))) (by decide) (backOf (W := 0) (okAll l Z a0 hw [] a_FETCH (4 : Int32) (4 : Int32) ((4 : Int32) + (1 : Int32)) h0 n0 Z0 ⟨E_FETCH, F_FETCH_minVersion, F_FETCH_maxVersion⟩) hZ (hw _ (List.mem_of_getElem? (i := 7) rfl)) (hw _ (List.mem_of_getElem? (i := 6) rfl)) (by decide) (by decide)) (g := (mkF m 282 #[.val (.int p1), .val (.int p2), .val (.int (1 : Int32)), .val (.ref a_FETCH), .val (.int (4 : Int32)), .val (.int (4 : Int32))] [(.int ((4 : Int32) + (1 : Int32))), (.int (4 : Int32)), (.int (4 : Int32)), (.ref a_FETCH)])) rfl (by rw [hml]; rfl) (argsL := [(.ref a_FETCH), (.int (4 : Int32)), (.int (4 : Int32)), (.int ((4 : Int32) + (1 : Int32)))]) (rest := []) (lenOf pd_1 rfl) rfl (by show 2 * 0 + _ ≤ _; exact Nat.le_of_eq rfl) (hb hby at_282) (fun _ _ => ⟨rfl, e5, (by decide : 0 + 0 ≤ _), (by decide : 0 + 0 ≤ _)⟩)
  dsimp only [Pt.U, Pt.locs, Pt.cells, Pt.slots] at X6 l6 y6 z6 st6 hQ6
  subst l6 y6 z6
  obtain ⟨rfl, N6q, e6⟩ := hQ6
  have N6 := Fr.app N5 N6q
  obtain ⟨fs, hr, hrun, hended, hW, hsame⟩ := X6.leave (v := some (.int (1 : Int32))) (fun h => by rw [Bd.returns] at h; cases h)
  refine ⟨_, _, pre0 _ ?_, hrun, hended, _, _, rfl, ?_, ⟨_, rfl⟩, hW, hsame.mono (by decide) (by decide)⟩
  · show Steps p.tables e below (s₁.setTop (mkF m 0 #[.val (.int p1), .val (.int p2), .unset, .unset, .unset, .unset] [])) _
    refine XS.iloadN X0.here hx rfl (hb hby at_0) rfl ?_
    show Steps p.tables e below (s₁.setTop (mkF m 1 #[.val (.int p1), .val (.int p2), .unset, .unset, .unset, .unset] [(.int p1)])) _
    refine X0.ldcInt hx hown (mvT hZ (hw _ (List.mem_of_getElem? (i := 0) rfl))) (g := (mkF m 1 #[.val (.int p1), .val (.int p2), .unset, .unset, .unset, .unset] [(.int p1)])) rfl (hb hby at_1) _ ?_
    show Steps p.tables e below (s₁.setTop (mkF m 3 #[.val (.int p1), .val (.int p2), .unset, .unset, .unset, .unset] [(.int (2147483647 : Int32)), (.int p1)])) _
    refine XS.iand X0.here hx rfl (hb hby at_3) rfl ?_
    show Steps p.tables e below (s₁.setTop (mkF m 4 #[.val (.int p1), .val (.int p2), .unset, .unset, .unset, .unset] [(.int (p1 &&& (2147483647 : Int32)))])) _
    refine XS.bipush X0.here hx rfl (hb hby at_4) ?_
    show Steps p.tables e below (s₁.setTop (mkF m 6 #[.val (.int p1), .val (.int p2), .unset, .unset, .unset, .unset] [(.int (12 : Int32)), (.int (p1 &&& (2147483647 : Int32)))])) _
    refine Jvm.RoadKit.iremM (g := (mkF m 6 #[.val (.int p1), .val (.int p2), .unset, .unset, .unset, .unset] [(.int (12 : Int32)), (.int (p1 &&& (2147483647 : Int32)))])) X0 hx rfl (hb hby at_6) rfl (by decide) ?_
    rw [hi]
    show Steps p.tables e below (s₁.setTop (mkF m 7 #[.val (.int p1), .val (.int p2), .unset, .unset, .unset, .unset] [(.int (1 : Int32))])) _
    refine XS.istoreN X0.here hx rfl (hb hby at_7) rfl (l' := #[.val (.int p1), .val (.int p2), .val (.int (1 : Int32)), .unset, .unset, .unset]) rfl ?_
    show Steps p.tables e below (s₁.setTop (mkF m 8 #[.val (.int p1), .val (.int p2), .val (.int (1 : Int32)), .unset, .unset, .unset] [])) _
    refine XS.iloadN X0.here hx rfl (hb hby at_8) rfl ?_
    show Steps p.tables e below (s₁.setTop (mkF m 9 #[.val (.int p1), .val (.int p2), .val (.int (1 : Int32)), .unset, .unset, .unset] [(.int (1 : Int32))])) _
    refine XS.ifYes X0.here hx rfl (pc0 := 9) (pc' := 25) rfl (hb hby at_9) rfl ((if0 _ _).trans (feq (by decide : ¬ ((1 : Int32) = (0 : Int32)))).2) (by decide) (by decide) ?_
    show Steps p.tables e below (s₁.setTop (mkF m 25 #[.val (.int p1), .val (.int p2), .val (.int (1 : Int32)), .unset, .unset, .unset] [])) _
    refine XS.iloadN X0.here hx rfl (hb hby at_25) rfl ?_
    show Steps p.tables e below (s₁.setTop (mkF m 26 #[.val (.int p1), .val (.int p2), .val (.int (1 : Int32)), .unset, .unset, .unset] [(.int (1 : Int32))])) _
    refine XS.iconst X0.here hx rfl (hb hby at_26) ?_
    show Steps p.tables e below (s₁.setTop (mkF m 27 #[.val (.int p1), .val (.int p2), .val (.int (1 : Int32)), .unset, .unset, .unset] [(.int (1 : Int32)), (.int (1 : Int32))])) _
    refine XS.icmpNo X0.here hx rfl (hb hby at_27) rfl (teq (by decide : (1 : Int32) = (1 : Int32))).2 ?_
    show Steps p.tables e below (s₁.setTop (mkF m 30 #[.val (.int p1), .val (.int p2), .val (.int (1 : Int32)), .unset, .unset, .unset] [])) _
    refine st1 _ ?_
    show Steps p.tables e below (T1.setTop (mkF m 33 #[.val (.int p1), .val (.int p2), .val (.int (1 : Int32)), .unset, .unset, .unset] [(.ref a_FETCH)])) _
    refine XS.astoreN X1.here hx rfl (hb hby at_33) rfl rfl (l' := #[.val (.int p1), .val (.int p2), .val (.int (1 : Int32)), .val (.ref a_FETCH), .unset, .unset]) rfl ?_
    show Steps p.tables e below (T1.setTop (mkF m 34 #[.val (.int p1), .val (.int p2), .val (.int (1 : Int32)), .val (.ref a_FETCH), .unset, .unset] [])) _
    refine XS.iconst X1.here hx rfl (hb hby at_34) ?_
    show Steps p.tables e below (T1.setTop (mkF m 35 #[.val (.int p1), .val (.int p2), .val (.int (1 : Int32)), .val (.ref a_FETCH), .unset, .unset] [(.int (4 : Int32))])) _
    refine XS.istore X1.here hx rfl (hb hby at_35) rfl (l' := #[.val (.int p1), .val (.int p2), .val (.int (1 : Int32)), .val (.ref a_FETCH), .val (.int (4 : Int32)), .unset]) rfl ?_
    show Steps p.tables e below (T1.setTop (mkF m 37 #[.val (.int p1), .val (.int p2), .val (.int (1 : Int32)), .val (.ref a_FETCH), .val (.int (4 : Int32)), .unset] [])) _
    refine XS.iconst X1.here hx rfl (hb hby at_37) ?_
    show Steps p.tables e below (T1.setTop (mkF m 38 #[.val (.int p1), .val (.int p2), .val (.int (1 : Int32)), .val (.ref a_FETCH), .val (.int (4 : Int32)), .unset] [(.int (4 : Int32))])) _
    refine XS.istore X1.here hx rfl (hb hby at_38) rfl (l' := #[.val (.int p1), .val (.int p2), .val (.int (1 : Int32)), .val (.ref a_FETCH), .val (.int (4 : Int32)), .val (.int (4 : Int32))]) rfl ?_
    show Steps p.tables e below (T1.setTop (mkF m 40 #[.val (.int p1), .val (.int p2), .val (.int (1 : Int32)), .val (.ref a_FETCH), .val (.int (4 : Int32)), .val (.int (4 : Int32))] [])) _
    refine XS.goto X1.here hx rfl (pc0 := 40) (pc' := 220) rfl (hb hby at_40) (by decide) (by decide) ?_
    show Steps p.tables e below (T1.setTop (mkF m 220 #[.val (.int p1), .val (.int p2), .val (.int (1 : Int32)), .val (.ref a_FETCH), .val (.int (4 : Int32)), .val (.int (4 : Int32))] [])) _
    refine XS.aloadN X1.here hx rfl (hb hby at_220) rfl rfl ?_
    show Steps p.tables e below (T1.setTop (mkF m 221 #[.val (.int p1), .val (.int p2), .val (.int (1 : Int32)), .val (.ref a_FETCH), .val (.int (4 : Int32)), .val (.int (4 : Int32))] [(.ref a_FETCH)])) _
    refine XS.iload X1.here hx rfl (hb hby at_221) rfl ?_
    show Steps p.tables e below (T1.setTop (mkF m 223 #[.val (.int p1), .val (.int p2), .val (.int (1 : Int32)), .val (.ref a_FETCH), .val (.int (4 : Int32)), .val (.int (4 : Int32))] [(.int (4 : Int32)), (.ref a_FETCH)])) _
    refine XS.iload X1.here hx rfl (hb hby at_223) rfl ?_
    show Steps p.tables e below (T1.setTop (mkF m 225 #[.val (.int p1), .val (.int p2), .val (.int (1 : Int32)), .val (.ref a_FETCH), .val (.int (4 : Int32)), .val (.int (4 : Int32))] [(.int (4 : Int32)), (.int (4 : Int32)), (.ref a_FETCH)])) _
    refine XS.iloadN X1.here hx rfl (hb hby at_225) rfl ?_
    show Steps p.tables e below (T1.setTop (mkF m 226 #[.val (.int p1), .val (.int p2), .val (.int (1 : Int32)), .val (.ref a_FETCH), .val (.int (4 : Int32)), .val (.int (4 : Int32))] [(.int p2), (.int (4 : Int32)), (.int (4 : Int32)), (.ref a_FETCH)])) _
    refine st2 _ ?_
    show Steps p.tables e below (T2.setTop (mkF m 229 #[.val (.int p1), .val (.int p2), .val (.int (1 : Int32)), .val (.ref a_FETCH), .val (.int (4 : Int32)), .val (.int (4 : Int32))] [(.int (1 : Int32))])) _
    refine XS.ifNo X2.here hx rfl (hb hby at_229) rfl ((if0 _ _).trans (feq (by decide : ¬ ((1 : Int32) = (0 : Int32)))).1) ?_
    show Steps p.tables e below (T2.setTop (mkF m 232 #[.val (.int p1), .val (.int p2), .val (.int (1 : Int32)), .val (.ref a_FETCH), .val (.int (4 : Int32)), .val (.int (4 : Int32))] [])) _
    refine XS.aloadN X2.here hx rfl (hb hby at_232) rfl rfl ?_
    show Steps p.tables e below (T2.setTop (mkF m 233 #[.val (.int p1), .val (.int p2), .val (.int (1 : Int32)), .val (.ref a_FETCH), .val (.int (4 : Int32)), .val (.int (4 : Int32))] [(.ref a_FETCH)])) _
    refine XS.iload X2.here hx rfl (hb hby at_233) rfl ?_
    show Steps p.tables e below (T2.setTop (mkF m 235 #[.val (.int p1), .val (.int p2), .val (.int (1 : Int32)), .val (.ref a_FETCH), .val (.int (4 : Int32)), .val (.int (4 : Int32))] [(.int (4 : Int32)), (.ref a_FETCH)])) _
    refine XS.iload X2.here hx rfl (hb hby at_235) rfl ?_
    show Steps p.tables e below (T2.setTop (mkF m 237 #[.val (.int p1), .val (.int p2), .val (.int (1 : Int32)), .val (.ref a_FETCH), .val (.int (4 : Int32)), .val (.int (4 : Int32))] [(.int (4 : Int32)), (.int (4 : Int32)), (.ref a_FETCH)])) _
    refine XS.iload X2.here hx rfl (hb hby at_237) rfl ?_
    show Steps p.tables e below (T2.setTop (mkF m 239 #[.val (.int p1), .val (.int p2), .val (.int (1 : Int32)), .val (.ref a_FETCH), .val (.int (4 : Int32)), .val (.int (4 : Int32))] [(.int (4 : Int32)), (.int (4 : Int32)), (.int (4 : Int32)), (.ref a_FETCH)])) _
    refine XS.iconst X2.here hx rfl (hb hby at_239) ?_
    show Steps p.tables e below (T2.setTop (mkF m 240 #[.val (.int p1), .val (.int p2), .val (.int (1 : Int32)), .val (.ref a_FETCH), .val (.int (4 : Int32)), .val (.int (4 : Int32))] [(.int (1 : Int32)), (.int (4 : Int32)), (.int (4 : Int32)), (.int (4 : Int32)), (.ref a_FETCH)])) _
    refine XS.isub X2.here hx rfl (hb hby at_240) rfl ?_
    show Steps p.tables e below (T2.setTop (mkF m 241 #[.val (.int p1), .val (.int p2), .val (.int (1 : Int32)), .val (.ref a_FETCH), .val (.int (4 : Int32)), .val (.int (4 : Int32))] [(.int ((4 : Int32) - (1 : Int32))), (.int (4 : Int32)), (.int (4 : Int32)), (.ref a_FETCH)])) _
    refine st3 _ ?_
    show Steps p.tables e below (T3.setTop (mkF m 244 #[.val (.int p1), .val (.int p2), .val (.int (1 : Int32)), .val (.ref a_FETCH), .val (.int (4 : Int32)), .val (.int (4 : Int32))] [(.int (1 : Int32))])) _
    refine XS.ifNo X3.here hx rfl (hb hby at_244) rfl ((if0 _ _).trans (feq (by decide : ¬ ((1 : Int32) = (0 : Int32)))).1) ?_
    show Steps p.tables e below (T3.setTop (mkF m 247 #[.val (.int p1), .val (.int p2), .val (.int (1 : Int32)), .val (.ref a_FETCH), .val (.int (4 : Int32)), .val (.int (4 : Int32))] [])) _
    refine XS.aloadN X3.here hx rfl (hb hby at_247) rfl rfl ?_
    show Steps p.tables e below (T3.setTop (mkF m 248 #[.val (.int p1), .val (.int p2), .val (.int (1 : Int32)), .val (.ref a_FETCH), .val (.int (4 : Int32)), .val (.int (4 : Int32))] [(.ref a_FETCH)])) _
    refine XS.iload X3.here hx rfl (hb hby at_248) rfl ?_
    show Steps p.tables e below (T3.setTop (mkF m 250 #[.val (.int p1), .val (.int p2), .val (.int (1 : Int32)), .val (.ref a_FETCH), .val (.int (4 : Int32)), .val (.int (4 : Int32))] [(.int (4 : Int32)), (.ref a_FETCH)])) _
    refine XS.iload X3.here hx rfl (hb hby at_250) rfl ?_
    show Steps p.tables e below (T3.setTop (mkF m 252 #[.val (.int p1), .val (.int p2), .val (.int (1 : Int32)), .val (.ref a_FETCH), .val (.int (4 : Int32)), .val (.int (4 : Int32))] [(.int (4 : Int32)), (.int (4 : Int32)), (.ref a_FETCH)])) _
    refine XS.iload X3.here hx rfl (hb hby at_252) rfl ?_
    show Steps p.tables e below (T3.setTop (mkF m 254 #[.val (.int p1), .val (.int p2), .val (.int (1 : Int32)), .val (.ref a_FETCH), .val (.int (4 : Int32)), .val (.int (4 : Int32))] [(.int (4 : Int32)), (.int (4 : Int32)), (.int (4 : Int32)), (.ref a_FETCH)])) _
    refine st4 _ ?_
    show Steps p.tables e below (T4.setTop (mkF m 257 #[.val (.int p1), .val (.int p2), .val (.int (1 : Int32)), .val (.ref a_FETCH), .val (.int (4 : Int32)), .val (.int (4 : Int32))] [(.int (1 : Int32))])) _
    refine XS.ifNo X4.here hx rfl (hb hby at_257) rfl ((if0 _ _).trans (feq (by decide : ¬ ((1 : Int32) = (0 : Int32)))).1) ?_
    show Steps p.tables e below (T4.setTop (mkF m 260 #[.val (.int p1), .val (.int p2), .val (.int (1 : Int32)), .val (.ref a_FETCH), .val (.int (4 : Int32)), .val (.int (4 : Int32))] [])) _
    refine XS.aloadN X4.here hx rfl (hb hby at_260) rfl rfl ?_
    show Steps p.tables e below (T4.setTop (mkF m 261 #[.val (.int p1), .val (.int p2), .val (.int (1 : Int32)), .val (.ref a_FETCH), .val (.int (4 : Int32)), .val (.int (4 : Int32))] [(.ref a_FETCH)])) _
    refine XS.iload X4.here hx rfl (hb hby at_261) rfl ?_
    show Steps p.tables e below (T4.setTop (mkF m 263 #[.val (.int p1), .val (.int p2), .val (.int (1 : Int32)), .val (.ref a_FETCH), .val (.int (4 : Int32)), .val (.int (4 : Int32))] [(.int (4 : Int32)), (.ref a_FETCH)])) _
    refine XS.iload X4.here hx rfl (hb hby at_263) rfl ?_
    show Steps p.tables e below (T4.setTop (mkF m 265 #[.val (.int p1), .val (.int p2), .val (.int (1 : Int32)), .val (.ref a_FETCH), .val (.int (4 : Int32)), .val (.int (4 : Int32))] [(.int (4 : Int32)), (.int (4 : Int32)), (.ref a_FETCH)])) _
    refine XS.iload X4.here hx rfl (hb hby at_265) rfl ?_
    show Steps p.tables e below (T4.setTop (mkF m 267 #[.val (.int p1), .val (.int p2), .val (.int (1 : Int32)), .val (.ref a_FETCH), .val (.int (4 : Int32)), .val (.int (4 : Int32))] [(.int (4 : Int32)), (.int (4 : Int32)), (.int (4 : Int32)), (.ref a_FETCH)])) _
    refine st5 _ ?_
    show Steps p.tables e below (T5.setTop (mkF m 270 #[.val (.int p1), .val (.int p2), .val (.int (1 : Int32)), .val (.ref a_FETCH), .val (.int (4 : Int32)), .val (.int (4 : Int32))] [(.int (1 : Int32))])) _
    refine XS.ifNo X5.here hx rfl (hb hby at_270) rfl ((if0 _ _).trans (feq (by decide : ¬ ((1 : Int32) = (0 : Int32)))).1) ?_
    show Steps p.tables e below (T5.setTop (mkF m 273 #[.val (.int p1), .val (.int p2), .val (.int (1 : Int32)), .val (.ref a_FETCH), .val (.int (4 : Int32)), .val (.int (4 : Int32))] [])) _
    refine XS.aloadN X5.here hx rfl (hb hby at_273) rfl rfl ?_
    show Steps p.tables e below (T5.setTop (mkF m 274 #[.val (.int p1), .val (.int p2), .val (.int (1 : Int32)), .val (.ref a_FETCH), .val (.int (4 : Int32)), .val (.int (4 : Int32))] [(.ref a_FETCH)])) _
    refine XS.iload X5.here hx rfl (hb hby at_274) rfl ?_
    show Steps p.tables e below (T5.setTop (mkF m 276 #[.val (.int p1), .val (.int p2), .val (.int (1 : Int32)), .val (.ref a_FETCH), .val (.int (4 : Int32)), .val (.int (4 : Int32))] [(.int (4 : Int32)), (.ref a_FETCH)])) _
    refine XS.iload X5.here hx rfl (hb hby at_276) rfl ?_
    show Steps p.tables e below (T5.setTop (mkF m 278 #[.val (.int p1), .val (.int p2), .val (.int (1 : Int32)), .val (.ref a_FETCH), .val (.int (4 : Int32)), .val (.int (4 : Int32))] [(.int (4 : Int32)), (.int (4 : Int32)), (.ref a_FETCH)])) _
    refine XS.iload X5.here hx rfl (hb hby at_278) rfl ?_
    show Steps p.tables e below (T5.setTop (mkF m 280 #[.val (.int p1), .val (.int p2), .val (.int (1 : Int32)), .val (.ref a_FETCH), .val (.int (4 : Int32)), .val (.int (4 : Int32))] [(.int (4 : Int32)), (.int (4 : Int32)), (.int (4 : Int32)), (.ref a_FETCH)])) _
    refine XS.iconst X5.here hx rfl (hb hby at_280) ?_
    show Steps p.tables e below (T5.setTop (mkF m 281 #[.val (.int p1), .val (.int p2), .val (.int (1 : Int32)), .val (.ref a_FETCH), .val (.int (4 : Int32)), .val (.int (4 : Int32))] [(.int (1 : Int32)), (.int (4 : Int32)), (.int (4 : Int32)), (.int (4 : Int32)), (.ref a_FETCH)])) _
    refine XS.iadd X5.here hx rfl (hb hby at_281) rfl ?_
    show Steps p.tables e below (T5.setTop (mkF m 282 #[.val (.int p1), .val (.int p2), .val (.int (1 : Int32)), .val (.ref a_FETCH), .val (.int (4 : Int32)), .val (.int (4 : Int32))] [(.int ((4 : Int32) + (1 : Int32))), (.int (4 : Int32)), (.int (4 : Int32)), (.ref a_FETCH)])) _
    refine st6 _ ?_
    show Steps p.tables e below (T6.setTop (mkF m 285 #[.val (.int p1), .val (.int p2), .val (.int (1 : Int32)), .val (.ref a_FETCH), .val (.int (4 : Int32)), .val (.int (4 : Int32))] [(.int (1 : Int32))])) _
    refine XS.ifNo X6.here hx rfl (hb hby at_285) rfl ((if0 _ _).trans (feq (by decide : ¬ ((1 : Int32) = (0 : Int32)))).1) ?_
    show Steps p.tables e below (T6.setTop (mkF m 288 #[.val (.int p1), .val (.int p2), .val (.int (1 : Int32)), .val (.ref a_FETCH), .val (.int (4 : Int32)), .val (.int (4 : Int32))] [])) _
    refine XS.iconst X6.here hx rfl (hb hby at_288) ?_
    show Steps p.tables e below (T6.setTop (mkF m 289 #[.val (.int p1), .val (.int p2), .val (.int (1 : Int32)), .val (.ref a_FETCH), .val (.int (4 : Int32)), .val (.int (4 : Int32))] [(.int (1 : Int32))])) _
    refine XS.goto X6.here hx rfl (pc0 := 289) (pc' := 293) rfl (hb hby at_289) (by decide) (by decide) ?_
    show Steps p.tables e below (T6.setTop (mkF m 293 #[.val (.int p1), .val (.int p2), .val (.int (1 : Int32)), .val (.ref a_FETCH), .val (.int (4 : Int32)), .val (.int (4 : Int32))] [(.int (1 : Int32))])) _
    exact retN X6 hx (t := .boolean) Bd.returns (by simp) (hb hby at_293) hr
  · exact ⟨rfl, N6⟩
set_option maxRecDepth 65536 in
set_option maxHeartbeats 40000000 in
theorem rm0_9 (l : Launch) (Z : State) (a0 : Array Value) (hw : ∀ d ∈ tables_1, d.before a0 Z = true) (ws : List Jvm.Cond) (a_PRODUCE : Addr) (a_LIST_OFFSETS : Addr) (a_HEARTBEAT : Addr) (a_OFFSET_COMMIT : Addr) (a_FETCH : Addr) (a_FIND_COORDINATOR : Addr) (a_API_VERSIONS : Addr) (a_METADATA : Addr) (a_LEAVE_GROUP : Addr) (a_JOIN_GROUP : Addr) (a_SYNC_GROUP : Addr) (a_OFFSET_FETCH : Addr) (p1 : Int32) (p2 : Int32) (h0 : Heap) (n0 : Nat) (Z0 : n0 ≤ h0.size) (hS : Wd Z h0 a_PRODUCE a_LIST_OFFSETS a_HEARTBEAT a_OFFSET_COMMIT a_FETCH a_FIND_COORDINATOR a_API_VERSIONS a_METADATA a_LEAVE_GROUP a_JOIN_GROUP a_SYNC_GROUP a_OFFSET_FETCH) (hi : ((p1 &&& (2147483647 : Int32)) % (12 : Int32)) = (2 : Int32)) :
    MetFree l x (head1 (Jvm.Cond.code x code maxLocals ret :: ws) room_1) (fun a U => a = #[(.int p1), (.int p2)] ∧ Z.Warmed39 U.vm ∧ U.heap = h0) (fun _ _ _ _ _ => True) (fun _ U o U' => ∃ v L, o = .returned v ∧ Q0 n0 v L ∧ FrameEnd U o U' L room_1.cells room_1.slots) := by
  refine MetFree.of_bodySF (plainFor_of_name pn_com_example_keelstream_keelstream_ApiKeySupportsPinLaw) hisR ?_
  intro p e s m args below meth c s₁ Bd hml0 hP hK
  obtain ⟨rfl, hZ, hh⟩ := hP
  have hx := Bd.exec
  have hby := Bd.bytes
  have hml : c.maxLocals = 6 := hml0
  have hown : s.vm.findClass "com/example/keelstream/keelstream/ApiKeySupportsPinLaw" = some m.cls := findClass_of_methodNamed Bd.named
  have X0 : Stand p l e room_1 s m #[(.int p1), (.int p2)] below meth c s₁ [] 0 0 := Stand.of_body Bd
  have e0 : s₁.heap = h0 := by rw [← hh, Bd.state]; rfl
  have N0 := Fr.nil n0
  have pre0 : ∀ t, Steps p.tables e below (s₁.setTop (mkF m 0 #[.val (.int p1), .val (.int p2), .unset, .unset, .unset, .unset] [])) t → Steps p.tables e below (s₁.setTop (entryFrame m #[(.int p1), (.int p2)] maxLocals)) t := fun t k => castTop (by first | (simp [entryFrame, mkF, argsToLocals, Value.category, maxLocals]; done) | rfl) k
  obtain ⟨S_PRODUCE, E_PRODUCE, S_LIST_OFFSETS, E_LIST_OFFSETS, S_HEARTBEAT, E_HEARTBEAT, S_OFFSET_COMMIT, E_OFFSET_COMMIT, S_FETCH, E_FETCH, S_FIND_COORDINATOR, E_FIND_COORDINATOR, S_API_VERSIONS, E_API_VERSIONS, S_METADATA, E_METADATA, S_LEAVE_GROUP, E_LEAVE_GROUP, S_JOIN_GROUP, E_JOIN_GROUP, S_SYNC_GROUP, E_SYNC_GROUP, S_OFFSET_FETCH, E_OFFSET_FETCH, F_PRODUCE_minVersion, F_PRODUCE_maxVersion, F_LIST_OFFSETS_minVersion, F_LIST_OFFSETS_maxVersion, F_HEARTBEAT_minVersion, F_HEARTBEAT_maxVersion, F_OFFSET_COMMIT_minVersion, F_OFFSET_COMMIT_maxVersion, F_FETCH_minVersion, F_FETCH_maxVersion, F_FIND_COORDINATOR_minVersion, F_FIND_COORDINATOR_maxVersion, F_API_VERSIONS_minVersion, F_API_VERSIONS_maxVersion, F_METADATA_minVersion, F_METADATA_maxVersion, F_LEAVE_GROUP_minVersion, F_LEAVE_GROUP_maxVersion, F_JOIN_GROUP_minVersion, F_JOIN_GROUP_maxVersion, F_SYNC_GROUP_minVersion, F_SYNC_GROUP_maxVersion, F_OFFSET_FETCH_minVersion, F_OFFSET_FETCH_maxVersion⟩ := id hS
  obtain ⟨T1, X1, e1, st1⟩ := getS2 X0 hx hZ hown (host := "") (Or.inl (hw _ (List.mem_of_getElem? (i := 17) rfl))) Via.refl e0 S_LIST_OFFSETS (g := (mkF m 48 #[.val (.int p1), .val (.int p2), .val (.int (2 : Int32)), .unset, .unset, .unset] [])) rfl (hb hby at_48)
  obtain ⟨_, _, ⟨T2, L2, k2, n2⟩, -, X2, ⟨Lc2, hQ2, l2, y2, z2⟩, st2⟩ := Jvm.LawKit.callS X1 hx (y := (⟨"com/example/keelstream/keelstream/ApiKeySupportsPinLaw", "ok", "(Lcom/example/keelstream/keelstream/ApiKey;III)Z"⟩ : MethodName)) hown (mvT hZ (hw _ (List.mem_of_getElem? (i := 4) rfl))) (mvT hZ (hw _ (List.mem_of_getElem? (i := 5) rfl))) (mvT hZ (hw _ (List.mem_of_getElem? (i := 6) rfl))) (mvT hZ (hw _ (List.mem_of_getElem? (i := 7) rfl))) (by decide) (backOf (W := 0) (okAll l Z a0 hw [] a_LIST_OFFSETS (1 : Int32) (1 : Int32) p2 h0 n0 Z0 ⟨E_LIST_OFFSETS, F_LIST_OFFSETS_minVersion, F_LIST_OFFSETS_maxVersion⟩) hZ (hw _ (List.mem_of_getElem? (i := 7) rfl)) (hw _ (List.mem_of_getElem? (i := 6) rfl)) (by decide) (by decide)) (g := (mkF m 226 #[.val (.int p1), .val (.int p2), .val (.int (2 : Int32)), .val (.ref a_LIST_OFFSETS), .val (.int (1 : Int32)), .val (.int (1 : Int32))] [(.int p2), (.int (1 : Int32)), (.int (1 : Int32)), (.ref a_LIST_OFFSETS)])) rfl (by rw [hml]; rfl) (argsL := [(.ref a_LIST_OFFSETS), (.int (1 : Int32)), (.int (1 : Int32)), (.int p2)]) (rest := []) (lenOf pd_1 rfl) rfl (by show 2 * 0 + _ ≤ _; exact Nat.le_of_eq rfl) (hb hby at_226) (fun _ _ => ⟨rfl, e1, (by decide : 0 + 0 ≤ _), (by decide : 0 + 0 ≤ _)⟩)
  dsimp only [Pt.U, Pt.locs, Pt.cells, Pt.slots] at X2 l2 y2 z2 st2 hQ2
  subst l2 y2 z2
  obtain ⟨rfl, N2q, e2⟩ := hQ2
  have N2 := Fr.app N0 N2q
  obtain ⟨_, _, ⟨T3, L3, k3, n3⟩, -, X3, ⟨Lc3, hQ3, l3, y3, z3⟩, st3⟩ := Jvm.LawKit.callS X2 hx (y := (⟨"com/example/keelstream/keelstream/ApiKeySupportsPinLaw", "ok", "(Lcom/example/keelstream/keelstream/ApiKey;III)Z"⟩ : MethodName)) hown (mvT hZ (hw _ (List.mem_of_getElem? (i := 4) rfl))) (mvT hZ (hw _ (List.mem_of_getElem? (i := 5) rfl))) (mvT hZ (hw _ (List.mem_of_getElem? (i := 6) rfl))) (mvT hZ (hw _ (List.mem_of_getElem? (i := 7) rfl))) (by decide) (backOf (W := 0) (okAll l Z a0 hw [] a_LIST_OFFSETS (1 : Int32) (1 : Int32) ((1 : Int32) - (1 : Int32)) h0 n0 Z0 ⟨E_LIST_OFFSETS, F_LIST_OFFSETS_minVersion, F_LIST_OFFSETS_maxVersion⟩) hZ (hw _ (List.mem_of_getElem? (i := 7) rfl)) (hw _ (List.mem_of_getElem? (i := 6) rfl)) (by decide) (by decide)) (g := (mkF m 241 #[.val (.int p1), .val (.int p2), .val (.int (2 : Int32)), .val (.ref a_LIST_OFFSETS), .val (.int (1 : Int32)), .val (.int (1 : Int32))] [(.int ((1 : Int32) - (1 : Int32))), (.int (1 : Int32)), (.int (1 : Int32)), (.ref a_LIST_OFFSETS)])) rfl (by rw [hml]; rfl) (argsL := [(.ref a_LIST_OFFSETS), (.int (1 : Int32)), (.int (1 : Int32)), (.int ((1 : Int32) - (1 : Int32)))]) (rest := []) (lenOf pd_1 rfl) rfl (by show 2 * 0 + _ ≤ _; exact Nat.le_of_eq rfl) (hb hby at_241) (fun _ _ => ⟨rfl, e2, (by decide : 0 + 0 ≤ _), (by decide : 0 + 0 ≤ _)⟩)
  dsimp only [Pt.U, Pt.locs, Pt.cells, Pt.slots] at X3 l3 y3 z3 st3 hQ3
  subst l3 y3 z3
  obtain ⟨rfl, N3q, e3⟩ := hQ3
  have N3 := Fr.app N2 N3q
  obtain ⟨_, _, ⟨T4, L4, k4, n4⟩, -, X4, ⟨Lc4, hQ4, l4, y4, z4⟩, st4⟩ := Jvm.LawKit.callS X3 hx (y := (⟨"com/example/keelstream/keelstream/ApiKeySupportsPinLaw", "ok", "(Lcom/example/keelstream/keelstream/ApiKey;III)Z"⟩ : MethodName)) hown (mvT hZ (hw _ (List.mem_of_getElem? (i := 4) rfl))) (mvT hZ (hw _ (List.mem_of_getElem? (i := 5) rfl))) (mvT hZ (hw _ (List.mem_of_getElem? (i := 6) rfl))) (mvT hZ (hw _ (List.mem_of_getElem? (i := 7) rfl))) (by decide) (backOf (W := 0) (okAll l Z a0 hw [] a_LIST_OFFSETS (1 : Int32) (1 : Int32) (1 : Int32) h0 n0 Z0 ⟨E_LIST_OFFSETS, F_LIST_OFFSETS_minVersion, F_LIST_OFFSETS_maxVersion⟩) hZ (hw _ (List.mem_of_getElem? (i := 7) rfl)) (hw _ (List.mem_of_getElem? (i := 6) rfl)) (by decide) (by decide)) (g := (mkF m 254 #[.val (.int p1), .val (.int p2), .val (.int (2 : Int32)), .val (.ref a_LIST_OFFSETS), .val (.int (1 : Int32)), .val (.int (1 : Int32))] [(.int (1 : Int32)), (.int (1 : Int32)), (.int (1 : Int32)), (.ref a_LIST_OFFSETS)])) rfl (by rw [hml]; rfl) (argsL := [(.ref a_LIST_OFFSETS), (.int (1 : Int32)), (.int (1 : Int32)), (.int (1 : Int32))]) (rest := []) (lenOf pd_1 rfl) rfl (by show 2 * 0 + _ ≤ _; exact Nat.le_of_eq rfl) (hb hby at_254) (fun _ _ => ⟨rfl, e3, (by decide : 0 + 0 ≤ _), (by decide : 0 + 0 ≤ _)⟩)
  dsimp only [Pt.U, Pt.locs, Pt.cells, Pt.slots] at X4 l4 y4 z4 st4 hQ4
  subst l4 y4 z4
  obtain ⟨rfl, N4q, e4⟩ := hQ4
  have N4 := Fr.app N3 N4q
  obtain ⟨_, _, ⟨T5, L5, k5, n5⟩, -, X5, ⟨Lc5, hQ5, l5, y5, z5⟩, st5⟩ := Jvm.LawKit.callS X4 hx (y := (⟨"com/example/keelstream/keelstream/ApiKeySupportsPinLaw", "ok", "(Lcom/example/keelstream/keelstream/ApiKey;III)Z"⟩ : MethodName)) hown (mvT hZ (hw _ (List.mem_of_getElem? (i := 4) rfl))) (mvT hZ (hw _ (List.mem_of_getElem? (i := 5) rfl))) (mvT hZ (hw _ (List.mem_of_getElem? (i := 6) rfl))) (mvT hZ (hw _ (List.mem_of_getElem? (i := 7) rfl))) (by decide) (backOf (W := 0) (okAll l Z a0 hw [] a_LIST_OFFSETS (1 : Int32) (1 : Int32) (1 : Int32) h0 n0 Z0 ⟨E_LIST_OFFSETS, F_LIST_OFFSETS_minVersion, F_LIST_OFFSETS_maxVersion⟩) hZ (hw _ (List.mem_of_getElem? (i := 7) rfl)) (hw _ (List.mem_of_getElem? (i := 6) rfl)) (by decide) (by decide)) (g := (mkF m 267 #[.val (.int p1), .val (.int p2), .val (.int (2 : Int32)), .val (.ref a_LIST_OFFSETS), .val (.int (1 : Int32)), .val (.int (1 : Int32))] [(.int (1 : Int32)), (.int (1 : Int32)), (.int (1 : Int32)), (.ref a_LIST_OFFSETS)])) rfl (by rw [hml]; rfl) (argsL := [(.ref a_LIST_OFFSETS), (.int (1 : Int32)), (.int (1 : Int32)), (.int (1 : Int32))]) (rest := []) (lenOf pd_1 rfl) rfl (by show 2 * 0 + _ ≤ _; exact Nat.le_of_eq rfl) (hb hby at_267) (fun _ _ => ⟨rfl, e4, (by decide : 0 + 0 ≤ _), (by decide : 0 + 0 ≤ _)⟩)
  dsimp only [Pt.U, Pt.locs, Pt.cells, Pt.slots] at X5 l5 y5 z5 st5 hQ5
  subst l5 y5 z5
  obtain ⟨rfl, N5q, e5⟩ := hQ5
  have N5 := Fr.app N4 N5q
  obtain ⟨_, _, ⟨T6, L6, k6, n6⟩, -, X6, ⟨Lc6, hQ6, l6, y6, z6⟩, st6⟩ := Jvm.LawKit.callS X5 hx (y := (⟨"com/example/keelstream/keelstream/ApiKeySupportsPinLaw", "ok", "(Lcom/example/keelstream/keelstream/ApiKey;III)Z"⟩ : MethodName)) hown (mvT hZ (hw _ (List.mem_of_getElem? (i := 4) rfl))) (mvT hZ (hw _ (List.mem_of_getElem? (i := 5) rfl))) (mvT hZ (hw _ (List.mem_of_getElem? (i := 6) rfl))) (mvT hZ (hw _ (List.mem_of_getElem? (i := 7) rfl))) (by decide) (backOf (W := 0) (okAll l Z a0 hw [] a_LIST_OFFSETS (1 : Int32) (1 : Int32) ((1 : Int32) + (1 : Int32)) h0 n0 Z0 ⟨E_LIST_OFFSETS, F_LIST_OFFSETS_minVersion, F_LIST_OFFSETS_maxVersion⟩) hZ (hw _ (List.mem_of_getElem? (i := 7) rfl)) (hw _ (List.mem_of_getElem? (i := 6) rfl)) (by decide) (by decide)) (g := (mkF m 282 #[.val (.int p1), .val (.int p2), .val (.int (2 : Int32)), .val (.ref a_LIST_OFFSETS), .val (.int (1 : Int32)), .val (.int (1 : Int32))] [(.int ((1 : Int32) + (1 : Int32))), (.int (1 : Int32)), (.int (1 : Int32)), (.ref a_LIST_OFFSETS)])) rfl (by rw [hml]; rfl) (argsL := [(.ref a_LIST_OFFSETS), (.int (1 : Int32)), (.int (1 : Int32)), (.int ((1 : Int32) + (1 : Int32)))]) (rest := []) (lenOf pd_1 rfl) rfl (by show 2 * 0 + _ ≤ _; exact Nat.le_of_eq rfl) (hb hby at_282) (fun _ _ => ⟨rfl, e5, (by decide : 0 + 0 ≤ _), (by decide : 0 + 0 ≤ _)⟩)
  dsimp only [Pt.U, Pt.locs, Pt.cells, Pt.slots] at X6 l6 y6 z6 st6 hQ6
  subst l6 y6 z6
  obtain ⟨rfl, N6q, e6⟩ := hQ6
  have N6 := Fr.app N5 N6q
  obtain ⟨fs, hr, hrun, hended, hW, hsame⟩ := X6.leave (v := some (.int (1 : Int32))) (fun h => by rw [Bd.returns] at h; cases h)
  refine ⟨_, _, pre0 _ ?_, hrun, hended, _, _, rfl, ?_, ⟨_, rfl⟩, hW, hsame.mono (by decide) (by decide)⟩
  · show Steps p.tables e below (s₁.setTop (mkF m 0 #[.val (.int p1), .val (.int p2), .unset, .unset, .unset, .unset] [])) _
    refine XS.iloadN X0.here hx rfl (hb hby at_0) rfl ?_
    show Steps p.tables e below (s₁.setTop (mkF m 1 #[.val (.int p1), .val (.int p2), .unset, .unset, .unset, .unset] [(.int p1)])) _
    refine X0.ldcInt hx hown (mvT hZ (hw _ (List.mem_of_getElem? (i := 0) rfl))) (g := (mkF m 1 #[.val (.int p1), .val (.int p2), .unset, .unset, .unset, .unset] [(.int p1)])) rfl (hb hby at_1) _ ?_
    show Steps p.tables e below (s₁.setTop (mkF m 3 #[.val (.int p1), .val (.int p2), .unset, .unset, .unset, .unset] [(.int (2147483647 : Int32)), (.int p1)])) _
    refine XS.iand X0.here hx rfl (hb hby at_3) rfl ?_
    show Steps p.tables e below (s₁.setTop (mkF m 4 #[.val (.int p1), .val (.int p2), .unset, .unset, .unset, .unset] [(.int (p1 &&& (2147483647 : Int32)))])) _
    refine XS.bipush X0.here hx rfl (hb hby at_4) ?_
    show Steps p.tables e below (s₁.setTop (mkF m 6 #[.val (.int p1), .val (.int p2), .unset, .unset, .unset, .unset] [(.int (12 : Int32)), (.int (p1 &&& (2147483647 : Int32)))])) _
    refine Jvm.RoadKit.iremM (g := (mkF m 6 #[.val (.int p1), .val (.int p2), .unset, .unset, .unset, .unset] [(.int (12 : Int32)), (.int (p1 &&& (2147483647 : Int32)))])) X0 hx rfl (hb hby at_6) rfl (by decide) ?_
    rw [hi]
    show Steps p.tables e below (s₁.setTop (mkF m 7 #[.val (.int p1), .val (.int p2), .unset, .unset, .unset, .unset] [(.int (2 : Int32))])) _
    refine XS.istoreN X0.here hx rfl (hb hby at_7) rfl (l' := #[.val (.int p1), .val (.int p2), .val (.int (2 : Int32)), .unset, .unset, .unset]) rfl ?_
    show Steps p.tables e below (s₁.setTop (mkF m 8 #[.val (.int p1), .val (.int p2), .val (.int (2 : Int32)), .unset, .unset, .unset] [])) _
    refine XS.iloadN X0.here hx rfl (hb hby at_8) rfl ?_
    show Steps p.tables e below (s₁.setTop (mkF m 9 #[.val (.int p1), .val (.int p2), .val (.int (2 : Int32)), .unset, .unset, .unset] [(.int (2 : Int32))])) _
    refine XS.ifYes X0.here hx rfl (pc0 := 9) (pc' := 25) rfl (hb hby at_9) rfl ((if0 _ _).trans (feq (by decide : ¬ ((2 : Int32) = (0 : Int32)))).2) (by decide) (by decide) ?_
    show Steps p.tables e below (s₁.setTop (mkF m 25 #[.val (.int p1), .val (.int p2), .val (.int (2 : Int32)), .unset, .unset, .unset] [])) _
    refine XS.iloadN X0.here hx rfl (hb hby at_25) rfl ?_
    show Steps p.tables e below (s₁.setTop (mkF m 26 #[.val (.int p1), .val (.int p2), .val (.int (2 : Int32)), .unset, .unset, .unset] [(.int (2 : Int32))])) _
    refine XS.iconst X0.here hx rfl (hb hby at_26) ?_
    show Steps p.tables e below (s₁.setTop (mkF m 27 #[.val (.int p1), .val (.int p2), .val (.int (2 : Int32)), .unset, .unset, .unset] [(.int (1 : Int32)), (.int (2 : Int32))])) _
    refine XS.icmpYes X0.here hx rfl (pc0 := 27) (pc' := 43) rfl (hb hby at_27) rfl (feq (by decide : ¬ ((2 : Int32) = (1 : Int32)))).2 (by decide) (by decide) ?_
    show Steps p.tables e below (s₁.setTop (mkF m 43 #[.val (.int p1), .val (.int p2), .val (.int (2 : Int32)), .unset, .unset, .unset] [])) _
    refine XS.iloadN X0.here hx rfl (hb hby at_43) rfl ?_
    show Steps p.tables e below (s₁.setTop (mkF m 44 #[.val (.int p1), .val (.int p2), .val (.int (2 : Int32)), .unset, .unset, .unset] [(.int (2 : Int32))])) _
    refine XS.iconst X0.here hx rfl (hb hby at_44) ?_
    show Steps p.tables e below (s₁.setTop (mkF m 45 #[.val (.int p1), .val (.int p2), .val (.int (2 : Int32)), .unset, .unset, .unset] [(.int (2 : Int32)), (.int (2 : Int32))])) _
    refine XS.icmpNo X0.here hx rfl (hb hby at_45) rfl (teq (by decide : (2 : Int32) = (2 : Int32))).2 ?_
    show Steps p.tables e below (s₁.setTop (mkF m 48 #[.val (.int p1), .val (.int p2), .val (.int (2 : Int32)), .unset, .unset, .unset] [])) _
    refine st1 _ ?_
    show Steps p.tables e below (T1.setTop (mkF m 51 #[.val (.int p1), .val (.int p2), .val (.int (2 : Int32)), .unset, .unset, .unset] [(.ref a_LIST_OFFSETS)])) _
    refine XS.astoreN X1.here hx rfl (hb hby at_51) rfl rfl (l' := #[.val (.int p1), .val (.int p2), .val (.int (2 : Int32)), .val (.ref a_LIST_OFFSETS), .unset, .unset]) rfl ?_
    show Steps p.tables e below (T1.setTop (mkF m 52 #[.val (.int p1), .val (.int p2), .val (.int (2 : Int32)), .val (.ref a_LIST_OFFSETS), .unset, .unset] [])) _
    refine XS.iconst X1.here hx rfl (hb hby at_52) ?_
    show Steps p.tables e below (T1.setTop (mkF m 53 #[.val (.int p1), .val (.int p2), .val (.int (2 : Int32)), .val (.ref a_LIST_OFFSETS), .unset, .unset] [(.int (1 : Int32))])) _
    refine XS.istore X1.here hx rfl (hb hby at_53) rfl (l' := #[.val (.int p1), .val (.int p2), .val (.int (2 : Int32)), .val (.ref a_LIST_OFFSETS), .val (.int (1 : Int32)), .unset]) rfl ?_
    show Steps p.tables e below (T1.setTop (mkF m 55 #[.val (.int p1), .val (.int p2), .val (.int (2 : Int32)), .val (.ref a_LIST_OFFSETS), .val (.int (1 : Int32)), .unset] [])) _
    refine XS.iconst X1.here hx rfl (hb hby at_55) ?_
    show Steps p.tables e below (T1.setTop (mkF m 56 #[.val (.int p1), .val (.int p2), .val (.int (2 : Int32)), .val (.ref a_LIST_OFFSETS), .val (.int (1 : Int32)), .unset] [(.int (1 : Int32))])) _
    refine XS.istore X1.here hx rfl (hb hby at_56) rfl (l' := #[.val (.int p1), .val (.int p2), .val (.int (2 : Int32)), .val (.ref a_LIST_OFFSETS), .val (.int (1 : Int32)), .val (.int (1 : Int32))]) rfl ?_
    show Steps p.tables e below (T1.setTop (mkF m 58 #[.val (.int p1), .val (.int p2), .val (.int (2 : Int32)), .val (.ref a_LIST_OFFSETS), .val (.int (1 : Int32)), .val (.int (1 : Int32))] [])) _
    refine XS.goto X1.here hx rfl (pc0 := 58) (pc' := 220) rfl (hb hby at_58) (by decide) (by decide) ?_
    show Steps p.tables e below (T1.setTop (mkF m 220 #[.val (.int p1), .val (.int p2), .val (.int (2 : Int32)), .val (.ref a_LIST_OFFSETS), .val (.int (1 : Int32)), .val (.int (1 : Int32))] [])) _
    refine XS.aloadN X1.here hx rfl (hb hby at_220) rfl rfl ?_
    show Steps p.tables e below (T1.setTop (mkF m 221 #[.val (.int p1), .val (.int p2), .val (.int (2 : Int32)), .val (.ref a_LIST_OFFSETS), .val (.int (1 : Int32)), .val (.int (1 : Int32))] [(.ref a_LIST_OFFSETS)])) _
    refine XS.iload X1.here hx rfl (hb hby at_221) rfl ?_
    show Steps p.tables e below (T1.setTop (mkF m 223 #[.val (.int p1), .val (.int p2), .val (.int (2 : Int32)), .val (.ref a_LIST_OFFSETS), .val (.int (1 : Int32)), .val (.int (1 : Int32))] [(.int (1 : Int32)), (.ref a_LIST_OFFSETS)])) _
    refine XS.iload X1.here hx rfl (hb hby at_223) rfl ?_
    show Steps p.tables e below (T1.setTop (mkF m 225 #[.val (.int p1), .val (.int p2), .val (.int (2 : Int32)), .val (.ref a_LIST_OFFSETS), .val (.int (1 : Int32)), .val (.int (1 : Int32))] [(.int (1 : Int32)), (.int (1 : Int32)), (.ref a_LIST_OFFSETS)])) _
    refine XS.iloadN X1.here hx rfl (hb hby at_225) rfl ?_
    show Steps p.tables e below (T1.setTop (mkF m 226 #[.val (.int p1), .val (.int p2), .val (.int (2 : Int32)), .val (.ref a_LIST_OFFSETS), .val (.int (1 : Int32)), .val (.int (1 : Int32))] [(.int p2), (.int (1 : Int32)), (.int (1 : Int32)), (.ref a_LIST_OFFSETS)])) _
    refine st2 _ ?_
    show Steps p.tables e below (T2.setTop (mkF m 229 #[.val (.int p1), .val (.int p2), .val (.int (2 : Int32)), .val (.ref a_LIST_OFFSETS), .val (.int (1 : Int32)), .val (.int (1 : Int32))] [(.int (1 : Int32))])) _
    refine XS.ifNo X2.here hx rfl (hb hby at_229) rfl ((if0 _ _).trans (feq (by decide : ¬ ((1 : Int32) = (0 : Int32)))).1) ?_
    show Steps p.tables e below (T2.setTop (mkF m 232 #[.val (.int p1), .val (.int p2), .val (.int (2 : Int32)), .val (.ref a_LIST_OFFSETS), .val (.int (1 : Int32)), .val (.int (1 : Int32))] [])) _
    refine XS.aloadN X2.here hx rfl (hb hby at_232) rfl rfl ?_
    show Steps p.tables e below (T2.setTop (mkF m 233 #[.val (.int p1), .val (.int p2), .val (.int (2 : Int32)), .val (.ref a_LIST_OFFSETS), .val (.int (1 : Int32)), .val (.int (1 : Int32))] [(.ref a_LIST_OFFSETS)])) _
    refine XS.iload X2.here hx rfl (hb hby at_233) rfl ?_
    show Steps p.tables e below (T2.setTop (mkF m 235 #[.val (.int p1), .val (.int p2), .val (.int (2 : Int32)), .val (.ref a_LIST_OFFSETS), .val (.int (1 : Int32)), .val (.int (1 : Int32))] [(.int (1 : Int32)), (.ref a_LIST_OFFSETS)])) _
    refine XS.iload X2.here hx rfl (hb hby at_235) rfl ?_
    show Steps p.tables e below (T2.setTop (mkF m 237 #[.val (.int p1), .val (.int p2), .val (.int (2 : Int32)), .val (.ref a_LIST_OFFSETS), .val (.int (1 : Int32)), .val (.int (1 : Int32))] [(.int (1 : Int32)), (.int (1 : Int32)), (.ref a_LIST_OFFSETS)])) _
    refine XS.iload X2.here hx rfl (hb hby at_237) rfl ?_
    show Steps p.tables e below (T2.setTop (mkF m 239 #[.val (.int p1), .val (.int p2), .val (.int (2 : Int32)), .val (.ref a_LIST_OFFSETS), .val (.int (1 : Int32)), .val (.int (1 : Int32))] [(.int (1 : Int32)), (.int (1 : Int32)), (.int (1 : Int32)), (.ref a_LIST_OFFSETS)])) _
    refine XS.iconst X2.here hx rfl (hb hby at_239) ?_
    show Steps p.tables e below (T2.setTop (mkF m 240 #[.val (.int p1), .val (.int p2), .val (.int (2 : Int32)), .val (.ref a_LIST_OFFSETS), .val (.int (1 : Int32)), .val (.int (1 : Int32))] [(.int (1 : Int32)), (.int (1 : Int32)), (.int (1 : Int32)), (.int (1 : Int32)), (.ref a_LIST_OFFSETS)])) _
    refine XS.isub X2.here hx rfl (hb hby at_240) rfl ?_
    show Steps p.tables e below (T2.setTop (mkF m 241 #[.val (.int p1), .val (.int p2), .val (.int (2 : Int32)), .val (.ref a_LIST_OFFSETS), .val (.int (1 : Int32)), .val (.int (1 : Int32))] [(.int ((1 : Int32) - (1 : Int32))), (.int (1 : Int32)), (.int (1 : Int32)), (.ref a_LIST_OFFSETS)])) _
    refine st3 _ ?_
    show Steps p.tables e below (T3.setTop (mkF m 244 #[.val (.int p1), .val (.int p2), .val (.int (2 : Int32)), .val (.ref a_LIST_OFFSETS), .val (.int (1 : Int32)), .val (.int (1 : Int32))] [(.int (1 : Int32))])) _
    refine XS.ifNo X3.here hx rfl (hb hby at_244) rfl ((if0 _ _).trans (feq (by decide : ¬ ((1 : Int32) = (0 : Int32)))).1) ?_
    show Steps p.tables e below (T3.setTop (mkF m 247 #[.val (.int p1), .val (.int p2), .val (.int (2 : Int32)), .val (.ref a_LIST_OFFSETS), .val (.int (1 : Int32)), .val (.int (1 : Int32))] [])) _
    refine XS.aloadN X3.here hx rfl (hb hby at_247) rfl rfl ?_
    show Steps p.tables e below (T3.setTop (mkF m 248 #[.val (.int p1), .val (.int p2), .val (.int (2 : Int32)), .val (.ref a_LIST_OFFSETS), .val (.int (1 : Int32)), .val (.int (1 : Int32))] [(.ref a_LIST_OFFSETS)])) _
    refine XS.iload X3.here hx rfl (hb hby at_248) rfl ?_
    show Steps p.tables e below (T3.setTop (mkF m 250 #[.val (.int p1), .val (.int p2), .val (.int (2 : Int32)), .val (.ref a_LIST_OFFSETS), .val (.int (1 : Int32)), .val (.int (1 : Int32))] [(.int (1 : Int32)), (.ref a_LIST_OFFSETS)])) _
    refine XS.iload X3.here hx rfl (hb hby at_250) rfl ?_
    show Steps p.tables e below (T3.setTop (mkF m 252 #[.val (.int p1), .val (.int p2), .val (.int (2 : Int32)), .val (.ref a_LIST_OFFSETS), .val (.int (1 : Int32)), .val (.int (1 : Int32))] [(.int (1 : Int32)), (.int (1 : Int32)), (.ref a_LIST_OFFSETS)])) _
    refine XS.iload X3.here hx rfl (hb hby at_252) rfl ?_
    show Steps p.tables e below (T3.setTop (mkF m 254 #[.val (.int p1), .val (.int p2), .val (.int (2 : Int32)), .val (.ref a_LIST_OFFSETS), .val (.int (1 : Int32)), .val (.int (1 : Int32))] [(.int (1 : Int32)), (.int (1 : Int32)), (.int (1 : Int32)), (.ref a_LIST_OFFSETS)])) _
    refine st4 _ ?_
    show Steps p.tables e below (T4.setTop (mkF m 257 #[.val (.int p1), .val (.int p2), .val (.int (2 : Int32)), .val (.ref a_LIST_OFFSETS), .val (.int (1 : Int32)), .val (.int (1 : Int32))] [(.int (1 : Int32))])) _
    refine XS.ifNo X4.here hx rfl (hb hby at_257) rfl ((if0 _ _).trans (feq (by decide : ¬ ((1 : Int32) = (0 : Int32)))).1) ?_
    show Steps p.tables e below (T4.setTop (mkF m 260 #[.val (.int p1), .val (.int p2), .val (.int (2 : Int32)), .val (.ref a_LIST_OFFSETS), .val (.int (1 : Int32)), .val (.int (1 : Int32))] [])) _
    refine XS.aloadN X4.here hx rfl (hb hby at_260) rfl rfl ?_
    show Steps p.tables e below (T4.setTop (mkF m 261 #[.val (.int p1), .val (.int p2), .val (.int (2 : Int32)), .val (.ref a_LIST_OFFSETS), .val (.int (1 : Int32)), .val (.int (1 : Int32))] [(.ref a_LIST_OFFSETS)])) _
    refine XS.iload X4.here hx rfl (hb hby at_261) rfl ?_
    show Steps p.tables e below (T4.setTop (mkF m 263 #[.val (.int p1), .val (.int p2), .val (.int (2 : Int32)), .val (.ref a_LIST_OFFSETS), .val (.int (1 : Int32)), .val (.int (1 : Int32))] [(.int (1 : Int32)), (.ref a_LIST_OFFSETS)])) _
    refine XS.iload X4.here hx rfl (hb hby at_263) rfl ?_
    show Steps p.tables e below (T4.setTop (mkF m 265 #[.val (.int p1), .val (.int p2), .val (.int (2 : Int32)), .val (.ref a_LIST_OFFSETS), .val (.int (1 : Int32)), .val (.int (1 : Int32))] [(.int (1 : Int32)), (.int (1 : Int32)), (.ref a_LIST_OFFSETS)])) _
    refine XS.iload X4.here hx rfl (hb hby at_265) rfl ?_
    show Steps p.tables e below (T4.setTop (mkF m 267 #[.val (.int p1), .val (.int p2), .val (.int (2 : Int32)), .val (.ref a_LIST_OFFSETS), .val (.int (1 : Int32)), .val (.int (1 : Int32))] [(.int (1 : Int32)), (.int (1 : Int32)), (.int (1 : Int32)), (.ref a_LIST_OFFSETS)])) _
    refine st5 _ ?_
    show Steps p.tables e below (T5.setTop (mkF m 270 #[.val (.int p1), .val (.int p2), .val (.int (2 : Int32)), .val (.ref a_LIST_OFFSETS), .val (.int (1 : Int32)), .val (.int (1 : Int32))] [(.int (1 : Int32))])) _
    refine XS.ifNo X5.here hx rfl (hb hby at_270) rfl ((if0 _ _).trans (feq (by decide : ¬ ((1 : Int32) = (0 : Int32)))).1) ?_
    show Steps p.tables e below (T5.setTop (mkF m 273 #[.val (.int p1), .val (.int p2), .val (.int (2 : Int32)), .val (.ref a_LIST_OFFSETS), .val (.int (1 : Int32)), .val (.int (1 : Int32))] [])) _
    refine XS.aloadN X5.here hx rfl (hb hby at_273) rfl rfl ?_
    show Steps p.tables e below (T5.setTop (mkF m 274 #[.val (.int p1), .val (.int p2), .val (.int (2 : Int32)), .val (.ref a_LIST_OFFSETS), .val (.int (1 : Int32)), .val (.int (1 : Int32))] [(.ref a_LIST_OFFSETS)])) _
    refine XS.iload X5.here hx rfl (hb hby at_274) rfl ?_
    show Steps p.tables e below (T5.setTop (mkF m 276 #[.val (.int p1), .val (.int p2), .val (.int (2 : Int32)), .val (.ref a_LIST_OFFSETS), .val (.int (1 : Int32)), .val (.int (1 : Int32))] [(.int (1 : Int32)), (.ref a_LIST_OFFSETS)])) _
    refine XS.iload X5.here hx rfl (hb hby at_276) rfl ?_
    show Steps p.tables e below (T5.setTop (mkF m 278 #[.val (.int p1), .val (.int p2), .val (.int (2 : Int32)), .val (.ref a_LIST_OFFSETS), .val (.int (1 : Int32)), .val (.int (1 : Int32))] [(.int (1 : Int32)), (.int (1 : Int32)), (.ref a_LIST_OFFSETS)])) _
    refine XS.iload X5.here hx rfl (hb hby at_278) rfl ?_
    show Steps p.tables e below (T5.setTop (mkF m 280 #[.val (.int p1), .val (.int p2), .val (.int (2 : Int32)), .val (.ref a_LIST_OFFSETS), .val (.int (1 : Int32)), .val (.int (1 : Int32))] [(.int (1 : Int32)), (.int (1 : Int32)), (.int (1 : Int32)), (.ref a_LIST_OFFSETS)])) _
    refine XS.iconst X5.here hx rfl (hb hby at_280) ?_
    show Steps p.tables e below (T5.setTop (mkF m 281 #[.val (.int p1), .val (.int p2), .val (.int (2 : Int32)), .val (.ref a_LIST_OFFSETS), .val (.int (1 : Int32)), .val (.int (1 : Int32))] [(.int (1 : Int32)), (.int (1 : Int32)), (.int (1 : Int32)), (.int (1 : Int32)), (.ref a_LIST_OFFSETS)])) _
    refine XS.iadd X5.here hx rfl (hb hby at_281) rfl ?_
    show Steps p.tables e below (T5.setTop (mkF m 282 #[.val (.int p1), .val (.int p2), .val (.int (2 : Int32)), .val (.ref a_LIST_OFFSETS), .val (.int (1 : Int32)), .val (.int (1 : Int32))] [(.int ((1 : Int32) + (1 : Int32))), (.int (1 : Int32)), (.int (1 : Int32)), (.ref a_LIST_OFFSETS)])) _
    refine st6 _ ?_
    show Steps p.tables e below (T6.setTop (mkF m 285 #[.val (.int p1), .val (.int p2), .val (.int (2 : Int32)), .val (.ref a_LIST_OFFSETS), .val (.int (1 : Int32)), .val (.int (1 : Int32))] [(.int (1 : Int32))])) _
    refine XS.ifNo X6.here hx rfl (hb hby at_285) rfl ((if0 _ _).trans (feq (by decide : ¬ ((1 : Int32) = (0 : Int32)))).1) ?_
    show Steps p.tables e below (T6.setTop (mkF m 288 #[.val (.int p1), .val (.int p2), .val (.int (2 : Int32)), .val (.ref a_LIST_OFFSETS), .val (.int (1 : Int32)), .val (.int (1 : Int32))] [])) _
    refine XS.iconst X6.here hx rfl (hb hby at_288) ?_
    show Steps p.tables e below (T6.setTop (mkF m 289 #[.val (.int p1), .val (.int p2), .val (.int (2 : Int32)), .val (.ref a_LIST_OFFSETS), .val (.int (1 : Int32)), .val (.int (1 : Int32))] [(.int (1 : Int32))])) _
    refine XS.goto X6.here hx rfl (pc0 := 289) (pc' := 293) rfl (hb hby at_289) (by decide) (by decide) ?_
    show Steps p.tables e below (T6.setTop (mkF m 293 #[.val (.int p1), .val (.int p2), .val (.int (2 : Int32)), .val (.ref a_LIST_OFFSETS), .val (.int (1 : Int32)), .val (.int (1 : Int32))] [(.int (1 : Int32))])) _
    exact retN X6 hx (t := .boolean) Bd.returns (by simp) (hb hby at_293) hr
  · exact ⟨rfl, N6⟩
set_option maxRecDepth 65536 in
set_option maxHeartbeats 40000000 in
theorem rm0_10 (l : Launch) (Z : State) (a0 : Array Value) (hw : ∀ d ∈ tables_1, d.before a0 Z = true) (ws : List Jvm.Cond) (a_PRODUCE : Addr) (a_LIST_OFFSETS : Addr) (a_HEARTBEAT : Addr) (a_OFFSET_COMMIT : Addr) (a_FETCH : Addr) (a_FIND_COORDINATOR : Addr) (a_API_VERSIONS : Addr) (a_METADATA : Addr) (a_LEAVE_GROUP : Addr) (a_JOIN_GROUP : Addr) (a_SYNC_GROUP : Addr) (a_OFFSET_FETCH : Addr) (p1 : Int32) (p2 : Int32) (h0 : Heap) (n0 : Nat) (Z0 : n0 ≤ h0.size) (hS : Wd Z h0 a_PRODUCE a_LIST_OFFSETS a_HEARTBEAT a_OFFSET_COMMIT a_FETCH a_FIND_COORDINATOR a_API_VERSIONS a_METADATA a_LEAVE_GROUP a_JOIN_GROUP a_SYNC_GROUP a_OFFSET_FETCH) (hi : ((p1 &&& (2147483647 : Int32)) % (12 : Int32)) = (3 : Int32)) :
    MetFree l x (head1 (Jvm.Cond.code x code maxLocals ret :: ws) room_1) (fun a U => a = #[(.int p1), (.int p2)] ∧ Z.Warmed39 U.vm ∧ U.heap = h0) (fun _ _ _ _ _ => True) (fun _ U o U' => ∃ v L, o = .returned v ∧ Q0 n0 v L ∧ FrameEnd U o U' L room_1.cells room_1.slots) := by
  refine MetFree.of_bodySF (plainFor_of_name pn_com_example_keelstream_keelstream_ApiKeySupportsPinLaw) hisR ?_
  intro p e s m args below meth c s₁ Bd hml0 hP hK
  obtain ⟨rfl, hZ, hh⟩ := hP
  have hx := Bd.exec
  have hby := Bd.bytes
  have hml : c.maxLocals = 6 := hml0
  have hown : s.vm.findClass "com/example/keelstream/keelstream/ApiKeySupportsPinLaw" = some m.cls := findClass_of_methodNamed Bd.named
  have X0 : Stand p l e room_1 s m #[(.int p1), (.int p2)] below meth c s₁ [] 0 0 := Stand.of_body Bd
  have e0 : s₁.heap = h0 := by rw [← hh, Bd.state]; rfl
  have N0 := Fr.nil n0
  have pre0 : ∀ t, Steps p.tables e below (s₁.setTop (mkF m 0 #[.val (.int p1), .val (.int p2), .unset, .unset, .unset, .unset] [])) t → Steps p.tables e below (s₁.setTop (entryFrame m #[(.int p1), (.int p2)] maxLocals)) t := fun t k => castTop (by first | (simp [entryFrame, mkF, argsToLocals, Value.category, maxLocals]; done) | rfl) k
  obtain ⟨S_PRODUCE, E_PRODUCE, S_LIST_OFFSETS, E_LIST_OFFSETS, S_HEARTBEAT, E_HEARTBEAT, S_OFFSET_COMMIT, E_OFFSET_COMMIT, S_FETCH, E_FETCH, S_FIND_COORDINATOR, E_FIND_COORDINATOR, S_API_VERSIONS, E_API_VERSIONS, S_METADATA, E_METADATA, S_LEAVE_GROUP, E_LEAVE_GROUP, S_JOIN_GROUP, E_JOIN_GROUP, S_SYNC_GROUP, E_SYNC_GROUP, S_OFFSET_FETCH, E_OFFSET_FETCH, F_PRODUCE_minVersion, F_PRODUCE_maxVersion, F_LIST_OFFSETS_minVersion, F_LIST_OFFSETS_maxVersion, F_HEARTBEAT_minVersion, F_HEARTBEAT_maxVersion, F_OFFSET_COMMIT_minVersion, F_OFFSET_COMMIT_maxVersion, F_FETCH_minVersion, F_FETCH_maxVersion, F_FIND_COORDINATOR_minVersion, F_FIND_COORDINATOR_maxVersion, F_API_VERSIONS_minVersion, F_API_VERSIONS_maxVersion, F_METADATA_minVersion, F_METADATA_maxVersion, F_LEAVE_GROUP_minVersion, F_LEAVE_GROUP_maxVersion, F_JOIN_GROUP_minVersion, F_JOIN_GROUP_maxVersion, F_SYNC_GROUP_minVersion, F_SYNC_GROUP_maxVersion, F_OFFSET_FETCH_minVersion, F_OFFSET_FETCH_maxVersion⟩ := id hS
  obtain ⟨T1, X1, e1, st1⟩ := getS2 X0 hx hZ hown (host := "") (Or.inl (hw _ (List.mem_of_getElem? (i := 29) rfl))) Via.refl e0 S_METADATA (g := (mkF m 66 #[.val (.int p1), .val (.int p2), .val (.int (3 : Int32)), .unset, .unset, .unset] [])) rfl (hb hby at_66)
  obtain ⟨_, _, ⟨T2, L2, k2, n2⟩, -, X2, ⟨Lc2, hQ2, l2, y2, z2⟩, st2⟩ := Jvm.LawKit.callS X1 hx (y := (⟨"com/example/keelstream/keelstream/ApiKeySupportsPinLaw", "ok", "(Lcom/example/keelstream/keelstream/ApiKey;III)Z"⟩ : MethodName)) hown (mvT hZ (hw _ (List.mem_of_getElem? (i := 4) rfl))) (mvT hZ (hw _ (List.mem_of_getElem? (i := 5) rfl))) (mvT hZ (hw _ (List.mem_of_getElem? (i := 6) rfl))) (mvT hZ (hw _ (List.mem_of_getElem? (i := 7) rfl))) (by decide) (backOf (W := 0) (okAll l Z a0 hw [] a_METADATA (0 : Int32) (1 : Int32) p2 h0 n0 Z0 ⟨E_METADATA, F_METADATA_minVersion, F_METADATA_maxVersion⟩) hZ (hw _ (List.mem_of_getElem? (i := 7) rfl)) (hw _ (List.mem_of_getElem? (i := 6) rfl)) (by decide) (by decide)) (g := (mkF m 226 #[.val (.int p1), .val (.int p2), .val (.int (3 : Int32)), .val (.ref a_METADATA), .val (.int (0 : Int32)), .val (.int (1 : Int32))] [(.int p2), (.int (1 : Int32)), (.int (0 : Int32)), (.ref a_METADATA)])) rfl (by rw [hml]; rfl) (argsL := [(.ref a_METADATA), (.int (0 : Int32)), (.int (1 : Int32)), (.int p2)]) (rest := []) (lenOf pd_1 rfl) rfl (by show 2 * 0 + _ ≤ _; exact Nat.le_of_eq rfl) (hb hby at_226) (fun _ _ => ⟨rfl, e1, (by decide : 0 + 0 ≤ _), (by decide : 0 + 0 ≤ _)⟩)
  dsimp only [Pt.U, Pt.locs, Pt.cells, Pt.slots] at X2 l2 y2 z2 st2 hQ2
  subst l2 y2 z2
  obtain ⟨rfl, N2q, e2⟩ := hQ2
  have N2 := Fr.app N0 N2q
  obtain ⟨_, _, ⟨T3, L3, k3, n3⟩, -, X3, ⟨Lc3, hQ3, l3, y3, z3⟩, st3⟩ := Jvm.LawKit.callS X2 hx (y := (⟨"com/example/keelstream/keelstream/ApiKeySupportsPinLaw", "ok", "(Lcom/example/keelstream/keelstream/ApiKey;III)Z"⟩ : MethodName)) hown (mvT hZ (hw _ (List.mem_of_getElem? (i := 4) rfl))) (mvT hZ (hw _ (List.mem_of_getElem? (i := 5) rfl))) (mvT hZ (hw _ (List.mem_of_getElem? (i := 6) rfl))) (mvT hZ (hw _ (List.mem_of_getElem? (i := 7) rfl))) (by decide) (backOf (W := 0) (okAll l Z a0 hw [] a_METADATA (0 : Int32) (1 : Int32) ((0 : Int32) - (1 : Int32)) h0 n0 Z0 ⟨E_METADATA, F_METADATA_minVersion, F_METADATA_maxVersion⟩) hZ (hw _ (List.mem_of_getElem? (i := 7) rfl)) (hw _ (List.mem_of_getElem? (i := 6) rfl)) (by decide) (by decide)) (g := (mkF m 241 #[.val (.int p1), .val (.int p2), .val (.int (3 : Int32)), .val (.ref a_METADATA), .val (.int (0 : Int32)), .val (.int (1 : Int32))] [(.int ((0 : Int32) - (1 : Int32))), (.int (1 : Int32)), (.int (0 : Int32)), (.ref a_METADATA)])) rfl (by rw [hml]; rfl) (argsL := [(.ref a_METADATA), (.int (0 : Int32)), (.int (1 : Int32)), (.int ((0 : Int32) - (1 : Int32)))]) (rest := []) (lenOf pd_1 rfl) rfl (by show 2 * 0 + _ ≤ _; exact Nat.le_of_eq rfl) (hb hby at_241) (fun _ _ => ⟨rfl, e2, (by decide : 0 + 0 ≤ _), (by decide : 0 + 0 ≤ _)⟩)
  dsimp only [Pt.U, Pt.locs, Pt.cells, Pt.slots] at X3 l3 y3 z3 st3 hQ3
  subst l3 y3 z3
  obtain ⟨rfl, N3q, e3⟩ := hQ3
  have N3 := Fr.app N2 N3q
  obtain ⟨_, _, ⟨T4, L4, k4, n4⟩, -, X4, ⟨Lc4, hQ4, l4, y4, z4⟩, st4⟩ := Jvm.LawKit.callS X3 hx (y := (⟨"com/example/keelstream/keelstream/ApiKeySupportsPinLaw", "ok", "(Lcom/example/keelstream/keelstream/ApiKey;III)Z"⟩ : MethodName)) hown (mvT hZ (hw _ (List.mem_of_getElem? (i := 4) rfl))) (mvT hZ (hw _ (List.mem_of_getElem? (i := 5) rfl))) (mvT hZ (hw _ (List.mem_of_getElem? (i := 6) rfl))) (mvT hZ (hw _ (List.mem_of_getElem? (i := 7) rfl))) (by decide) (backOf (W := 0) (okAll l Z a0 hw [] a_METADATA (0 : Int32) (1 : Int32) (0 : Int32) h0 n0 Z0 ⟨E_METADATA, F_METADATA_minVersion, F_METADATA_maxVersion⟩) hZ (hw _ (List.mem_of_getElem? (i := 7) rfl)) (hw _ (List.mem_of_getElem? (i := 6) rfl)) (by decide) (by decide)) (g := (mkF m 254 #[.val (.int p1), .val (.int p2), .val (.int (3 : Int32)), .val (.ref a_METADATA), .val (.int (0 : Int32)), .val (.int (1 : Int32))] [(.int (0 : Int32)), (.int (1 : Int32)), (.int (0 : Int32)), (.ref a_METADATA)])) rfl (by rw [hml]; rfl) (argsL := [(.ref a_METADATA), (.int (0 : Int32)), (.int (1 : Int32)), (.int (0 : Int32))]) (rest := []) (lenOf pd_1 rfl) rfl (by show 2 * 0 + _ ≤ _; exact Nat.le_of_eq rfl) (hb hby at_254) (fun _ _ => ⟨rfl, e3, (by decide : 0 + 0 ≤ _), (by decide : 0 + 0 ≤ _)⟩)
  dsimp only [Pt.U, Pt.locs, Pt.cells, Pt.slots] at X4 l4 y4 z4 st4 hQ4
  subst l4 y4 z4
  obtain ⟨rfl, N4q, e4⟩ := hQ4
  have N4 := Fr.app N3 N4q
  obtain ⟨_, _, ⟨T5, L5, k5, n5⟩, -, X5, ⟨Lc5, hQ5, l5, y5, z5⟩, st5⟩ := Jvm.LawKit.callS X4 hx (y := (⟨"com/example/keelstream/keelstream/ApiKeySupportsPinLaw", "ok", "(Lcom/example/keelstream/keelstream/ApiKey;III)Z"⟩ : MethodName)) hown (mvT hZ (hw _ (List.mem_of_getElem? (i := 4) rfl))) (mvT hZ (hw _ (List.mem_of_getElem? (i := 5) rfl))) (mvT hZ (hw _ (List.mem_of_getElem? (i := 6) rfl))) (mvT hZ (hw _ (List.mem_of_getElem? (i := 7) rfl))) (by decide) (backOf (W := 0) (okAll l Z a0 hw [] a_METADATA (0 : Int32) (1 : Int32) (1 : Int32) h0 n0 Z0 ⟨E_METADATA, F_METADATA_minVersion, F_METADATA_maxVersion⟩) hZ (hw _ (List.mem_of_getElem? (i := 7) rfl)) (hw _ (List.mem_of_getElem? (i := 6) rfl)) (by decide) (by decide)) (g := (mkF m 267 #[.val (.int p1), .val (.int p2), .val (.int (3 : Int32)), .val (.ref a_METADATA), .val (.int (0 : Int32)), .val (.int (1 : Int32))] [(.int (1 : Int32)), (.int (1 : Int32)), (.int (0 : Int32)), (.ref a_METADATA)])) rfl (by rw [hml]; rfl) (argsL := [(.ref a_METADATA), (.int (0 : Int32)), (.int (1 : Int32)), (.int (1 : Int32))]) (rest := []) (lenOf pd_1 rfl) rfl (by show 2 * 0 + _ ≤ _; exact Nat.le_of_eq rfl) (hb hby at_267) (fun _ _ => ⟨rfl, e4, (by decide : 0 + 0 ≤ _), (by decide : 0 + 0 ≤ _)⟩)
  dsimp only [Pt.U, Pt.locs, Pt.cells, Pt.slots] at X5 l5 y5 z5 st5 hQ5
  subst l5 y5 z5
  obtain ⟨rfl, N5q, e5⟩ := hQ5
  have N5 := Fr.app N4 N5q
  obtain ⟨_, _, ⟨T6, L6, k6, n6⟩, -, X6, ⟨Lc6, hQ6, l6, y6, z6⟩, st6⟩ := Jvm.LawKit.callS X5 hx (y := (⟨"com/example/keelstream/keelstream/ApiKeySupportsPinLaw", "ok", "(Lcom/example/keelstream/keelstream/ApiKey;III)Z"⟩ : MethodName)) hown (mvT hZ (hw _ (List.mem_of_getElem? (i := 4) rfl))) (mvT hZ (hw _ (List.mem_of_getElem? (i := 5) rfl))) (mvT hZ (hw _ (List.mem_of_getElem? (i := 6) rfl))) (mvT hZ (hw _ (List.mem_of_getElem? (i := 7) rfl))) (by decide) (backOf (W := 0) (okAll l Z a0 hw [] a_METADATA (0 : Int32) (1 : Int32) ((1 : Int32) + (1 : Int32)) h0 n0 Z0 ⟨E_METADATA, F_METADATA_minVersion, F_METADATA_maxVersion⟩) hZ (hw _ (List.mem_of_getElem? (i := 7) rfl)) (hw _ (List.mem_of_getElem? (i := 6) rfl)) (by decide) (by decide)) (g := (mkF m 282 #[.val (.int p1), .val (.int p2), .val (.int (3 : Int32)), .val (.ref a_METADATA), .val (.int (0 : Int32)), .val (.int (1 : Int32))] [(.int ((1 : Int32) + (1 : Int32))), (.int (1 : Int32)), (.int (0 : Int32)), (.ref a_METADATA)])) rfl (by rw [hml]; rfl) (argsL := [(.ref a_METADATA), (.int (0 : Int32)), (.int (1 : Int32)), (.int ((1 : Int32) + (1 : Int32)))]) (rest := []) (lenOf pd_1 rfl) rfl (by show 2 * 0 + _ ≤ _; exact Nat.le_of_eq rfl) (hb hby at_282) (fun _ _ => ⟨rfl, e5, (by decide : 0 + 0 ≤ _), (by decide : 0 + 0 ≤ _)⟩)
  dsimp only [Pt.U, Pt.locs, Pt.cells, Pt.slots] at X6 l6 y6 z6 st6 hQ6
  subst l6 y6 z6
  obtain ⟨rfl, N6q, e6⟩ := hQ6
  have N6 := Fr.app N5 N6q
  obtain ⟨fs, hr, hrun, hended, hW, hsame⟩ := X6.leave (v := some (.int (1 : Int32))) (fun h => by rw [Bd.returns] at h; cases h)
  refine ⟨_, _, pre0 _ ?_, hrun, hended, _, _, rfl, ?_, ⟨_, rfl⟩, hW, hsame.mono (by decide) (by decide)⟩
  · show Steps p.tables e below (s₁.setTop (mkF m 0 #[.val (.int p1), .val (.int p2), .unset, .unset, .unset, .unset] [])) _
    refine XS.iloadN X0.here hx rfl (hb hby at_0) rfl ?_
    show Steps p.tables e below (s₁.setTop (mkF m 1 #[.val (.int p1), .val (.int p2), .unset, .unset, .unset, .unset] [(.int p1)])) _
    refine X0.ldcInt hx hown (mvT hZ (hw _ (List.mem_of_getElem? (i := 0) rfl))) (g := (mkF m 1 #[.val (.int p1), .val (.int p2), .unset, .unset, .unset, .unset] [(.int p1)])) rfl (hb hby at_1) _ ?_
    show Steps p.tables e below (s₁.setTop (mkF m 3 #[.val (.int p1), .val (.int p2), .unset, .unset, .unset, .unset] [(.int (2147483647 : Int32)), (.int p1)])) _
    refine XS.iand X0.here hx rfl (hb hby at_3) rfl ?_
    show Steps p.tables e below (s₁.setTop (mkF m 4 #[.val (.int p1), .val (.int p2), .unset, .unset, .unset, .unset] [(.int (p1 &&& (2147483647 : Int32)))])) _
    refine XS.bipush X0.here hx rfl (hb hby at_4) ?_
    show Steps p.tables e below (s₁.setTop (mkF m 6 #[.val (.int p1), .val (.int p2), .unset, .unset, .unset, .unset] [(.int (12 : Int32)), (.int (p1 &&& (2147483647 : Int32)))])) _
    refine Jvm.RoadKit.iremM (g := (mkF m 6 #[.val (.int p1), .val (.int p2), .unset, .unset, .unset, .unset] [(.int (12 : Int32)), (.int (p1 &&& (2147483647 : Int32)))])) X0 hx rfl (hb hby at_6) rfl (by decide) ?_
    rw [hi]
    show Steps p.tables e below (s₁.setTop (mkF m 7 #[.val (.int p1), .val (.int p2), .unset, .unset, .unset, .unset] [(.int (3 : Int32))])) _
    refine XS.istoreN X0.here hx rfl (hb hby at_7) rfl (l' := #[.val (.int p1), .val (.int p2), .val (.int (3 : Int32)), .unset, .unset, .unset]) rfl ?_
    show Steps p.tables e below (s₁.setTop (mkF m 8 #[.val (.int p1), .val (.int p2), .val (.int (3 : Int32)), .unset, .unset, .unset] [])) _
    refine XS.iloadN X0.here hx rfl (hb hby at_8) rfl ?_
    show Steps p.tables e below (s₁.setTop (mkF m 9 #[.val (.int p1), .val (.int p2), .val (.int (3 : Int32)), .unset, .unset, .unset] [(.int (3 : Int32))])) _
    refine XS.ifYes X0.here hx rfl (pc0 := 9) (pc' := 25) rfl (hb hby at_9) rfl ((if0 _ _).trans (feq (by decide : ¬ ((3 : Int32) = (0 : Int32)))).2) (by decide) (by decide) ?_
    show Steps p.tables e below (s₁.setTop (mkF m 25 #[.val (.int p1), .val (.int p2), .val (.int (3 : Int32)), .unset, .unset, .unset] [])) _
    refine XS.iloadN X0.here hx rfl (hb hby at_25) rfl ?_
    show Steps p.tables e below (s₁.setTop (mkF m 26 #[.val (.int p1), .val (.int p2), .val (.int (3 : Int32)), .unset, .unset, .unset] [(.int (3 : Int32))])) _
    refine XS.iconst X0.here hx rfl (hb hby at_26) ?_
    show Steps p.tables e below (s₁.setTop (mkF m 27 #[.val (.int p1), .val (.int p2), .val (.int (3 : Int32)), .unset, .unset, .unset] [(.int (1 : Int32)), (.int (3 : Int32))])) _
    refine XS.icmpYes X0.here hx rfl (pc0 := 27) (pc' := 43) rfl (hb hby at_27) rfl (feq (by decide : ¬ ((3 : Int32) = (1 : Int32)))).2 (by decide) (by decide) ?_
    show Steps p.tables e below (s₁.setTop (mkF m 43 #[.val (.int p1), .val (.int p2), .val (.int (3 : Int32)), .unset, .unset, .unset] [])) _
    refine XS.iloadN X0.here hx rfl (hb hby at_43) rfl ?_
    show Steps p.tables e below (s₁.setTop (mkF m 44 #[.val (.int p1), .val (.int p2), .val (.int (3 : Int32)), .unset, .unset, .unset] [(.int (3 : Int32))])) _
    refine XS.iconst X0.here hx rfl (hb hby at_44) ?_
    show Steps p.tables e below (s₁.setTop (mkF m 45 #[.val (.int p1), .val (.int p2), .val (.int (3 : Int32)), .unset, .unset, .unset] [(.int (2 : Int32)), (.int (3 : Int32))])) _
    refine XS.icmpYes X0.here hx rfl (pc0 := 45) (pc' := 61) rfl (hb hby at_45) rfl (feq (by decide : ¬ ((3 : Int32) = (2 : Int32)))).2 (by decide) (by decide) ?_
    show Steps p.tables e below (s₁.setTop (mkF m 61 #[.val (.int p1), .val (.int p2), .val (.int (3 : Int32)), .unset, .unset, .unset] [])) _
    refine XS.iloadN X0.here hx rfl (hb hby at_61) rfl ?_
    show Steps p.tables e below (s₁.setTop (mkF m 62 #[.val (.int p1), .val (.int p2), .val (.int (3 : Int32)), .unset, .unset, .unset] [(.int (3 : Int32))])) _
    refine XS.iconst X0.here hx rfl (hb hby at_62) ?_
    show Steps p.tables e below (s₁.setTop (mkF m 63 #[.val (.int p1), .val (.int p2), .val (.int (3 : Int32)), .unset, .unset, .unset] [(.int (3 : Int32)), (.int (3 : Int32))])) _
    refine XS.icmpNo X0.here hx rfl (hb hby at_63) rfl (teq (by decide : (3 : Int32) = (3 : Int32))).2 ?_
    show Steps p.tables e below (s₁.setTop (mkF m 66 #[.val (.int p1), .val (.int p2), .val (.int (3 : Int32)), .unset, .unset, .unset] [])) _
    refine st1 _ ?_
    show Steps p.tables e below (T1.setTop (mkF m 69 #[.val (.int p1), .val (.int p2), .val (.int (3 : Int32)), .unset, .unset, .unset] [(.ref a_METADATA)])) _
    refine XS.astoreN X1.here hx rfl (hb hby at_69) rfl rfl (l' := #[.val (.int p1), .val (.int p2), .val (.int (3 : Int32)), .val (.ref a_METADATA), .unset, .unset]) rfl ?_
    show Steps p.tables e below (T1.setTop (mkF m 70 #[.val (.int p1), .val (.int p2), .val (.int (3 : Int32)), .val (.ref a_METADATA), .unset, .unset] [])) _
    refine XS.iconst X1.here hx rfl (hb hby at_70) ?_
    show Steps p.tables e below (T1.setTop (mkF m 71 #[.val (.int p1), .val (.int p2), .val (.int (3 : Int32)), .val (.ref a_METADATA), .unset, .unset] [(.int (0 : Int32))])) _
    refine XS.istore X1.here hx rfl (hb hby at_71) rfl (l' := #[.val (.int p1), .val (.int p2), .val (.int (3 : Int32)), .val (.ref a_METADATA), .val (.int (0 : Int32)), .unset]) rfl ?_
    show Steps p.tables e below (T1.setTop (mkF m 73 #[.val (.int p1), .val (.int p2), .val (.int (3 : Int32)), .val (.ref a_METADATA), .val (.int (0 : Int32)), .unset] [])) _
    refine XS.iconst X1.here hx rfl (hb hby at_73) ?_
    show Steps p.tables e below (T1.setTop (mkF m 74 #[.val (.int p1), .val (.int p2), .val (.int (3 : Int32)), .val (.ref a_METADATA), .val (.int (0 : Int32)), .unset] [(.int (1 : Int32))])) _
    refine XS.istore X1.here hx rfl (hb hby at_74) rfl (l' := #[.val (.int p1), .val (.int p2), .val (.int (3 : Int32)), .val (.ref a_METADATA), .val (.int (0 : Int32)), .val (.int (1 : Int32))]) rfl ?_
    show Steps p.tables e below (T1.setTop (mkF m 76 #[.val (.int p1), .val (.int p2), .val (.int (3 : Int32)), .val (.ref a_METADATA), .val (.int (0 : Int32)), .val (.int (1 : Int32))] [])) _
    refine XS.goto X1.here hx rfl (pc0 := 76) (pc' := 220) rfl (hb hby at_76) (by decide) (by decide) ?_
    show Steps p.tables e below (T1.setTop (mkF m 220 #[.val (.int p1), .val (.int p2), .val (.int (3 : Int32)), .val (.ref a_METADATA), .val (.int (0 : Int32)), .val (.int (1 : Int32))] [])) _
    refine XS.aloadN X1.here hx rfl (hb hby at_220) rfl rfl ?_
    show Steps p.tables e below (T1.setTop (mkF m 221 #[.val (.int p1), .val (.int p2), .val (.int (3 : Int32)), .val (.ref a_METADATA), .val (.int (0 : Int32)), .val (.int (1 : Int32))] [(.ref a_METADATA)])) _
    refine XS.iload X1.here hx rfl (hb hby at_221) rfl ?_
    show Steps p.tables e below (T1.setTop (mkF m 223 #[.val (.int p1), .val (.int p2), .val (.int (3 : Int32)), .val (.ref a_METADATA), .val (.int (0 : Int32)), .val (.int (1 : Int32))] [(.int (0 : Int32)), (.ref a_METADATA)])) _
    refine XS.iload X1.here hx rfl (hb hby at_223) rfl ?_
    show Steps p.tables e below (T1.setTop (mkF m 225 #[.val (.int p1), .val (.int p2), .val (.int (3 : Int32)), .val (.ref a_METADATA), .val (.int (0 : Int32)), .val (.int (1 : Int32))] [(.int (1 : Int32)), (.int (0 : Int32)), (.ref a_METADATA)])) _
    refine XS.iloadN X1.here hx rfl (hb hby at_225) rfl ?_
    show Steps p.tables e below (T1.setTop (mkF m 226 #[.val (.int p1), .val (.int p2), .val (.int (3 : Int32)), .val (.ref a_METADATA), .val (.int (0 : Int32)), .val (.int (1 : Int32))] [(.int p2), (.int (1 : Int32)), (.int (0 : Int32)), (.ref a_METADATA)])) _
    refine st2 _ ?_
    show Steps p.tables e below (T2.setTop (mkF m 229 #[.val (.int p1), .val (.int p2), .val (.int (3 : Int32)), .val (.ref a_METADATA), .val (.int (0 : Int32)), .val (.int (1 : Int32))] [(.int (1 : Int32))])) _
    refine XS.ifNo X2.here hx rfl (hb hby at_229) rfl ((if0 _ _).trans (feq (by decide : ¬ ((1 : Int32) = (0 : Int32)))).1) ?_
    show Steps p.tables e below (T2.setTop (mkF m 232 #[.val (.int p1), .val (.int p2), .val (.int (3 : Int32)), .val (.ref a_METADATA), .val (.int (0 : Int32)), .val (.int (1 : Int32))] [])) _
    refine XS.aloadN X2.here hx rfl (hb hby at_232) rfl rfl ?_
    show Steps p.tables e below (T2.setTop (mkF m 233 #[.val (.int p1), .val (.int p2), .val (.int (3 : Int32)), .val (.ref a_METADATA), .val (.int (0 : Int32)), .val (.int (1 : Int32))] [(.ref a_METADATA)])) _
    refine XS.iload X2.here hx rfl (hb hby at_233) rfl ?_
    show Steps p.tables e below (T2.setTop (mkF m 235 #[.val (.int p1), .val (.int p2), .val (.int (3 : Int32)), .val (.ref a_METADATA), .val (.int (0 : Int32)), .val (.int (1 : Int32))] [(.int (0 : Int32)), (.ref a_METADATA)])) _
    refine XS.iload X2.here hx rfl (hb hby at_235) rfl ?_
    show Steps p.tables e below (T2.setTop (mkF m 237 #[.val (.int p1), .val (.int p2), .val (.int (3 : Int32)), .val (.ref a_METADATA), .val (.int (0 : Int32)), .val (.int (1 : Int32))] [(.int (1 : Int32)), (.int (0 : Int32)), (.ref a_METADATA)])) _
    refine XS.iload X2.here hx rfl (hb hby at_237) rfl ?_
    show Steps p.tables e below (T2.setTop (mkF m 239 #[.val (.int p1), .val (.int p2), .val (.int (3 : Int32)), .val (.ref a_METADATA), .val (.int (0 : Int32)), .val (.int (1 : Int32))] [(.int (0 : Int32)), (.int (1 : Int32)), (.int (0 : Int32)), (.ref a_METADATA)])) _
    refine XS.iconst X2.here hx rfl (hb hby at_239) ?_
    show Steps p.tables e below (T2.setTop (mkF m 240 #[.val (.int p1), .val (.int p2), .val (.int (3 : Int32)), .val (.ref a_METADATA), .val (.int (0 : Int32)), .val (.int (1 : Int32))] [(.int (1 : Int32)), (.int (0 : Int32)), (.int (1 : Int32)), (.int (0 : Int32)), (.ref a_METADATA)])) _
    refine XS.isub X2.here hx rfl (hb hby at_240) rfl ?_
    show Steps p.tables e below (T2.setTop (mkF m 241 #[.val (.int p1), .val (.int p2), .val (.int (3 : Int32)), .val (.ref a_METADATA), .val (.int (0 : Int32)), .val (.int (1 : Int32))] [(.int ((0 : Int32) - (1 : Int32))), (.int (1 : Int32)), (.int (0 : Int32)), (.ref a_METADATA)])) _
    refine st3 _ ?_
    show Steps p.tables e below (T3.setTop (mkF m 244 #[.val (.int p1), .val (.int p2), .val (.int (3 : Int32)), .val (.ref a_METADATA), .val (.int (0 : Int32)), .val (.int (1 : Int32))] [(.int (1 : Int32))])) _
    refine XS.ifNo X3.here hx rfl (hb hby at_244) rfl ((if0 _ _).trans (feq (by decide : ¬ ((1 : Int32) = (0 : Int32)))).1) ?_
    show Steps p.tables e below (T3.setTop (mkF m 247 #[.val (.int p1), .val (.int p2), .val (.int (3 : Int32)), .val (.ref a_METADATA), .val (.int (0 : Int32)), .val (.int (1 : Int32))] [])) _
    refine XS.aloadN X3.here hx rfl (hb hby at_247) rfl rfl ?_
    show Steps p.tables e below (T3.setTop (mkF m 248 #[.val (.int p1), .val (.int p2), .val (.int (3 : Int32)), .val (.ref a_METADATA), .val (.int (0 : Int32)), .val (.int (1 : Int32))] [(.ref a_METADATA)])) _
    refine XS.iload X3.here hx rfl (hb hby at_248) rfl ?_
    show Steps p.tables e below (T3.setTop (mkF m 250 #[.val (.int p1), .val (.int p2), .val (.int (3 : Int32)), .val (.ref a_METADATA), .val (.int (0 : Int32)), .val (.int (1 : Int32))] [(.int (0 : Int32)), (.ref a_METADATA)])) _
    refine XS.iload X3.here hx rfl (hb hby at_250) rfl ?_
    show Steps p.tables e below (T3.setTop (mkF m 252 #[.val (.int p1), .val (.int p2), .val (.int (3 : Int32)), .val (.ref a_METADATA), .val (.int (0 : Int32)), .val (.int (1 : Int32))] [(.int (1 : Int32)), (.int (0 : Int32)), (.ref a_METADATA)])) _
    refine XS.iload X3.here hx rfl (hb hby at_252) rfl ?_
    show Steps p.tables e below (T3.setTop (mkF m 254 #[.val (.int p1), .val (.int p2), .val (.int (3 : Int32)), .val (.ref a_METADATA), .val (.int (0 : Int32)), .val (.int (1 : Int32))] [(.int (0 : Int32)), (.int (1 : Int32)), (.int (0 : Int32)), (.ref a_METADATA)])) _
    refine st4 _ ?_
    show Steps p.tables e below (T4.setTop (mkF m 257 #[.val (.int p1), .val (.int p2), .val (.int (3 : Int32)), .val (.ref a_METADATA), .val (.int (0 : Int32)), .val (.int (1 : Int32))] [(.int (1 : Int32))])) _
    refine XS.ifNo X4.here hx rfl (hb hby at_257) rfl ((if0 _ _).trans (feq (by decide : ¬ ((1 : Int32) = (0 : Int32)))).1) ?_
    show Steps p.tables e below (T4.setTop (mkF m 260 #[.val (.int p1), .val (.int p2), .val (.int (3 : Int32)), .val (.ref a_METADATA), .val (.int (0 : Int32)), .val (.int (1 : Int32))] [])) _
    refine XS.aloadN X4.here hx rfl (hb hby at_260) rfl rfl ?_
    show Steps p.tables e below (T4.setTop (mkF m 261 #[.val (.int p1), .val (.int p2), .val (.int (3 : Int32)), .val (.ref a_METADATA), .val (.int (0 : Int32)), .val (.int (1 : Int32))] [(.ref a_METADATA)])) _
    refine XS.iload X4.here hx rfl (hb hby at_261) rfl ?_
    show Steps p.tables e below (T4.setTop (mkF m 263 #[.val (.int p1), .val (.int p2), .val (.int (3 : Int32)), .val (.ref a_METADATA), .val (.int (0 : Int32)), .val (.int (1 : Int32))] [(.int (0 : Int32)), (.ref a_METADATA)])) _
    refine XS.iload X4.here hx rfl (hb hby at_263) rfl ?_
    show Steps p.tables e below (T4.setTop (mkF m 265 #[.val (.int p1), .val (.int p2), .val (.int (3 : Int32)), .val (.ref a_METADATA), .val (.int (0 : Int32)), .val (.int (1 : Int32))] [(.int (1 : Int32)), (.int (0 : Int32)), (.ref a_METADATA)])) _
    refine XS.iload X4.here hx rfl (hb hby at_265) rfl ?_
    show Steps p.tables e below (T4.setTop (mkF m 267 #[.val (.int p1), .val (.int p2), .val (.int (3 : Int32)), .val (.ref a_METADATA), .val (.int (0 : Int32)), .val (.int (1 : Int32))] [(.int (1 : Int32)), (.int (1 : Int32)), (.int (0 : Int32)), (.ref a_METADATA)])) _
    refine st5 _ ?_
    show Steps p.tables e below (T5.setTop (mkF m 270 #[.val (.int p1), .val (.int p2), .val (.int (3 : Int32)), .val (.ref a_METADATA), .val (.int (0 : Int32)), .val (.int (1 : Int32))] [(.int (1 : Int32))])) _
    refine XS.ifNo X5.here hx rfl (hb hby at_270) rfl ((if0 _ _).trans (feq (by decide : ¬ ((1 : Int32) = (0 : Int32)))).1) ?_
    show Steps p.tables e below (T5.setTop (mkF m 273 #[.val (.int p1), .val (.int p2), .val (.int (3 : Int32)), .val (.ref a_METADATA), .val (.int (0 : Int32)), .val (.int (1 : Int32))] [])) _
    refine XS.aloadN X5.here hx rfl (hb hby at_273) rfl rfl ?_
    show Steps p.tables e below (T5.setTop (mkF m 274 #[.val (.int p1), .val (.int p2), .val (.int (3 : Int32)), .val (.ref a_METADATA), .val (.int (0 : Int32)), .val (.int (1 : Int32))] [(.ref a_METADATA)])) _
    refine XS.iload X5.here hx rfl (hb hby at_274) rfl ?_
    show Steps p.tables e below (T5.setTop (mkF m 276 #[.val (.int p1), .val (.int p2), .val (.int (3 : Int32)), .val (.ref a_METADATA), .val (.int (0 : Int32)), .val (.int (1 : Int32))] [(.int (0 : Int32)), (.ref a_METADATA)])) _
    refine XS.iload X5.here hx rfl (hb hby at_276) rfl ?_
    show Steps p.tables e below (T5.setTop (mkF m 278 #[.val (.int p1), .val (.int p2), .val (.int (3 : Int32)), .val (.ref a_METADATA), .val (.int (0 : Int32)), .val (.int (1 : Int32))] [(.int (1 : Int32)), (.int (0 : Int32)), (.ref a_METADATA)])) _
    refine XS.iload X5.here hx rfl (hb hby at_278) rfl ?_
    show Steps p.tables e below (T5.setTop (mkF m 280 #[.val (.int p1), .val (.int p2), .val (.int (3 : Int32)), .val (.ref a_METADATA), .val (.int (0 : Int32)), .val (.int (1 : Int32))] [(.int (1 : Int32)), (.int (1 : Int32)), (.int (0 : Int32)), (.ref a_METADATA)])) _
    refine XS.iconst X5.here hx rfl (hb hby at_280) ?_
    show Steps p.tables e below (T5.setTop (mkF m 281 #[.val (.int p1), .val (.int p2), .val (.int (3 : Int32)), .val (.ref a_METADATA), .val (.int (0 : Int32)), .val (.int (1 : Int32))] [(.int (1 : Int32)), (.int (1 : Int32)), (.int (1 : Int32)), (.int (0 : Int32)), (.ref a_METADATA)])) _
    refine XS.iadd X5.here hx rfl (hb hby at_281) rfl ?_
    show Steps p.tables e below (T5.setTop (mkF m 282 #[.val (.int p1), .val (.int p2), .val (.int (3 : Int32)), .val (.ref a_METADATA), .val (.int (0 : Int32)), .val (.int (1 : Int32))] [(.int ((1 : Int32) + (1 : Int32))), (.int (1 : Int32)), (.int (0 : Int32)), (.ref a_METADATA)])) _
    refine st6 _ ?_
    show Steps p.tables e below (T6.setTop (mkF m 285 #[.val (.int p1), .val (.int p2), .val (.int (3 : Int32)), .val (.ref a_METADATA), .val (.int (0 : Int32)), .val (.int (1 : Int32))] [(.int (1 : Int32))])) _
    refine XS.ifNo X6.here hx rfl (hb hby at_285) rfl ((if0 _ _).trans (feq (by decide : ¬ ((1 : Int32) = (0 : Int32)))).1) ?_
    show Steps p.tables e below (T6.setTop (mkF m 288 #[.val (.int p1), .val (.int p2), .val (.int (3 : Int32)), .val (.ref a_METADATA), .val (.int (0 : Int32)), .val (.int (1 : Int32))] [])) _
    refine XS.iconst X6.here hx rfl (hb hby at_288) ?_
    show Steps p.tables e below (T6.setTop (mkF m 289 #[.val (.int p1), .val (.int p2), .val (.int (3 : Int32)), .val (.ref a_METADATA), .val (.int (0 : Int32)), .val (.int (1 : Int32))] [(.int (1 : Int32))])) _
    refine XS.goto X6.here hx rfl (pc0 := 289) (pc' := 293) rfl (hb hby at_289) (by decide) (by decide) ?_
    show Steps p.tables e below (T6.setTop (mkF m 293 #[.val (.int p1), .val (.int p2), .val (.int (3 : Int32)), .val (.ref a_METADATA), .val (.int (0 : Int32)), .val (.int (1 : Int32))] [(.int (1 : Int32))])) _
    exact retN X6 hx (t := .boolean) Bd.returns (by simp) (hb hby at_293) hr
  · exact ⟨rfl, N6⟩
set_option maxRecDepth 65536 in
set_option maxHeartbeats 40000000 in
theorem rm0_11 (l : Launch) (Z : State) (a0 : Array Value) (hw : ∀ d ∈ tables_1, d.before a0 Z = true) (ws : List Jvm.Cond) (a_PRODUCE : Addr) (a_LIST_OFFSETS : Addr) (a_HEARTBEAT : Addr) (a_OFFSET_COMMIT : Addr) (a_FETCH : Addr) (a_FIND_COORDINATOR : Addr) (a_API_VERSIONS : Addr) (a_METADATA : Addr) (a_LEAVE_GROUP : Addr) (a_JOIN_GROUP : Addr) (a_SYNC_GROUP : Addr) (a_OFFSET_FETCH : Addr) (p1 : Int32) (p2 : Int32) (h0 : Heap) (n0 : Nat) (Z0 : n0 ≤ h0.size) (hS : Wd Z h0 a_PRODUCE a_LIST_OFFSETS a_HEARTBEAT a_OFFSET_COMMIT a_FETCH a_FIND_COORDINATOR a_API_VERSIONS a_METADATA a_LEAVE_GROUP a_JOIN_GROUP a_SYNC_GROUP a_OFFSET_FETCH) (hi : ((p1 &&& (2147483647 : Int32)) % (12 : Int32)) = (4 : Int32)) :
    MetFree l x (head1 (Jvm.Cond.code x code maxLocals ret :: ws) room_1) (fun a U => a = #[(.int p1), (.int p2)] ∧ Z.Warmed39 U.vm ∧ U.heap = h0) (fun _ _ _ _ _ => True) (fun _ U o U' => ∃ v L, o = .returned v ∧ Q0 n0 v L ∧ FrameEnd U o U' L room_1.cells room_1.slots) := by
  refine MetFree.of_bodySF (plainFor_of_name pn_com_example_keelstream_keelstream_ApiKeySupportsPinLaw) hisR ?_
  intro p e s m args below meth c s₁ Bd hml0 hP hK
  obtain ⟨rfl, hZ, hh⟩ := hP
  have hx := Bd.exec
  have hby := Bd.bytes
  have hml : c.maxLocals = 6 := hml0
  have hown : s.vm.findClass "com/example/keelstream/keelstream/ApiKeySupportsPinLaw" = some m.cls := findClass_of_methodNamed Bd.named
  have X0 : Stand p l e room_1 s m #[(.int p1), (.int p2)] below meth c s₁ [] 0 0 := Stand.of_body Bd
  have e0 : s₁.heap = h0 := by rw [← hh, Bd.state]; rfl
  have N0 := Fr.nil n0
  have pre0 : ∀ t, Steps p.tables e below (s₁.setTop (mkF m 0 #[.val (.int p1), .val (.int p2), .unset, .unset, .unset, .unset] [])) t → Steps p.tables e below (s₁.setTop (entryFrame m #[(.int p1), (.int p2)] maxLocals)) t := fun t k => castTop (by first | (simp [entryFrame, mkF, argsToLocals, Value.category, maxLocals]; done) | rfl) k
  obtain ⟨S_PRODUCE, E_PRODUCE, S_LIST_OFFSETS, E_LIST_OFFSETS, S_HEARTBEAT, E_HEARTBEAT, S_OFFSET_COMMIT, E_OFFSET_COMMIT, S_FETCH, E_FETCH, S_FIND_COORDINATOR, E_FIND_COORDINATOR, S_API_VERSIONS, E_API_VERSIONS, S_METADATA, E_METADATA, S_LEAVE_GROUP, E_LEAVE_GROUP, S_JOIN_GROUP, E_JOIN_GROUP, S_SYNC_GROUP, E_SYNC_GROUP, S_OFFSET_FETCH, E_OFFSET_FETCH, F_PRODUCE_minVersion, F_PRODUCE_maxVersion, F_LIST_OFFSETS_minVersion, F_LIST_OFFSETS_maxVersion, F_HEARTBEAT_minVersion, F_HEARTBEAT_maxVersion, F_OFFSET_COMMIT_minVersion, F_OFFSET_COMMIT_maxVersion, F_FETCH_minVersion, F_FETCH_maxVersion, F_FIND_COORDINATOR_minVersion, F_FIND_COORDINATOR_maxVersion, F_API_VERSIONS_minVersion, F_API_VERSIONS_maxVersion, F_METADATA_minVersion, F_METADATA_maxVersion, F_LEAVE_GROUP_minVersion, F_LEAVE_GROUP_maxVersion, F_JOIN_GROUP_minVersion, F_JOIN_GROUP_maxVersion, F_SYNC_GROUP_minVersion, F_SYNC_GROUP_maxVersion, F_OFFSET_FETCH_minVersion, F_OFFSET_FETCH_maxVersion⟩ := id hS
  obtain ⟨T1, X1, e1, st1⟩ := getS2 X0 hx hZ hown (host := "") (Or.inl (hw _ (List.mem_of_getElem? (i := 21) rfl))) Via.refl e0 S_OFFSET_COMMIT (g := (mkF m 84 #[.val (.int p1), .val (.int p2), .val (.int (4 : Int32)), .unset, .unset, .unset] [])) rfl (hb hby at_84)
  obtain ⟨_, _, ⟨T2, L2, k2, n2⟩, -, X2, ⟨Lc2, hQ2, l2, y2, z2⟩, st2⟩ := Jvm.LawKit.callS X1 hx (y := (⟨"com/example/keelstream/keelstream/ApiKeySupportsPinLaw", "ok", "(Lcom/example/keelstream/keelstream/ApiKey;III)Z"⟩ : MethodName)) hown (mvT hZ (hw _ (List.mem_of_getElem? (i := 4) rfl))) (mvT hZ (hw _ (List.mem_of_getElem? (i := 5) rfl))) (mvT hZ (hw _ (List.mem_of_getElem? (i := 6) rfl))) (mvT hZ (hw _ (List.mem_of_getElem? (i := 7) rfl))) (by decide) (backOf (W := 0) (okAll l Z a0 hw [] a_OFFSET_COMMIT (2 : Int32) (2 : Int32) p2 h0 n0 Z0 ⟨E_OFFSET_COMMIT, F_OFFSET_COMMIT_minVersion, F_OFFSET_COMMIT_maxVersion⟩) hZ (hw _ (List.mem_of_getElem? (i := 7) rfl)) (hw _ (List.mem_of_getElem? (i := 6) rfl)) (by decide) (by decide)) (g := (mkF m 226 #[.val (.int p1), .val (.int p2), .val (.int (4 : Int32)), .val (.ref a_OFFSET_COMMIT), .val (.int (2 : Int32)), .val (.int (2 : Int32))] [(.int p2), (.int (2 : Int32)), (.int (2 : Int32)), (.ref a_OFFSET_COMMIT)])) rfl (by rw [hml]; rfl) (argsL := [(.ref a_OFFSET_COMMIT), (.int (2 : Int32)), (.int (2 : Int32)), (.int p2)]) (rest := []) (lenOf pd_1 rfl) rfl (by show 2 * 0 + _ ≤ _; exact Nat.le_of_eq rfl) (hb hby at_226) (fun _ _ => ⟨rfl, e1, (by decide : 0 + 0 ≤ _), (by decide : 0 + 0 ≤ _)⟩)
  dsimp only [Pt.U, Pt.locs, Pt.cells, Pt.slots] at X2 l2 y2 z2 st2 hQ2
  subst l2 y2 z2
  obtain ⟨rfl, N2q, e2⟩ := hQ2
  have N2 := Fr.app N0 N2q
  obtain ⟨_, _, ⟨T3, L3, k3, n3⟩, -, X3, ⟨Lc3, hQ3, l3, y3, z3⟩, st3⟩ := Jvm.LawKit.callS X2 hx (y := (⟨"com/example/keelstream/keelstream/ApiKeySupportsPinLaw", "ok", "(Lcom/example/keelstream/keelstream/ApiKey;III)Z"⟩ : MethodName)) hown (mvT hZ (hw _ (List.mem_of_getElem? (i := 4) rfl))) (mvT hZ (hw _ (List.mem_of_getElem? (i := 5) rfl))) (mvT hZ (hw _ (List.mem_of_getElem? (i := 6) rfl))) (mvT hZ (hw _ (List.mem_of_getElem? (i := 7) rfl))) (by decide) (backOf (W := 0) (okAll l Z a0 hw [] a_OFFSET_COMMIT (2 : Int32) (2 : Int32) ((2 : Int32) - (1 : Int32)) h0 n0 Z0 ⟨E_OFFSET_COMMIT, F_OFFSET_COMMIT_minVersion, F_OFFSET_COMMIT_maxVersion⟩) hZ (hw _ (List.mem_of_getElem? (i := 7) rfl)) (hw _ (List.mem_of_getElem? (i := 6) rfl)) (by decide) (by decide)) (g := (mkF m 241 #[.val (.int p1), .val (.int p2), .val (.int (4 : Int32)), .val (.ref a_OFFSET_COMMIT), .val (.int (2 : Int32)), .val (.int (2 : Int32))] [(.int ((2 : Int32) - (1 : Int32))), (.int (2 : Int32)), (.int (2 : Int32)), (.ref a_OFFSET_COMMIT)])) rfl (by rw [hml]; rfl) (argsL := [(.ref a_OFFSET_COMMIT), (.int (2 : Int32)), (.int (2 : Int32)), (.int ((2 : Int32) - (1 : Int32)))]) (rest := []) (lenOf pd_1 rfl) rfl (by show 2 * 0 + _ ≤ _; exact Nat.le_of_eq rfl) (hb hby at_241) (fun _ _ => ⟨rfl, e2, (by decide : 0 + 0 ≤ _), (by decide : 0 + 0 ≤ _)⟩)
  dsimp only [Pt.U, Pt.locs, Pt.cells, Pt.slots] at X3 l3 y3 z3 st3 hQ3
  subst l3 y3 z3
  obtain ⟨rfl, N3q, e3⟩ := hQ3
  have N3 := Fr.app N2 N3q
  obtain ⟨_, _, ⟨T4, L4, k4, n4⟩, -, X4, ⟨Lc4, hQ4, l4, y4, z4⟩, st4⟩ := Jvm.LawKit.callS X3 hx (y := (⟨"com/example/keelstream/keelstream/ApiKeySupportsPinLaw", "ok", "(Lcom/example/keelstream/keelstream/ApiKey;III)Z"⟩ : MethodName)) hown (mvT hZ (hw _ (List.mem_of_getElem? (i := 4) rfl))) (mvT hZ (hw _ (List.mem_of_getElem? (i := 5) rfl))) (mvT hZ (hw _ (List.mem_of_getElem? (i := 6) rfl))) (mvT hZ (hw _ (List.mem_of_getElem? (i := 7) rfl))) (by decide) (backOf (W := 0) (okAll l Z a0 hw [] a_OFFSET_COMMIT (2 : Int32) (2 : Int32) (2 : Int32) h0 n0 Z0 ⟨E_OFFSET_COMMIT, F_OFFSET_COMMIT_minVersion, F_OFFSET_COMMIT_maxVersion⟩) hZ (hw _ (List.mem_of_getElem? (i := 7) rfl)) (hw _ (List.mem_of_getElem? (i := 6) rfl)) (by decide) (by decide)) (g := (mkF m 254 #[.val (.int p1), .val (.int p2), .val (.int (4 : Int32)), .val (.ref a_OFFSET_COMMIT), .val (.int (2 : Int32)), .val (.int (2 : Int32))] [(.int (2 : Int32)), (.int (2 : Int32)), (.int (2 : Int32)), (.ref a_OFFSET_COMMIT)])) rfl (by rw [hml]; rfl) (argsL := [(.ref a_OFFSET_COMMIT), (.int (2 : Int32)), (.int (2 : Int32)), (.int (2 : Int32))]) (rest := []) (lenOf pd_1 rfl) rfl (by show 2 * 0 + _ ≤ _; exact Nat.le_of_eq rfl) (hb hby at_254) (fun _ _ => ⟨rfl, e3, (by decide : 0 + 0 ≤ _), (by decide : 0 + 0 ≤ _)⟩)
  dsimp only [Pt.U, Pt.locs, Pt.cells, Pt.slots] at X4 l4 y4 z4 st4 hQ4
  subst l4 y4 z4
  obtain ⟨rfl, N4q, e4⟩ := hQ4
  have N4 := Fr.app N3 N4q
  obtain ⟨_, _, ⟨T5, L5, k5, n5⟩, -, X5, ⟨Lc5, hQ5, l5, y5, z5⟩, st5⟩ := Jvm.LawKit.callS X4 hx (y := (⟨"com/example/keelstream/keelstream/ApiKeySupportsPinLaw", "ok", "(Lcom/example/keelstream/keelstream/ApiKey;III)Z"⟩ : MethodName)) hown (mvT hZ (hw _ (List.mem_of_getElem? (i := 4) rfl))) (mvT hZ (hw _ (List.mem_of_getElem? (i := 5) rfl))) (mvT hZ (hw _ (List.mem_of_getElem? (i := 6) rfl))) (mvT hZ (hw _ (List.mem_of_getElem? (i := 7) rfl))) (by decide) (backOf (W := 0) (okAll l Z a0 hw [] a_OFFSET_COMMIT (2 : Int32) (2 : Int32) (2 : Int32) h0 n0 Z0 ⟨E_OFFSET_COMMIT, F_OFFSET_COMMIT_minVersion, F_OFFSET_COMMIT_maxVersion⟩) hZ (hw _ (List.mem_of_getElem? (i := 7) rfl)) (hw _ (List.mem_of_getElem? (i := 6) rfl)) (by decide) (by decide)) (g := (mkF m 267 #[.val (.int p1), .val (.int p2), .val (.int (4 : Int32)), .val (.ref a_OFFSET_COMMIT), .val (.int (2 : Int32)), .val (.int (2 : Int32))] [(.int (2 : Int32)), (.int (2 : Int32)), (.int (2 : Int32)), (.ref a_OFFSET_COMMIT)])) rfl (by rw [hml]; rfl) (argsL := [(.ref a_OFFSET_COMMIT), (.int (2 : Int32)), (.int (2 : Int32)), (.int (2 : Int32))]) (rest := []) (lenOf pd_1 rfl) rfl (by show 2 * 0 + _ ≤ _; exact Nat.le_of_eq rfl) (hb hby at_267) (fun _ _ => ⟨rfl, e4, (by decide : 0 + 0 ≤ _), (by decide : 0 + 0 ≤ _)⟩)
  dsimp only [Pt.U, Pt.locs, Pt.cells, Pt.slots] at X5 l5 y5 z5 st5 hQ5
  subst l5 y5 z5
  obtain ⟨rfl, N5q, e5⟩ := hQ5
  have N5 := Fr.app N4 N5q
  obtain ⟨_, _, ⟨T6, L6, k6, n6⟩, -, X6, ⟨Lc6, hQ6, l6, y6, z6⟩, st6⟩ := Jvm.LawKit.callS X5 hx (y := (⟨"com/example/keelstream/keelstream/ApiKeySupportsPinLaw", "ok", "(Lcom/example/keelstream/keelstream/ApiKey;III)Z"⟩ : MethodName)) hown (mvT hZ (hw _ (List.mem_of_getElem? (i := 4) rfl))) (mvT hZ (hw _ (List.mem_of_getElem? (i := 5) rfl))) (mvT hZ (hw _ (List.mem_of_getElem? (i := 6) rfl))) (mvT hZ (hw _ (List.mem_of_getElem? (i := 7) rfl))) (by decide) (backOf (W := 0) (okAll l Z a0 hw [] a_OFFSET_COMMIT (2 : Int32) (2 : Int32) ((2 : Int32) + (1 : Int32)) h0 n0 Z0 ⟨E_OFFSET_COMMIT, F_OFFSET_COMMIT_minVersion, F_OFFSET_COMMIT_maxVersion⟩) hZ (hw _ (List.mem_of_getElem? (i := 7) rfl)) (hw _ (List.mem_of_getElem? (i := 6) rfl)) (by decide) (by decide)) (g := (mkF m 282 #[.val (.int p1), .val (.int p2), .val (.int (4 : Int32)), .val (.ref a_OFFSET_COMMIT), .val (.int (2 : Int32)), .val (.int (2 : Int32))] [(.int ((2 : Int32) + (1 : Int32))), (.int (2 : Int32)), (.int (2 : Int32)), (.ref a_OFFSET_COMMIT)])) rfl (by rw [hml]; rfl) (argsL := [(.ref a_OFFSET_COMMIT), (.int (2 : Int32)), (.int (2 : Int32)), (.int ((2 : Int32) + (1 : Int32)))]) (rest := []) (lenOf pd_1 rfl) rfl (by show 2 * 0 + _ ≤ _; exact Nat.le_of_eq rfl) (hb hby at_282) (fun _ _ => ⟨rfl, e5, (by decide : 0 + 0 ≤ _), (by decide : 0 + 0 ≤ _)⟩)
  dsimp only [Pt.U, Pt.locs, Pt.cells, Pt.slots] at X6 l6 y6 z6 st6 hQ6
  subst l6 y6 z6
  obtain ⟨rfl, N6q, e6⟩ := hQ6
  have N6 := Fr.app N5 N6q
  obtain ⟨fs, hr, hrun, hended, hW, hsame⟩ := X6.leave (v := some (.int (1 : Int32))) (fun h => by rw [Bd.returns] at h; cases h)
  refine ⟨_, _, pre0 _ ?_, hrun, hended, _, _, rfl, ?_, ⟨_, rfl⟩, hW, hsame.mono (by decide) (by decide)⟩
  · show Steps p.tables e below (s₁.setTop (mkF m 0 #[.val (.int p1), .val (.int p2), .unset, .unset, .unset, .unset] [])) _
    refine XS.iloadN X0.here hx rfl (hb hby at_0) rfl ?_
    show Steps p.tables e below (s₁.setTop (mkF m 1 #[.val (.int p1), .val (.int p2), .unset, .unset, .unset, .unset] [(.int p1)])) _
    refine X0.ldcInt hx hown (mvT hZ (hw _ (List.mem_of_getElem? (i := 0) rfl))) (g := (mkF m 1 #[.val (.int p1), .val (.int p2), .unset, .unset, .unset, .unset] [(.int p1)])) rfl (hb hby at_1) _ ?_
    show Steps p.tables e below (s₁.setTop (mkF m 3 #[.val (.int p1), .val (.int p2), .unset, .unset, .unset, .unset] [(.int (2147483647 : Int32)), (.int p1)])) _
    refine XS.iand X0.here hx rfl (hb hby at_3) rfl ?_
    show Steps p.tables e below (s₁.setTop (mkF m 4 #[.val (.int p1), .val (.int p2), .unset, .unset, .unset, .unset] [(.int (p1 &&& (2147483647 : Int32)))])) _
    refine XS.bipush X0.here hx rfl (hb hby at_4) ?_
    show Steps p.tables e below (s₁.setTop (mkF m 6 #[.val (.int p1), .val (.int p2), .unset, .unset, .unset, .unset] [(.int (12 : Int32)), (.int (p1 &&& (2147483647 : Int32)))])) _
    refine Jvm.RoadKit.iremM (g := (mkF m 6 #[.val (.int p1), .val (.int p2), .unset, .unset, .unset, .unset] [(.int (12 : Int32)), (.int (p1 &&& (2147483647 : Int32)))])) X0 hx rfl (hb hby at_6) rfl (by decide) ?_
    rw [hi]
    show Steps p.tables e below (s₁.setTop (mkF m 7 #[.val (.int p1), .val (.int p2), .unset, .unset, .unset, .unset] [(.int (4 : Int32))])) _
    refine XS.istoreN X0.here hx rfl (hb hby at_7) rfl (l' := #[.val (.int p1), .val (.int p2), .val (.int (4 : Int32)), .unset, .unset, .unset]) rfl ?_
    show Steps p.tables e below (s₁.setTop (mkF m 8 #[.val (.int p1), .val (.int p2), .val (.int (4 : Int32)), .unset, .unset, .unset] [])) _
    refine XS.iloadN X0.here hx rfl (hb hby at_8) rfl ?_
    show Steps p.tables e below (s₁.setTop (mkF m 9 #[.val (.int p1), .val (.int p2), .val (.int (4 : Int32)), .unset, .unset, .unset] [(.int (4 : Int32))])) _
    refine XS.ifYes X0.here hx rfl (pc0 := 9) (pc' := 25) rfl (hb hby at_9) rfl ((if0 _ _).trans (feq (by decide : ¬ ((4 : Int32) = (0 : Int32)))).2) (by decide) (by decide) ?_
    show Steps p.tables e below (s₁.setTop (mkF m 25 #[.val (.int p1), .val (.int p2), .val (.int (4 : Int32)), .unset, .unset, .unset] [])) _
    refine XS.iloadN X0.here hx rfl (hb hby at_25) rfl ?_
    show Steps p.tables e below (s₁.setTop (mkF m 26 #[.val (.int p1), .val (.int p2), .val (.int (4 : Int32)), .unset, .unset, .unset] [(.int (4 : Int32))])) _
    refine XS.iconst X0.here hx rfl (hb hby at_26) ?_
    show Steps p.tables e below (s₁.setTop (mkF m 27 #[.val (.int p1), .val (.int p2), .val (.int (4 : Int32)), .unset, .unset, .unset] [(.int (1 : Int32)), (.int (4 : Int32))])) _
    refine XS.icmpYes X0.here hx rfl (pc0 := 27) (pc' := 43) rfl (hb hby at_27) rfl (feq (by decide : ¬ ((4 : Int32) = (1 : Int32)))).2 (by decide) (by decide) ?_
    show Steps p.tables e below (s₁.setTop (mkF m 43 #[.val (.int p1), .val (.int p2), .val (.int (4 : Int32)), .unset, .unset, .unset] [])) _
    refine XS.iloadN X0.here hx rfl (hb hby at_43) rfl ?_
    show Steps p.tables e below (s₁.setTop (mkF m 44 #[.val (.int p1), .val (.int p2), .val (.int (4 : Int32)), .unset, .unset, .unset] [(.int (4 : Int32))])) _
    refine XS.iconst X0.here hx rfl (hb hby at_44) ?_
    show Steps p.tables e below (s₁.setTop (mkF m 45 #[.val (.int p1), .val (.int p2), .val (.int (4 : Int32)), .unset, .unset, .unset] [(.int (2 : Int32)), (.int (4 : Int32))])) _
    refine XS.icmpYes X0.here hx rfl (pc0 := 45) (pc' := 61) rfl (hb hby at_45) rfl (feq (by decide : ¬ ((4 : Int32) = (2 : Int32)))).2 (by decide) (by decide) ?_
    show Steps p.tables e below (s₁.setTop (mkF m 61 #[.val (.int p1), .val (.int p2), .val (.int (4 : Int32)), .unset, .unset, .unset] [])) _
    refine XS.iloadN X0.here hx rfl (hb hby at_61) rfl ?_
    show Steps p.tables e below (s₁.setTop (mkF m 62 #[.val (.int p1), .val (.int p2), .val (.int (4 : Int32)), .unset, .unset, .unset] [(.int (4 : Int32))])) _
    refine XS.iconst X0.here hx rfl (hb hby at_62) ?_
    show Steps p.tables e below (s₁.setTop (mkF m 63 #[.val (.int p1), .val (.int p2), .val (.int (4 : Int32)), .unset, .unset, .unset] [(.int (3 : Int32)), (.int (4 : Int32))])) _
    refine XS.icmpYes X0.here hx rfl (pc0 := 63) (pc' := 79) rfl (hb hby at_63) rfl (feq (by decide : ¬ ((4 : Int32) = (3 : Int32)))).2 (by decide) (by decide) ?_
    show Steps p.tables e below (s₁.setTop (mkF m 79 #[.val (.int p1), .val (.int p2), .val (.int (4 : Int32)), .unset, .unset, .unset] [])) _
    refine XS.iloadN X0.here hx rfl (hb hby at_79) rfl ?_
    show Steps p.tables e below (s₁.setTop (mkF m 80 #[.val (.int p1), .val (.int p2), .val (.int (4 : Int32)), .unset, .unset, .unset] [(.int (4 : Int32))])) _
    refine XS.iconst X0.here hx rfl (hb hby at_80) ?_
    show Steps p.tables e below (s₁.setTop (mkF m 81 #[.val (.int p1), .val (.int p2), .val (.int (4 : Int32)), .unset, .unset, .unset] [(.int (4 : Int32)), (.int (4 : Int32))])) _
    refine XS.icmpNo X0.here hx rfl (hb hby at_81) rfl (teq (by decide : (4 : Int32) = (4 : Int32))).2 ?_
    show Steps p.tables e below (s₁.setTop (mkF m 84 #[.val (.int p1), .val (.int p2), .val (.int (4 : Int32)), .unset, .unset, .unset] [])) _
    refine st1 _ ?_
    show Steps p.tables e below (T1.setTop (mkF m 87 #[.val (.int p1), .val (.int p2), .val (.int (4 : Int32)), .unset, .unset, .unset] [(.ref a_OFFSET_COMMIT)])) _
    refine XS.astoreN X1.here hx rfl (hb hby at_87) rfl rfl (l' := #[.val (.int p1), .val (.int p2), .val (.int (4 : Int32)), .val (.ref a_OFFSET_COMMIT), .unset, .unset]) rfl ?_
    show Steps p.tables e below (T1.setTop (mkF m 88 #[.val (.int p1), .val (.int p2), .val (.int (4 : Int32)), .val (.ref a_OFFSET_COMMIT), .unset, .unset] [])) _
    refine XS.iconst X1.here hx rfl (hb hby at_88) ?_
    show Steps p.tables e below (T1.setTop (mkF m 89 #[.val (.int p1), .val (.int p2), .val (.int (4 : Int32)), .val (.ref a_OFFSET_COMMIT), .unset, .unset] [(.int (2 : Int32))])) _
    refine XS.istore X1.here hx rfl (hb hby at_89) rfl (l' := #[.val (.int p1), .val (.int p2), .val (.int (4 : Int32)), .val (.ref a_OFFSET_COMMIT), .val (.int (2 : Int32)), .unset]) rfl ?_
    show Steps p.tables e below (T1.setTop (mkF m 91 #[.val (.int p1), .val (.int p2), .val (.int (4 : Int32)), .val (.ref a_OFFSET_COMMIT), .val (.int (2 : Int32)), .unset] [])) _
    refine XS.iconst X1.here hx rfl (hb hby at_91) ?_
    show Steps p.tables e below (T1.setTop (mkF m 92 #[.val (.int p1), .val (.int p2), .val (.int (4 : Int32)), .val (.ref a_OFFSET_COMMIT), .val (.int (2 : Int32)), .unset] [(.int (2 : Int32))])) _
    refine XS.istore X1.here hx rfl (hb hby at_92) rfl (l' := #[.val (.int p1), .val (.int p2), .val (.int (4 : Int32)), .val (.ref a_OFFSET_COMMIT), .val (.int (2 : Int32)), .val (.int (2 : Int32))]) rfl ?_
    show Steps p.tables e below (T1.setTop (mkF m 94 #[.val (.int p1), .val (.int p2), .val (.int (4 : Int32)), .val (.ref a_OFFSET_COMMIT), .val (.int (2 : Int32)), .val (.int (2 : Int32))] [])) _
    refine XS.goto X1.here hx rfl (pc0 := 94) (pc' := 220) rfl (hb hby at_94) (by decide) (by decide) ?_
    show Steps p.tables e below (T1.setTop (mkF m 220 #[.val (.int p1), .val (.int p2), .val (.int (4 : Int32)), .val (.ref a_OFFSET_COMMIT), .val (.int (2 : Int32)), .val (.int (2 : Int32))] [])) _
    refine XS.aloadN X1.here hx rfl (hb hby at_220) rfl rfl ?_
    show Steps p.tables e below (T1.setTop (mkF m 221 #[.val (.int p1), .val (.int p2), .val (.int (4 : Int32)), .val (.ref a_OFFSET_COMMIT), .val (.int (2 : Int32)), .val (.int (2 : Int32))] [(.ref a_OFFSET_COMMIT)])) _
    refine XS.iload X1.here hx rfl (hb hby at_221) rfl ?_
    show Steps p.tables e below (T1.setTop (mkF m 223 #[.val (.int p1), .val (.int p2), .val (.int (4 : Int32)), .val (.ref a_OFFSET_COMMIT), .val (.int (2 : Int32)), .val (.int (2 : Int32))] [(.int (2 : Int32)), (.ref a_OFFSET_COMMIT)])) _
    refine XS.iload X1.here hx rfl (hb hby at_223) rfl ?_
    show Steps p.tables e below (T1.setTop (mkF m 225 #[.val (.int p1), .val (.int p2), .val (.int (4 : Int32)), .val (.ref a_OFFSET_COMMIT), .val (.int (2 : Int32)), .val (.int (2 : Int32))] [(.int (2 : Int32)), (.int (2 : Int32)), (.ref a_OFFSET_COMMIT)])) _
    refine XS.iloadN X1.here hx rfl (hb hby at_225) rfl ?_
    show Steps p.tables e below (T1.setTop (mkF m 226 #[.val (.int p1), .val (.int p2), .val (.int (4 : Int32)), .val (.ref a_OFFSET_COMMIT), .val (.int (2 : Int32)), .val (.int (2 : Int32))] [(.int p2), (.int (2 : Int32)), (.int (2 : Int32)), (.ref a_OFFSET_COMMIT)])) _
    refine st2 _ ?_
    show Steps p.tables e below (T2.setTop (mkF m 229 #[.val (.int p1), .val (.int p2), .val (.int (4 : Int32)), .val (.ref a_OFFSET_COMMIT), .val (.int (2 : Int32)), .val (.int (2 : Int32))] [(.int (1 : Int32))])) _
    refine XS.ifNo X2.here hx rfl (hb hby at_229) rfl ((if0 _ _).trans (feq (by decide : ¬ ((1 : Int32) = (0 : Int32)))).1) ?_
    show Steps p.tables e below (T2.setTop (mkF m 232 #[.val (.int p1), .val (.int p2), .val (.int (4 : Int32)), .val (.ref a_OFFSET_COMMIT), .val (.int (2 : Int32)), .val (.int (2 : Int32))] [])) _
    refine XS.aloadN X2.here hx rfl (hb hby at_232) rfl rfl ?_
    show Steps p.tables e below (T2.setTop (mkF m 233 #[.val (.int p1), .val (.int p2), .val (.int (4 : Int32)), .val (.ref a_OFFSET_COMMIT), .val (.int (2 : Int32)), .val (.int (2 : Int32))] [(.ref a_OFFSET_COMMIT)])) _
    refine XS.iload X2.here hx rfl (hb hby at_233) rfl ?_
    show Steps p.tables e below (T2.setTop (mkF m 235 #[.val (.int p1), .val (.int p2), .val (.int (4 : Int32)), .val (.ref a_OFFSET_COMMIT), .val (.int (2 : Int32)), .val (.int (2 : Int32))] [(.int (2 : Int32)), (.ref a_OFFSET_COMMIT)])) _
    refine XS.iload X2.here hx rfl (hb hby at_235) rfl ?_
    show Steps p.tables e below (T2.setTop (mkF m 237 #[.val (.int p1), .val (.int p2), .val (.int (4 : Int32)), .val (.ref a_OFFSET_COMMIT), .val (.int (2 : Int32)), .val (.int (2 : Int32))] [(.int (2 : Int32)), (.int (2 : Int32)), (.ref a_OFFSET_COMMIT)])) _
    refine XS.iload X2.here hx rfl (hb hby at_237) rfl ?_
    show Steps p.tables e below (T2.setTop (mkF m 239 #[.val (.int p1), .val (.int p2), .val (.int (4 : Int32)), .val (.ref a_OFFSET_COMMIT), .val (.int (2 : Int32)), .val (.int (2 : Int32))] [(.int (2 : Int32)), (.int (2 : Int32)), (.int (2 : Int32)), (.ref a_OFFSET_COMMIT)])) _
    refine XS.iconst X2.here hx rfl (hb hby at_239) ?_
    show Steps p.tables e below (T2.setTop (mkF m 240 #[.val (.int p1), .val (.int p2), .val (.int (4 : Int32)), .val (.ref a_OFFSET_COMMIT), .val (.int (2 : Int32)), .val (.int (2 : Int32))] [(.int (1 : Int32)), (.int (2 : Int32)), (.int (2 : Int32)), (.int (2 : Int32)), (.ref a_OFFSET_COMMIT)])) _
    refine XS.isub X2.here hx rfl (hb hby at_240) rfl ?_
    show Steps p.tables e below (T2.setTop (mkF m 241 #[.val (.int p1), .val (.int p2), .val (.int (4 : Int32)), .val (.ref a_OFFSET_COMMIT), .val (.int (2 : Int32)), .val (.int (2 : Int32))] [(.int ((2 : Int32) - (1 : Int32))), (.int (2 : Int32)), (.int (2 : Int32)), (.ref a_OFFSET_COMMIT)])) _
    refine st3 _ ?_
    show Steps p.tables e below (T3.setTop (mkF m 244 #[.val (.int p1), .val (.int p2), .val (.int (4 : Int32)), .val (.ref a_OFFSET_COMMIT), .val (.int (2 : Int32)), .val (.int (2 : Int32))] [(.int (1 : Int32))])) _
    refine XS.ifNo X3.here hx rfl (hb hby at_244) rfl ((if0 _ _).trans (feq (by decide : ¬ ((1 : Int32) = (0 : Int32)))).1) ?_
    show Steps p.tables e below (T3.setTop (mkF m 247 #[.val (.int p1), .val (.int p2), .val (.int (4 : Int32)), .val (.ref a_OFFSET_COMMIT), .val (.int (2 : Int32)), .val (.int (2 : Int32))] [])) _
    refine XS.aloadN X3.here hx rfl (hb hby at_247) rfl rfl ?_
    show Steps p.tables e below (T3.setTop (mkF m 248 #[.val (.int p1), .val (.int p2), .val (.int (4 : Int32)), .val (.ref a_OFFSET_COMMIT), .val (.int (2 : Int32)), .val (.int (2 : Int32))] [(.ref a_OFFSET_COMMIT)])) _
    refine XS.iload X3.here hx rfl (hb hby at_248) rfl ?_
    show Steps p.tables e below (T3.setTop (mkF m 250 #[.val (.int p1), .val (.int p2), .val (.int (4 : Int32)), .val (.ref a_OFFSET_COMMIT), .val (.int (2 : Int32)), .val (.int (2 : Int32))] [(.int (2 : Int32)), (.ref a_OFFSET_COMMIT)])) _
    refine XS.iload X3.here hx rfl (hb hby at_250) rfl ?_
    show Steps p.tables e below (T3.setTop (mkF m 252 #[.val (.int p1), .val (.int p2), .val (.int (4 : Int32)), .val (.ref a_OFFSET_COMMIT), .val (.int (2 : Int32)), .val (.int (2 : Int32))] [(.int (2 : Int32)), (.int (2 : Int32)), (.ref a_OFFSET_COMMIT)])) _
    refine XS.iload X3.here hx rfl (hb hby at_252) rfl ?_
    show Steps p.tables e below (T3.setTop (mkF m 254 #[.val (.int p1), .val (.int p2), .val (.int (4 : Int32)), .val (.ref a_OFFSET_COMMIT), .val (.int (2 : Int32)), .val (.int (2 : Int32))] [(.int (2 : Int32)), (.int (2 : Int32)), (.int (2 : Int32)), (.ref a_OFFSET_COMMIT)])) _
    refine st4 _ ?_
    show Steps p.tables e below (T4.setTop (mkF m 257 #[.val (.int p1), .val (.int p2), .val (.int (4 : Int32)), .val (.ref a_OFFSET_COMMIT), .val (.int (2 : Int32)), .val (.int (2 : Int32))] [(.int (1 : Int32))])) _
    refine XS.ifNo X4.here hx rfl (hb hby at_257) rfl ((if0 _ _).trans (feq (by decide : ¬ ((1 : Int32) = (0 : Int32)))).1) ?_
    show Steps p.tables e below (T4.setTop (mkF m 260 #[.val (.int p1), .val (.int p2), .val (.int (4 : Int32)), .val (.ref a_OFFSET_COMMIT), .val (.int (2 : Int32)), .val (.int (2 : Int32))] [])) _
    refine XS.aloadN X4.here hx rfl (hb hby at_260) rfl rfl ?_
    show Steps p.tables e below (T4.setTop (mkF m 261 #[.val (.int p1), .val (.int p2), .val (.int (4 : Int32)), .val (.ref a_OFFSET_COMMIT), .val (.int (2 : Int32)), .val (.int (2 : Int32))] [(.ref a_OFFSET_COMMIT)])) _
    refine XS.iload X4.here hx rfl (hb hby at_261) rfl ?_
    show Steps p.tables e below (T4.setTop (mkF m 263 #[.val (.int p1), .val (.int p2), .val (.int (4 : Int32)), .val (.ref a_OFFSET_COMMIT), .val (.int (2 : Int32)), .val (.int (2 : Int32))] [(.int (2 : Int32)), (.ref a_OFFSET_COMMIT)])) _
    refine XS.iload X4.here hx rfl (hb hby at_263) rfl ?_
    show Steps p.tables e below (T4.setTop (mkF m 265 #[.val (.int p1), .val (.int p2), .val (.int (4 : Int32)), .val (.ref a_OFFSET_COMMIT), .val (.int (2 : Int32)), .val (.int (2 : Int32))] [(.int (2 : Int32)), (.int (2 : Int32)), (.ref a_OFFSET_COMMIT)])) _
    refine XS.iload X4.here hx rfl (hb hby at_265) rfl ?_
    show Steps p.tables e below (T4.setTop (mkF m 267 #[.val (.int p1), .val (.int p2), .val (.int (4 : Int32)), .val (.ref a_OFFSET_COMMIT), .val (.int (2 : Int32)), .val (.int (2 : Int32))] [(.int (2 : Int32)), (.int (2 : Int32)), (.int (2 : Int32)), (.ref a_OFFSET_COMMIT)])) _
    refine st5 _ ?_
    show Steps p.tables e below (T5.setTop (mkF m 270 #[.val (.int p1), .val (.int p2), .val (.int (4 : Int32)), .val (.ref a_OFFSET_COMMIT), .val (.int (2 : Int32)), .val (.int (2 : Int32))] [(.int (1 : Int32))])) _
    refine XS.ifNo X5.here hx rfl (hb hby at_270) rfl ((if0 _ _).trans (feq (by decide : ¬ ((1 : Int32) = (0 : Int32)))).1) ?_
    show Steps p.tables e below (T5.setTop (mkF m 273 #[.val (.int p1), .val (.int p2), .val (.int (4 : Int32)), .val (.ref a_OFFSET_COMMIT), .val (.int (2 : Int32)), .val (.int (2 : Int32))] [])) _
    refine XS.aloadN X5.here hx rfl (hb hby at_273) rfl rfl ?_
    show Steps p.tables e below (T5.setTop (mkF m 274 #[.val (.int p1), .val (.int p2), .val (.int (4 : Int32)), .val (.ref a_OFFSET_COMMIT), .val (.int (2 : Int32)), .val (.int (2 : Int32))] [(.ref a_OFFSET_COMMIT)])) _
    refine XS.iload X5.here hx rfl (hb hby at_274) rfl ?_
    show Steps p.tables e below (T5.setTop (mkF m 276 #[.val (.int p1), .val (.int p2), .val (.int (4 : Int32)), .val (.ref a_OFFSET_COMMIT), .val (.int (2 : Int32)), .val (.int (2 : Int32))] [(.int (2 : Int32)), (.ref a_OFFSET_COMMIT)])) _
    refine XS.iload X5.here hx rfl (hb hby at_276) rfl ?_
    show Steps p.tables e below (T5.setTop (mkF m 278 #[.val (.int p1), .val (.int p2), .val (.int (4 : Int32)), .val (.ref a_OFFSET_COMMIT), .val (.int (2 : Int32)), .val (.int (2 : Int32))] [(.int (2 : Int32)), (.int (2 : Int32)), (.ref a_OFFSET_COMMIT)])) _
    refine XS.iload X5.here hx rfl (hb hby at_278) rfl ?_
    show Steps p.tables e below (T5.setTop (mkF m 280 #[.val (.int p1), .val (.int p2), .val (.int (4 : Int32)), .val (.ref a_OFFSET_COMMIT), .val (.int (2 : Int32)), .val (.int (2 : Int32))] [(.int (2 : Int32)), (.int (2 : Int32)), (.int (2 : Int32)), (.ref a_OFFSET_COMMIT)])) _
    refine XS.iconst X5.here hx rfl (hb hby at_280) ?_
    show Steps p.tables e below (T5.setTop (mkF m 281 #[.val (.int p1), .val (.int p2), .val (.int (4 : Int32)), .val (.ref a_OFFSET_COMMIT), .val (.int (2 : Int32)), .val (.int (2 : Int32))] [(.int (1 : Int32)), (.int (2 : Int32)), (.int (2 : Int32)), (.int (2 : Int32)), (.ref a_OFFSET_COMMIT)])) _
    refine XS.iadd X5.here hx rfl (hb hby at_281) rfl ?_
    show Steps p.tables e below (T5.setTop (mkF m 282 #[.val (.int p1), .val (.int p2), .val (.int (4 : Int32)), .val (.ref a_OFFSET_COMMIT), .val (.int (2 : Int32)), .val (.int (2 : Int32))] [(.int ((2 : Int32) + (1 : Int32))), (.int (2 : Int32)), (.int (2 : Int32)), (.ref a_OFFSET_COMMIT)])) _
    refine st6 _ ?_
    show Steps p.tables e below (T6.setTop (mkF m 285 #[.val (.int p1), .val (.int p2), .val (.int (4 : Int32)), .val (.ref a_OFFSET_COMMIT), .val (.int (2 : Int32)), .val (.int (2 : Int32))] [(.int (1 : Int32))])) _
    refine XS.ifNo X6.here hx rfl (hb hby at_285) rfl ((if0 _ _).trans (feq (by decide : ¬ ((1 : Int32) = (0 : Int32)))).1) ?_
    show Steps p.tables e below (T6.setTop (mkF m 288 #[.val (.int p1), .val (.int p2), .val (.int (4 : Int32)), .val (.ref a_OFFSET_COMMIT), .val (.int (2 : Int32)), .val (.int (2 : Int32))] [])) _
    refine XS.iconst X6.here hx rfl (hb hby at_288) ?_
    show Steps p.tables e below (T6.setTop (mkF m 289 #[.val (.int p1), .val (.int p2), .val (.int (4 : Int32)), .val (.ref a_OFFSET_COMMIT), .val (.int (2 : Int32)), .val (.int (2 : Int32))] [(.int (1 : Int32))])) _
    refine XS.goto X6.here hx rfl (pc0 := 289) (pc' := 293) rfl (hb hby at_289) (by decide) (by decide) ?_
    show Steps p.tables e below (T6.setTop (mkF m 293 #[.val (.int p1), .val (.int p2), .val (.int (4 : Int32)), .val (.ref a_OFFSET_COMMIT), .val (.int (2 : Int32)), .val (.int (2 : Int32))] [(.int (1 : Int32))])) _
    exact retN X6 hx (t := .boolean) Bd.returns (by simp) (hb hby at_293) hr
  · exact ⟨rfl, N6⟩
set_option maxRecDepth 65536 in
set_option maxHeartbeats 40000000 in
theorem rm0_12 (l : Launch) (Z : State) (a0 : Array Value) (hw : ∀ d ∈ tables_1, d.before a0 Z = true) (ws : List Jvm.Cond) (a_PRODUCE : Addr) (a_LIST_OFFSETS : Addr) (a_HEARTBEAT : Addr) (a_OFFSET_COMMIT : Addr) (a_FETCH : Addr) (a_FIND_COORDINATOR : Addr) (a_API_VERSIONS : Addr) (a_METADATA : Addr) (a_LEAVE_GROUP : Addr) (a_JOIN_GROUP : Addr) (a_SYNC_GROUP : Addr) (a_OFFSET_FETCH : Addr) (p1 : Int32) (p2 : Int32) (h0 : Heap) (n0 : Nat) (Z0 : n0 ≤ h0.size) (hS : Wd Z h0 a_PRODUCE a_LIST_OFFSETS a_HEARTBEAT a_OFFSET_COMMIT a_FETCH a_FIND_COORDINATOR a_API_VERSIONS a_METADATA a_LEAVE_GROUP a_JOIN_GROUP a_SYNC_GROUP a_OFFSET_FETCH) (hi : ((p1 &&& (2147483647 : Int32)) % (12 : Int32)) = (5 : Int32)) :
    MetFree l x (head1 (Jvm.Cond.code x code maxLocals ret :: ws) room_1) (fun a U => a = #[(.int p1), (.int p2)] ∧ Z.Warmed39 U.vm ∧ U.heap = h0) (fun _ _ _ _ _ => True) (fun _ U o U' => ∃ v L, o = .returned v ∧ Q0 n0 v L ∧ FrameEnd U o U' L room_1.cells room_1.slots) := by
  refine MetFree.of_bodySF (plainFor_of_name pn_com_example_keelstream_keelstream_ApiKeySupportsPinLaw) hisR ?_
  intro p e s m args below meth c s₁ Bd hml0 hP hK
  obtain ⟨rfl, hZ, hh⟩ := hP
  have hx := Bd.exec
  have hby := Bd.bytes
  have hml : c.maxLocals = 6 := hml0
  have hown : s.vm.findClass "com/example/keelstream/keelstream/ApiKeySupportsPinLaw" = some m.cls := findClass_of_methodNamed Bd.named
  have X0 : Stand p l e room_1 s m #[(.int p1), (.int p2)] below meth c s₁ [] 0 0 := Stand.of_body Bd
  have e0 : s₁.heap = h0 := by rw [← hh, Bd.state]; rfl
  have N0 := Fr.nil n0
  have pre0 : ∀ t, Steps p.tables e below (s₁.setTop (mkF m 0 #[.val (.int p1), .val (.int p2), .unset, .unset, .unset, .unset] [])) t → Steps p.tables e below (s₁.setTop (entryFrame m #[(.int p1), (.int p2)] maxLocals)) t := fun t k => castTop (by first | (simp [entryFrame, mkF, argsToLocals, Value.category, maxLocals]; done) | rfl) k
  obtain ⟨S_PRODUCE, E_PRODUCE, S_LIST_OFFSETS, E_LIST_OFFSETS, S_HEARTBEAT, E_HEARTBEAT, S_OFFSET_COMMIT, E_OFFSET_COMMIT, S_FETCH, E_FETCH, S_FIND_COORDINATOR, E_FIND_COORDINATOR, S_API_VERSIONS, E_API_VERSIONS, S_METADATA, E_METADATA, S_LEAVE_GROUP, E_LEAVE_GROUP, S_JOIN_GROUP, E_JOIN_GROUP, S_SYNC_GROUP, E_SYNC_GROUP, S_OFFSET_FETCH, E_OFFSET_FETCH, F_PRODUCE_minVersion, F_PRODUCE_maxVersion, F_LIST_OFFSETS_minVersion, F_LIST_OFFSETS_maxVersion, F_HEARTBEAT_minVersion, F_HEARTBEAT_maxVersion, F_OFFSET_COMMIT_minVersion, F_OFFSET_COMMIT_maxVersion, F_FETCH_minVersion, F_FETCH_maxVersion, F_FIND_COORDINATOR_minVersion, F_FIND_COORDINATOR_maxVersion, F_API_VERSIONS_minVersion, F_API_VERSIONS_maxVersion, F_METADATA_minVersion, F_METADATA_maxVersion, F_LEAVE_GROUP_minVersion, F_LEAVE_GROUP_maxVersion, F_JOIN_GROUP_minVersion, F_JOIN_GROUP_maxVersion, F_SYNC_GROUP_minVersion, F_SYNC_GROUP_maxVersion, F_OFFSET_FETCH_minVersion, F_OFFSET_FETCH_maxVersion⟩ := id hS
  obtain ⟨T1, X1, e1, st1⟩ := getS2 X0 hx hZ hown (host := "") (Or.inl (hw _ (List.mem_of_getElem? (i := 37) rfl))) Via.refl e0 S_OFFSET_FETCH (g := (mkF m 102 #[.val (.int p1), .val (.int p2), .val (.int (5 : Int32)), .unset, .unset, .unset] [])) rfl (hb hby at_102)
  obtain ⟨_, _, ⟨T2, L2, k2, n2⟩, -, X2, ⟨Lc2, hQ2, l2, y2, z2⟩, st2⟩ := Jvm.LawKit.callS X1 hx (y := (⟨"com/example/keelstream/keelstream/ApiKeySupportsPinLaw", "ok", "(Lcom/example/keelstream/keelstream/ApiKey;III)Z"⟩ : MethodName)) hown (mvT hZ (hw _ (List.mem_of_getElem? (i := 4) rfl))) (mvT hZ (hw _ (List.mem_of_getElem? (i := 5) rfl))) (mvT hZ (hw _ (List.mem_of_getElem? (i := 6) rfl))) (mvT hZ (hw _ (List.mem_of_getElem? (i := 7) rfl))) (by decide) (backOf (W := 0) (okAll l Z a0 hw [] a_OFFSET_FETCH (1 : Int32) (1 : Int32) p2 h0 n0 Z0 ⟨E_OFFSET_FETCH, F_OFFSET_FETCH_minVersion, F_OFFSET_FETCH_maxVersion⟩) hZ (hw _ (List.mem_of_getElem? (i := 7) rfl)) (hw _ (List.mem_of_getElem? (i := 6) rfl)) (by decide) (by decide)) (g := (mkF m 226 #[.val (.int p1), .val (.int p2), .val (.int (5 : Int32)), .val (.ref a_OFFSET_FETCH), .val (.int (1 : Int32)), .val (.int (1 : Int32))] [(.int p2), (.int (1 : Int32)), (.int (1 : Int32)), (.ref a_OFFSET_FETCH)])) rfl (by rw [hml]; rfl) (argsL := [(.ref a_OFFSET_FETCH), (.int (1 : Int32)), (.int (1 : Int32)), (.int p2)]) (rest := []) (lenOf pd_1 rfl) rfl (by show 2 * 0 + _ ≤ _; exact Nat.le_of_eq rfl) (hb hby at_226) (fun _ _ => ⟨rfl, e1, (by decide : 0 + 0 ≤ _), (by decide : 0 + 0 ≤ _)⟩)
  dsimp only [Pt.U, Pt.locs, Pt.cells, Pt.slots] at X2 l2 y2 z2 st2 hQ2
  subst l2 y2 z2
  obtain ⟨rfl, N2q, e2⟩ := hQ2
  have N2 := Fr.app N0 N2q
  obtain ⟨_, _, ⟨T3, L3, k3, n3⟩, -, X3, ⟨Lc3, hQ3, l3, y3, z3⟩, st3⟩ := Jvm.LawKit.callS X2 hx (y := (⟨"com/example/keelstream/keelstream/ApiKeySupportsPinLaw", "ok", "(Lcom/example/keelstream/keelstream/ApiKey;III)Z"⟩ : MethodName)) hown (mvT hZ (hw _ (List.mem_of_getElem? (i := 4) rfl))) (mvT hZ (hw _ (List.mem_of_getElem? (i := 5) rfl))) (mvT hZ (hw _ (List.mem_of_getElem? (i := 6) rfl))) (mvT hZ (hw _ (List.mem_of_getElem? (i := 7) rfl))) (by decide) (backOf (W := 0) (okAll l Z a0 hw [] a_OFFSET_FETCH (1 : Int32) (1 : Int32) ((1 : Int32) - (1 : Int32)) h0 n0 Z0 ⟨E_OFFSET_FETCH, F_OFFSET_FETCH_minVersion, F_OFFSET_FETCH_maxVersion⟩) hZ (hw _ (List.mem_of_getElem? (i := 7) rfl)) (hw _ (List.mem_of_getElem? (i := 6) rfl)) (by decide) (by decide)) (g := (mkF m 241 #[.val (.int p1), .val (.int p2), .val (.int (5 : Int32)), .val (.ref a_OFFSET_FETCH), .val (.int (1 : Int32)), .val (.int (1 : Int32))] [(.int ((1 : Int32) - (1 : Int32))), (.int (1 : Int32)), (.int (1 : Int32)), (.ref a_OFFSET_FETCH)])) rfl (by rw [hml]; rfl) (argsL := [(.ref a_OFFSET_FETCH), (.int (1 : Int32)), (.int (1 : Int32)), (.int ((1 : Int32) - (1 : Int32)))]) (rest := []) (lenOf pd_1 rfl) rfl (by show 2 * 0 + _ ≤ _; exact Nat.le_of_eq rfl) (hb hby at_241) (fun _ _ => ⟨rfl, e2, (by decide : 0 + 0 ≤ _), (by decide : 0 + 0 ≤ _)⟩)
  dsimp only [Pt.U, Pt.locs, Pt.cells, Pt.slots] at X3 l3 y3 z3 st3 hQ3
  subst l3 y3 z3
  obtain ⟨rfl, N3q, e3⟩ := hQ3
  have N3 := Fr.app N2 N3q
  obtain ⟨_, _, ⟨T4, L4, k4, n4⟩, -, X4, ⟨Lc4, hQ4, l4, y4, z4⟩, st4⟩ := Jvm.LawKit.callS X3 hx (y := (⟨"com/example/keelstream/keelstream/ApiKeySupportsPinLaw", "ok", "(Lcom/example/keelstream/keelstream/ApiKey;III)Z"⟩ : MethodName)) hown (mvT hZ (hw _ (List.mem_of_getElem? (i := 4) rfl))) (mvT hZ (hw _ (List.mem_of_getElem? (i := 5) rfl))) (mvT hZ (hw _ (List.mem_of_getElem? (i := 6) rfl))) (mvT hZ (hw _ (List.mem_of_getElem? (i := 7) rfl))) (by decide) (backOf (W := 0) (okAll l Z a0 hw [] a_OFFSET_FETCH (1 : Int32) (1 : Int32) (1 : Int32) h0 n0 Z0 ⟨E_OFFSET_FETCH, F_OFFSET_FETCH_minVersion, F_OFFSET_FETCH_maxVersion⟩) hZ (hw _ (List.mem_of_getElem? (i := 7) rfl)) (hw _ (List.mem_of_getElem? (i := 6) rfl)) (by decide) (by decide)) (g := (mkF m 254 #[.val (.int p1), .val (.int p2), .val (.int (5 : Int32)), .val (.ref a_OFFSET_FETCH), .val (.int (1 : Int32)), .val (.int (1 : Int32))] [(.int (1 : Int32)), (.int (1 : Int32)), (.int (1 : Int32)), (.ref a_OFFSET_FETCH)])) rfl (by rw [hml]; rfl) (argsL := [(.ref a_OFFSET_FETCH), (.int (1 : Int32)), (.int (1 : Int32)), (.int (1 : Int32))]) (rest := []) (lenOf pd_1 rfl) rfl (by show 2 * 0 + _ ≤ _; exact Nat.le_of_eq rfl) (hb hby at_254) (fun _ _ => ⟨rfl, e3, (by decide : 0 + 0 ≤ _), (by decide : 0 + 0 ≤ _)⟩)
  dsimp only [Pt.U, Pt.locs, Pt.cells, Pt.slots] at X4 l4 y4 z4 st4 hQ4
  subst l4 y4 z4
  obtain ⟨rfl, N4q, e4⟩ := hQ4
  have N4 := Fr.app N3 N4q
  obtain ⟨_, _, ⟨T5, L5, k5, n5⟩, -, X5, ⟨Lc5, hQ5, l5, y5, z5⟩, st5⟩ := Jvm.LawKit.callS X4 hx (y := (⟨"com/example/keelstream/keelstream/ApiKeySupportsPinLaw", "ok", "(Lcom/example/keelstream/keelstream/ApiKey;III)Z"⟩ : MethodName)) hown (mvT hZ (hw _ (List.mem_of_getElem? (i := 4) rfl))) (mvT hZ (hw _ (List.mem_of_getElem? (i := 5) rfl))) (mvT hZ (hw _ (List.mem_of_getElem? (i := 6) rfl))) (mvT hZ (hw _ (List.mem_of_getElem? (i := 7) rfl))) (by decide) (backOf (W := 0) (okAll l Z a0 hw [] a_OFFSET_FETCH (1 : Int32) (1 : Int32) (1 : Int32) h0 n0 Z0 ⟨E_OFFSET_FETCH, F_OFFSET_FETCH_minVersion, F_OFFSET_FETCH_maxVersion⟩) hZ (hw _ (List.mem_of_getElem? (i := 7) rfl)) (hw _ (List.mem_of_getElem? (i := 6) rfl)) (by decide) (by decide)) (g := (mkF m 267 #[.val (.int p1), .val (.int p2), .val (.int (5 : Int32)), .val (.ref a_OFFSET_FETCH), .val (.int (1 : Int32)), .val (.int (1 : Int32))] [(.int (1 : Int32)), (.int (1 : Int32)), (.int (1 : Int32)), (.ref a_OFFSET_FETCH)])) rfl (by rw [hml]; rfl) (argsL := [(.ref a_OFFSET_FETCH), (.int (1 : Int32)), (.int (1 : Int32)), (.int (1 : Int32))]) (rest := []) (lenOf pd_1 rfl) rfl (by show 2 * 0 + _ ≤ _; exact Nat.le_of_eq rfl) (hb hby at_267) (fun _ _ => ⟨rfl, e4, (by decide : 0 + 0 ≤ _), (by decide : 0 + 0 ≤ _)⟩)
  dsimp only [Pt.U, Pt.locs, Pt.cells, Pt.slots] at X5 l5 y5 z5 st5 hQ5
  subst l5 y5 z5
  obtain ⟨rfl, N5q, e5⟩ := hQ5
  have N5 := Fr.app N4 N5q
  obtain ⟨_, _, ⟨T6, L6, k6, n6⟩, -, X6, ⟨Lc6, hQ6, l6, y6, z6⟩, st6⟩ := Jvm.LawKit.callS X5 hx (y := (⟨"com/example/keelstream/keelstream/ApiKeySupportsPinLaw", "ok", "(Lcom/example/keelstream/keelstream/ApiKey;III)Z"⟩ : MethodName)) hown (mvT hZ (hw _ (List.mem_of_getElem? (i := 4) rfl))) (mvT hZ (hw _ (List.mem_of_getElem? (i := 5) rfl))) (mvT hZ (hw _ (List.mem_of_getElem? (i := 6) rfl))) (mvT hZ (hw _ (List.mem_of_getElem? (i := 7) rfl))) (by decide) (backOf (W := 0) (okAll l Z a0 hw [] a_OFFSET_FETCH (1 : Int32) (1 : Int32) ((1 : Int32) + (1 : Int32)) h0 n0 Z0 ⟨E_OFFSET_FETCH, F_OFFSET_FETCH_minVersion, F_OFFSET_FETCH_maxVersion⟩) hZ (hw _ (List.mem_of_getElem? (i := 7) rfl)) (hw _ (List.mem_of_getElem? (i := 6) rfl)) (by decide) (by decide)) (g := (mkF m 282 #[.val (.int p1), .val (.int p2), .val (.int (5 : Int32)), .val (.ref a_OFFSET_FETCH), .val (.int (1 : Int32)), .val (.int (1 : Int32))] [(.int ((1 : Int32) + (1 : Int32))), (.int (1 : Int32)), (.int (1 : Int32)), (.ref a_OFFSET_FETCH)])) rfl (by rw [hml]; rfl) (argsL := [(.ref a_OFFSET_FETCH), (.int (1 : Int32)), (.int (1 : Int32)), (.int ((1 : Int32) + (1 : Int32)))]) (rest := []) (lenOf pd_1 rfl) rfl (by show 2 * 0 + _ ≤ _; exact Nat.le_of_eq rfl) (hb hby at_282) (fun _ _ => ⟨rfl, e5, (by decide : 0 + 0 ≤ _), (by decide : 0 + 0 ≤ _)⟩)
  dsimp only [Pt.U, Pt.locs, Pt.cells, Pt.slots] at X6 l6 y6 z6 st6 hQ6
  subst l6 y6 z6
  obtain ⟨rfl, N6q, e6⟩ := hQ6
  have N6 := Fr.app N5 N6q
  obtain ⟨fs, hr, hrun, hended, hW, hsame⟩ := X6.leave (v := some (.int (1 : Int32))) (fun h => by rw [Bd.returns] at h; cases h)
  refine ⟨_, _, pre0 _ ?_, hrun, hended, _, _, rfl, ?_, ⟨_, rfl⟩, hW, hsame.mono (by decide) (by decide)⟩
  · show Steps p.tables e below (s₁.setTop (mkF m 0 #[.val (.int p1), .val (.int p2), .unset, .unset, .unset, .unset] [])) _
    refine XS.iloadN X0.here hx rfl (hb hby at_0) rfl ?_
    show Steps p.tables e below (s₁.setTop (mkF m 1 #[.val (.int p1), .val (.int p2), .unset, .unset, .unset, .unset] [(.int p1)])) _
    refine X0.ldcInt hx hown (mvT hZ (hw _ (List.mem_of_getElem? (i := 0) rfl))) (g := (mkF m 1 #[.val (.int p1), .val (.int p2), .unset, .unset, .unset, .unset] [(.int p1)])) rfl (hb hby at_1) _ ?_
    show Steps p.tables e below (s₁.setTop (mkF m 3 #[.val (.int p1), .val (.int p2), .unset, .unset, .unset, .unset] [(.int (2147483647 : Int32)), (.int p1)])) _
    refine XS.iand X0.here hx rfl (hb hby at_3) rfl ?_
    show Steps p.tables e below (s₁.setTop (mkF m 4 #[.val (.int p1), .val (.int p2), .unset, .unset, .unset, .unset] [(.int (p1 &&& (2147483647 : Int32)))])) _
    refine XS.bipush X0.here hx rfl (hb hby at_4) ?_
    show Steps p.tables e below (s₁.setTop (mkF m 6 #[.val (.int p1), .val (.int p2), .unset, .unset, .unset, .unset] [(.int (12 : Int32)), (.int (p1 &&& (2147483647 : Int32)))])) _
    refine Jvm.RoadKit.iremM (g := (mkF m 6 #[.val (.int p1), .val (.int p2), .unset, .unset, .unset, .unset] [(.int (12 : Int32)), (.int (p1 &&& (2147483647 : Int32)))])) X0 hx rfl (hb hby at_6) rfl (by decide) ?_
    rw [hi]
    show Steps p.tables e below (s₁.setTop (mkF m 7 #[.val (.int p1), .val (.int p2), .unset, .unset, .unset, .unset] [(.int (5 : Int32))])) _
    refine XS.istoreN X0.here hx rfl (hb hby at_7) rfl (l' := #[.val (.int p1), .val (.int p2), .val (.int (5 : Int32)), .unset, .unset, .unset]) rfl ?_
    show Steps p.tables e below (s₁.setTop (mkF m 8 #[.val (.int p1), .val (.int p2), .val (.int (5 : Int32)), .unset, .unset, .unset] [])) _
    refine XS.iloadN X0.here hx rfl (hb hby at_8) rfl ?_
    show Steps p.tables e below (s₁.setTop (mkF m 9 #[.val (.int p1), .val (.int p2), .val (.int (5 : Int32)), .unset, .unset, .unset] [(.int (5 : Int32))])) _
    refine XS.ifYes X0.here hx rfl (pc0 := 9) (pc' := 25) rfl (hb hby at_9) rfl ((if0 _ _).trans (feq (by decide : ¬ ((5 : Int32) = (0 : Int32)))).2) (by decide) (by decide) ?_
    show Steps p.tables e below (s₁.setTop (mkF m 25 #[.val (.int p1), .val (.int p2), .val (.int (5 : Int32)), .unset, .unset, .unset] [])) _
    refine XS.iloadN X0.here hx rfl (hb hby at_25) rfl ?_
    show Steps p.tables e below (s₁.setTop (mkF m 26 #[.val (.int p1), .val (.int p2), .val (.int (5 : Int32)), .unset, .unset, .unset] [(.int (5 : Int32))])) _
    refine XS.iconst X0.here hx rfl (hb hby at_26) ?_
    show Steps p.tables e below (s₁.setTop (mkF m 27 #[.val (.int p1), .val (.int p2), .val (.int (5 : Int32)), .unset, .unset, .unset] [(.int (1 : Int32)), (.int (5 : Int32))])) _
    refine XS.icmpYes X0.here hx rfl (pc0 := 27) (pc' := 43) rfl (hb hby at_27) rfl (feq (by decide : ¬ ((5 : Int32) = (1 : Int32)))).2 (by decide) (by decide) ?_
    show Steps p.tables e below (s₁.setTop (mkF m 43 #[.val (.int p1), .val (.int p2), .val (.int (5 : Int32)), .unset, .unset, .unset] [])) _
    refine XS.iloadN X0.here hx rfl (hb hby at_43) rfl ?_
    show Steps p.tables e below (s₁.setTop (mkF m 44 #[.val (.int p1), .val (.int p2), .val (.int (5 : Int32)), .unset, .unset, .unset] [(.int (5 : Int32))])) _
    refine XS.iconst X0.here hx rfl (hb hby at_44) ?_
    show Steps p.tables e below (s₁.setTop (mkF m 45 #[.val (.int p1), .val (.int p2), .val (.int (5 : Int32)), .unset, .unset, .unset] [(.int (2 : Int32)), (.int (5 : Int32))])) _
    refine XS.icmpYes X0.here hx rfl (pc0 := 45) (pc' := 61) rfl (hb hby at_45) rfl (feq (by decide : ¬ ((5 : Int32) = (2 : Int32)))).2 (by decide) (by decide) ?_
    show Steps p.tables e below (s₁.setTop (mkF m 61 #[.val (.int p1), .val (.int p2), .val (.int (5 : Int32)), .unset, .unset, .unset] [])) _
    refine XS.iloadN X0.here hx rfl (hb hby at_61) rfl ?_
    show Steps p.tables e below (s₁.setTop (mkF m 62 #[.val (.int p1), .val (.int p2), .val (.int (5 : Int32)), .unset, .unset, .unset] [(.int (5 : Int32))])) _
    refine XS.iconst X0.here hx rfl (hb hby at_62) ?_
    show Steps p.tables e below (s₁.setTop (mkF m 63 #[.val (.int p1), .val (.int p2), .val (.int (5 : Int32)), .unset, .unset, .unset] [(.int (3 : Int32)), (.int (5 : Int32))])) _
    refine XS.icmpYes X0.here hx rfl (pc0 := 63) (pc' := 79) rfl (hb hby at_63) rfl (feq (by decide : ¬ ((5 : Int32) = (3 : Int32)))).2 (by decide) (by decide) ?_
    show Steps p.tables e below (s₁.setTop (mkF m 79 #[.val (.int p1), .val (.int p2), .val (.int (5 : Int32)), .unset, .unset, .unset] [])) _
    refine XS.iloadN X0.here hx rfl (hb hby at_79) rfl ?_
    show Steps p.tables e below (s₁.setTop (mkF m 80 #[.val (.int p1), .val (.int p2), .val (.int (5 : Int32)), .unset, .unset, .unset] [(.int (5 : Int32))])) _
    refine XS.iconst X0.here hx rfl (hb hby at_80) ?_
    show Steps p.tables e below (s₁.setTop (mkF m 81 #[.val (.int p1), .val (.int p2), .val (.int (5 : Int32)), .unset, .unset, .unset] [(.int (4 : Int32)), (.int (5 : Int32))])) _
    refine XS.icmpYes X0.here hx rfl (pc0 := 81) (pc' := 97) rfl (hb hby at_81) rfl (feq (by decide : ¬ ((5 : Int32) = (4 : Int32)))).2 (by decide) (by decide) ?_
    show Steps p.tables e below (s₁.setTop (mkF m 97 #[.val (.int p1), .val (.int p2), .val (.int (5 : Int32)), .unset, .unset, .unset] [])) _
    refine XS.iloadN X0.here hx rfl (hb hby at_97) rfl ?_
    show Steps p.tables e below (s₁.setTop (mkF m 98 #[.val (.int p1), .val (.int p2), .val (.int (5 : Int32)), .unset, .unset, .unset] [(.int (5 : Int32))])) _
    refine XS.iconst X0.here hx rfl (hb hby at_98) ?_
    show Steps p.tables e below (s₁.setTop (mkF m 99 #[.val (.int p1), .val (.int p2), .val (.int (5 : Int32)), .unset, .unset, .unset] [(.int (5 : Int32)), (.int (5 : Int32))])) _
    refine XS.icmpNo X0.here hx rfl (hb hby at_99) rfl (teq (by decide : (5 : Int32) = (5 : Int32))).2 ?_
    show Steps p.tables e below (s₁.setTop (mkF m 102 #[.val (.int p1), .val (.int p2), .val (.int (5 : Int32)), .unset, .unset, .unset] [])) _
    refine st1 _ ?_
    show Steps p.tables e below (T1.setTop (mkF m 105 #[.val (.int p1), .val (.int p2), .val (.int (5 : Int32)), .unset, .unset, .unset] [(.ref a_OFFSET_FETCH)])) _
    refine XS.astoreN X1.here hx rfl (hb hby at_105) rfl rfl (l' := #[.val (.int p1), .val (.int p2), .val (.int (5 : Int32)), .val (.ref a_OFFSET_FETCH), .unset, .unset]) rfl ?_
    show Steps p.tables e below (T1.setTop (mkF m 106 #[.val (.int p1), .val (.int p2), .val (.int (5 : Int32)), .val (.ref a_OFFSET_FETCH), .unset, .unset] [])) _
    refine XS.iconst X1.here hx rfl (hb hby at_106) ?_
    show Steps p.tables e below (T1.setTop (mkF m 107 #[.val (.int p1), .val (.int p2), .val (.int (5 : Int32)), .val (.ref a_OFFSET_FETCH), .unset, .unset] [(.int (1 : Int32))])) _
    refine XS.istore X1.here hx rfl (hb hby at_107) rfl (l' := #[.val (.int p1), .val (.int p2), .val (.int (5 : Int32)), .val (.ref a_OFFSET_FETCH), .val (.int (1 : Int32)), .unset]) rfl ?_
    show Steps p.tables e below (T1.setTop (mkF m 109 #[.val (.int p1), .val (.int p2), .val (.int (5 : Int32)), .val (.ref a_OFFSET_FETCH), .val (.int (1 : Int32)), .unset] [])) _
    refine XS.iconst X1.here hx rfl (hb hby at_109) ?_
    show Steps p.tables e below (T1.setTop (mkF m 110 #[.val (.int p1), .val (.int p2), .val (.int (5 : Int32)), .val (.ref a_OFFSET_FETCH), .val (.int (1 : Int32)), .unset] [(.int (1 : Int32))])) _
    refine XS.istore X1.here hx rfl (hb hby at_110) rfl (l' := #[.val (.int p1), .val (.int p2), .val (.int (5 : Int32)), .val (.ref a_OFFSET_FETCH), .val (.int (1 : Int32)), .val (.int (1 : Int32))]) rfl ?_
    show Steps p.tables e below (T1.setTop (mkF m 112 #[.val (.int p1), .val (.int p2), .val (.int (5 : Int32)), .val (.ref a_OFFSET_FETCH), .val (.int (1 : Int32)), .val (.int (1 : Int32))] [])) _
    refine XS.goto X1.here hx rfl (pc0 := 112) (pc' := 220) rfl (hb hby at_112) (by decide) (by decide) ?_
    show Steps p.tables e below (T1.setTop (mkF m 220 #[.val (.int p1), .val (.int p2), .val (.int (5 : Int32)), .val (.ref a_OFFSET_FETCH), .val (.int (1 : Int32)), .val (.int (1 : Int32))] [])) _
    refine XS.aloadN X1.here hx rfl (hb hby at_220) rfl rfl ?_
    show Steps p.tables e below (T1.setTop (mkF m 221 #[.val (.int p1), .val (.int p2), .val (.int (5 : Int32)), .val (.ref a_OFFSET_FETCH), .val (.int (1 : Int32)), .val (.int (1 : Int32))] [(.ref a_OFFSET_FETCH)])) _
    refine XS.iload X1.here hx rfl (hb hby at_221) rfl ?_
    show Steps p.tables e below (T1.setTop (mkF m 223 #[.val (.int p1), .val (.int p2), .val (.int (5 : Int32)), .val (.ref a_OFFSET_FETCH), .val (.int (1 : Int32)), .val (.int (1 : Int32))] [(.int (1 : Int32)), (.ref a_OFFSET_FETCH)])) _
    refine XS.iload X1.here hx rfl (hb hby at_223) rfl ?_
    show Steps p.tables e below (T1.setTop (mkF m 225 #[.val (.int p1), .val (.int p2), .val (.int (5 : Int32)), .val (.ref a_OFFSET_FETCH), .val (.int (1 : Int32)), .val (.int (1 : Int32))] [(.int (1 : Int32)), (.int (1 : Int32)), (.ref a_OFFSET_FETCH)])) _
    refine XS.iloadN X1.here hx rfl (hb hby at_225) rfl ?_
    show Steps p.tables e below (T1.setTop (mkF m 226 #[.val (.int p1), .val (.int p2), .val (.int (5 : Int32)), .val (.ref a_OFFSET_FETCH), .val (.int (1 : Int32)), .val (.int (1 : Int32))] [(.int p2), (.int (1 : Int32)), (.int (1 : Int32)), (.ref a_OFFSET_FETCH)])) _
    refine st2 _ ?_
    show Steps p.tables e below (T2.setTop (mkF m 229 #[.val (.int p1), .val (.int p2), .val (.int (5 : Int32)), .val (.ref a_OFFSET_FETCH), .val (.int (1 : Int32)), .val (.int (1 : Int32))] [(.int (1 : Int32))])) _
    refine XS.ifNo X2.here hx rfl (hb hby at_229) rfl ((if0 _ _).trans (feq (by decide : ¬ ((1 : Int32) = (0 : Int32)))).1) ?_
    show Steps p.tables e below (T2.setTop (mkF m 232 #[.val (.int p1), .val (.int p2), .val (.int (5 : Int32)), .val (.ref a_OFFSET_FETCH), .val (.int (1 : Int32)), .val (.int (1 : Int32))] [])) _
    refine XS.aloadN X2.here hx rfl (hb hby at_232) rfl rfl ?_
    show Steps p.tables e below (T2.setTop (mkF m 233 #[.val (.int p1), .val (.int p2), .val (.int (5 : Int32)), .val (.ref a_OFFSET_FETCH), .val (.int (1 : Int32)), .val (.int (1 : Int32))] [(.ref a_OFFSET_FETCH)])) _
    refine XS.iload X2.here hx rfl (hb hby at_233) rfl ?_
    show Steps p.tables e below (T2.setTop (mkF m 235 #[.val (.int p1), .val (.int p2), .val (.int (5 : Int32)), .val (.ref a_OFFSET_FETCH), .val (.int (1 : Int32)), .val (.int (1 : Int32))] [(.int (1 : Int32)), (.ref a_OFFSET_FETCH)])) _
    refine XS.iload X2.here hx rfl (hb hby at_235) rfl ?_
    show Steps p.tables e below (T2.setTop (mkF m 237 #[.val (.int p1), .val (.int p2), .val (.int (5 : Int32)), .val (.ref a_OFFSET_FETCH), .val (.int (1 : Int32)), .val (.int (1 : Int32))] [(.int (1 : Int32)), (.int (1 : Int32)), (.ref a_OFFSET_FETCH)])) _
    refine XS.iload X2.here hx rfl (hb hby at_237) rfl ?_
    show Steps p.tables e below (T2.setTop (mkF m 239 #[.val (.int p1), .val (.int p2), .val (.int (5 : Int32)), .val (.ref a_OFFSET_FETCH), .val (.int (1 : Int32)), .val (.int (1 : Int32))] [(.int (1 : Int32)), (.int (1 : Int32)), (.int (1 : Int32)), (.ref a_OFFSET_FETCH)])) _
    refine XS.iconst X2.here hx rfl (hb hby at_239) ?_
    show Steps p.tables e below (T2.setTop (mkF m 240 #[.val (.int p1), .val (.int p2), .val (.int (5 : Int32)), .val (.ref a_OFFSET_FETCH), .val (.int (1 : Int32)), .val (.int (1 : Int32))] [(.int (1 : Int32)), (.int (1 : Int32)), (.int (1 : Int32)), (.int (1 : Int32)), (.ref a_OFFSET_FETCH)])) _
    refine XS.isub X2.here hx rfl (hb hby at_240) rfl ?_
    show Steps p.tables e below (T2.setTop (mkF m 241 #[.val (.int p1), .val (.int p2), .val (.int (5 : Int32)), .val (.ref a_OFFSET_FETCH), .val (.int (1 : Int32)), .val (.int (1 : Int32))] [(.int ((1 : Int32) - (1 : Int32))), (.int (1 : Int32)), (.int (1 : Int32)), (.ref a_OFFSET_FETCH)])) _
    refine st3 _ ?_
    show Steps p.tables e below (T3.setTop (mkF m 244 #[.val (.int p1), .val (.int p2), .val (.int (5 : Int32)), .val (.ref a_OFFSET_FETCH), .val (.int (1 : Int32)), .val (.int (1 : Int32))] [(.int (1 : Int32))])) _
    refine XS.ifNo X3.here hx rfl (hb hby at_244) rfl ((if0 _ _).trans (feq (by decide : ¬ ((1 : Int32) = (0 : Int32)))).1) ?_
    show Steps p.tables e below (T3.setTop (mkF m 247 #[.val (.int p1), .val (.int p2), .val (.int (5 : Int32)), .val (.ref a_OFFSET_FETCH), .val (.int (1 : Int32)), .val (.int (1 : Int32))] [])) _
    refine XS.aloadN X3.here hx rfl (hb hby at_247) rfl rfl ?_
    show Steps p.tables e below (T3.setTop (mkF m 248 #[.val (.int p1), .val (.int p2), .val (.int (5 : Int32)), .val (.ref a_OFFSET_FETCH), .val (.int (1 : Int32)), .val (.int (1 : Int32))] [(.ref a_OFFSET_FETCH)])) _
    refine XS.iload X3.here hx rfl (hb hby at_248) rfl ?_
    show Steps p.tables e below (T3.setTop (mkF m 250 #[.val (.int p1), .val (.int p2), .val (.int (5 : Int32)), .val (.ref a_OFFSET_FETCH), .val (.int (1 : Int32)), .val (.int (1 : Int32))] [(.int (1 : Int32)), (.ref a_OFFSET_FETCH)])) _
    refine XS.iload X3.here hx rfl (hb hby at_250) rfl ?_
    show Steps p.tables e below (T3.setTop (mkF m 252 #[.val (.int p1), .val (.int p2), .val (.int (5 : Int32)), .val (.ref a_OFFSET_FETCH), .val (.int (1 : Int32)), .val (.int (1 : Int32))] [(.int (1 : Int32)), (.int (1 : Int32)), (.ref a_OFFSET_FETCH)])) _
    refine XS.iload X3.here hx rfl (hb hby at_252) rfl ?_
    show Steps p.tables e below (T3.setTop (mkF m 254 #[.val (.int p1), .val (.int p2), .val (.int (5 : Int32)), .val (.ref a_OFFSET_FETCH), .val (.int (1 : Int32)), .val (.int (1 : Int32))] [(.int (1 : Int32)), (.int (1 : Int32)), (.int (1 : Int32)), (.ref a_OFFSET_FETCH)])) _
    refine st4 _ ?_
    show Steps p.tables e below (T4.setTop (mkF m 257 #[.val (.int p1), .val (.int p2), .val (.int (5 : Int32)), .val (.ref a_OFFSET_FETCH), .val (.int (1 : Int32)), .val (.int (1 : Int32))] [(.int (1 : Int32))])) _
    refine XS.ifNo X4.here hx rfl (hb hby at_257) rfl ((if0 _ _).trans (feq (by decide : ¬ ((1 : Int32) = (0 : Int32)))).1) ?_
    show Steps p.tables e below (T4.setTop (mkF m 260 #[.val (.int p1), .val (.int p2), .val (.int (5 : Int32)), .val (.ref a_OFFSET_FETCH), .val (.int (1 : Int32)), .val (.int (1 : Int32))] [])) _
    refine XS.aloadN X4.here hx rfl (hb hby at_260) rfl rfl ?_
    show Steps p.tables e below (T4.setTop (mkF m 261 #[.val (.int p1), .val (.int p2), .val (.int (5 : Int32)), .val (.ref a_OFFSET_FETCH), .val (.int (1 : Int32)), .val (.int (1 : Int32))] [(.ref a_OFFSET_FETCH)])) _
    refine XS.iload X4.here hx rfl (hb hby at_261) rfl ?_
    show Steps p.tables e below (T4.setTop (mkF m 263 #[.val (.int p1), .val (.int p2), .val (.int (5 : Int32)), .val (.ref a_OFFSET_FETCH), .val (.int (1 : Int32)), .val (.int (1 : Int32))] [(.int (1 : Int32)), (.ref a_OFFSET_FETCH)])) _
    refine XS.iload X4.here hx rfl (hb hby at_263) rfl ?_
    show Steps p.tables e below (T4.setTop (mkF m 265 #[.val (.int p1), .val (.int p2), .val (.int (5 : Int32)), .val (.ref a_OFFSET_FETCH), .val (.int (1 : Int32)), .val (.int (1 : Int32))] [(.int (1 : Int32)), (.int (1 : Int32)), (.ref a_OFFSET_FETCH)])) _
    refine XS.iload X4.here hx rfl (hb hby at_265) rfl ?_
    show Steps p.tables e below (T4.setTop (mkF m 267 #[.val (.int p1), .val (.int p2), .val (.int (5 : Int32)), .val (.ref a_OFFSET_FETCH), .val (.int (1 : Int32)), .val (.int (1 : Int32))] [(.int (1 : Int32)), (.int (1 : Int32)), (.int (1 : Int32)), (.ref a_OFFSET_FETCH)])) _
    refine st5 _ ?_
    show Steps p.tables e below (T5.setTop (mkF m 270 #[.val (.int p1), .val (.int p2), .val (.int (5 : Int32)), .val (.ref a_OFFSET_FETCH), .val (.int (1 : Int32)), .val (.int (1 : Int32))] [(.int (1 : Int32))])) _
    refine XS.ifNo X5.here hx rfl (hb hby at_270) rfl ((if0 _ _).trans (feq (by decide : ¬ ((1 : Int32) = (0 : Int32)))).1) ?_
    show Steps p.tables e below (T5.setTop (mkF m 273 #[.val (.int p1), .val (.int p2), .val (.int (5 : Int32)), .val (.ref a_OFFSET_FETCH), .val (.int (1 : Int32)), .val (.int (1 : Int32))] [])) _
    refine XS.aloadN X5.here hx rfl (hb hby at_273) rfl rfl ?_
    show Steps p.tables e below (T5.setTop (mkF m 274 #[.val (.int p1), .val (.int p2), .val (.int (5 : Int32)), .val (.ref a_OFFSET_FETCH), .val (.int (1 : Int32)), .val (.int (1 : Int32))] [(.ref a_OFFSET_FETCH)])) _
    refine XS.iload X5.here hx rfl (hb hby at_274) rfl ?_
    show Steps p.tables e below (T5.setTop (mkF m 276 #[.val (.int p1), .val (.int p2), .val (.int (5 : Int32)), .val (.ref a_OFFSET_FETCH), .val (.int (1 : Int32)), .val (.int (1 : Int32))] [(.int (1 : Int32)), (.ref a_OFFSET_FETCH)])) _
    refine XS.iload X5.here hx rfl (hb hby at_276) rfl ?_
    show Steps p.tables e below (T5.setTop (mkF m 278 #[.val (.int p1), .val (.int p2), .val (.int (5 : Int32)), .val (.ref a_OFFSET_FETCH), .val (.int (1 : Int32)), .val (.int (1 : Int32))] [(.int (1 : Int32)), (.int (1 : Int32)), (.ref a_OFFSET_FETCH)])) _
    refine XS.iload X5.here hx rfl (hb hby at_278) rfl ?_
    show Steps p.tables e below (T5.setTop (mkF m 280 #[.val (.int p1), .val (.int p2), .val (.int (5 : Int32)), .val (.ref a_OFFSET_FETCH), .val (.int (1 : Int32)), .val (.int (1 : Int32))] [(.int (1 : Int32)), (.int (1 : Int32)), (.int (1 : Int32)), (.ref a_OFFSET_FETCH)])) _
    refine XS.iconst X5.here hx rfl (hb hby at_280) ?_
    show Steps p.tables e below (T5.setTop (mkF m 281 #[.val (.int p1), .val (.int p2), .val (.int (5 : Int32)), .val (.ref a_OFFSET_FETCH), .val (.int (1 : Int32)), .val (.int (1 : Int32))] [(.int (1 : Int32)), (.int (1 : Int32)), (.int (1 : Int32)), (.int (1 : Int32)), (.ref a_OFFSET_FETCH)])) _
    refine XS.iadd X5.here hx rfl (hb hby at_281) rfl ?_
    show Steps p.tables e below (T5.setTop (mkF m 282 #[.val (.int p1), .val (.int p2), .val (.int (5 : Int32)), .val (.ref a_OFFSET_FETCH), .val (.int (1 : Int32)), .val (.int (1 : Int32))] [(.int ((1 : Int32) + (1 : Int32))), (.int (1 : Int32)), (.int (1 : Int32)), (.ref a_OFFSET_FETCH)])) _
    refine st6 _ ?_
    show Steps p.tables e below (T6.setTop (mkF m 285 #[.val (.int p1), .val (.int p2), .val (.int (5 : Int32)), .val (.ref a_OFFSET_FETCH), .val (.int (1 : Int32)), .val (.int (1 : Int32))] [(.int (1 : Int32))])) _
    refine XS.ifNo X6.here hx rfl (hb hby at_285) rfl ((if0 _ _).trans (feq (by decide : ¬ ((1 : Int32) = (0 : Int32)))).1) ?_
    show Steps p.tables e below (T6.setTop (mkF m 288 #[.val (.int p1), .val (.int p2), .val (.int (5 : Int32)), .val (.ref a_OFFSET_FETCH), .val (.int (1 : Int32)), .val (.int (1 : Int32))] [])) _
    refine XS.iconst X6.here hx rfl (hb hby at_288) ?_
    show Steps p.tables e below (T6.setTop (mkF m 289 #[.val (.int p1), .val (.int p2), .val (.int (5 : Int32)), .val (.ref a_OFFSET_FETCH), .val (.int (1 : Int32)), .val (.int (1 : Int32))] [(.int (1 : Int32))])) _
    refine XS.goto X6.here hx rfl (pc0 := 289) (pc' := 293) rfl (hb hby at_289) (by decide) (by decide) ?_
    show Steps p.tables e below (T6.setTop (mkF m 293 #[.val (.int p1), .val (.int p2), .val (.int (5 : Int32)), .val (.ref a_OFFSET_FETCH), .val (.int (1 : Int32)), .val (.int (1 : Int32))] [(.int (1 : Int32))])) _
    exact retN X6 hx (t := .boolean) Bd.returns (by simp) (hb hby at_293) hr
  · exact ⟨rfl, N6⟩
set_option maxRecDepth 65536 in
set_option maxHeartbeats 40000000 in
theorem rm0_13 (l : Launch) (Z : State) (a0 : Array Value) (hw : ∀ d ∈ tables_1, d.before a0 Z = true) (ws : List Jvm.Cond) (a_PRODUCE : Addr) (a_LIST_OFFSETS : Addr) (a_HEARTBEAT : Addr) (a_OFFSET_COMMIT : Addr) (a_FETCH : Addr) (a_FIND_COORDINATOR : Addr) (a_API_VERSIONS : Addr) (a_METADATA : Addr) (a_LEAVE_GROUP : Addr) (a_JOIN_GROUP : Addr) (a_SYNC_GROUP : Addr) (a_OFFSET_FETCH : Addr) (p1 : Int32) (p2 : Int32) (h0 : Heap) (n0 : Nat) (Z0 : n0 ≤ h0.size) (hS : Wd Z h0 a_PRODUCE a_LIST_OFFSETS a_HEARTBEAT a_OFFSET_COMMIT a_FETCH a_FIND_COORDINATOR a_API_VERSIONS a_METADATA a_LEAVE_GROUP a_JOIN_GROUP a_SYNC_GROUP a_OFFSET_FETCH) (hi : ((p1 &&& (2147483647 : Int32)) % (12 : Int32)) = (6 : Int32)) :
    MetFree l x (head1 (Jvm.Cond.code x code maxLocals ret :: ws) room_1) (fun a U => a = #[(.int p1), (.int p2)] ∧ Z.Warmed39 U.vm ∧ U.heap = h0) (fun _ _ _ _ _ => True) (fun _ U o U' => ∃ v L, o = .returned v ∧ Q0 n0 v L ∧ FrameEnd U o U' L room_1.cells room_1.slots) := by
  refine MetFree.of_bodySF (plainFor_of_name pn_com_example_keelstream_keelstream_ApiKeySupportsPinLaw) hisR ?_
  intro p e s m args below meth c s₁ Bd hml0 hP hK
  obtain ⟨rfl, hZ, hh⟩ := hP
  have hx := Bd.exec
  have hby := Bd.bytes
  have hml : c.maxLocals = 6 := hml0
  have hown : s.vm.findClass "com/example/keelstream/keelstream/ApiKeySupportsPinLaw" = some m.cls := findClass_of_methodNamed Bd.named
  have X0 : Stand p l e room_1 s m #[(.int p1), (.int p2)] below meth c s₁ [] 0 0 := Stand.of_body Bd
  have e0 : s₁.heap = h0 := by rw [← hh, Bd.state]; rfl
  have N0 := Fr.nil n0
  have pre0 : ∀ t, Steps p.tables e below (s₁.setTop (mkF m 0 #[.val (.int p1), .val (.int p2), .unset, .unset, .unset, .unset] [])) t → Steps p.tables e below (s₁.setTop (entryFrame m #[(.int p1), (.int p2)] maxLocals)) t := fun t k => castTop (by first | (simp [entryFrame, mkF, argsToLocals, Value.category, maxLocals]; done) | rfl) k
  obtain ⟨S_PRODUCE, E_PRODUCE, S_LIST_OFFSETS, E_LIST_OFFSETS, S_HEARTBEAT, E_HEARTBEAT, S_OFFSET_COMMIT, E_OFFSET_COMMIT, S_FETCH, E_FETCH, S_FIND_COORDINATOR, E_FIND_COORDINATOR, S_API_VERSIONS, E_API_VERSIONS, S_METADATA, E_METADATA, S_LEAVE_GROUP, E_LEAVE_GROUP, S_JOIN_GROUP, E_JOIN_GROUP, S_SYNC_GROUP, E_SYNC_GROUP, S_OFFSET_FETCH, E_OFFSET_FETCH, F_PRODUCE_minVersion, F_PRODUCE_maxVersion, F_LIST_OFFSETS_minVersion, F_LIST_OFFSETS_maxVersion, F_HEARTBEAT_minVersion, F_HEARTBEAT_maxVersion, F_OFFSET_COMMIT_minVersion, F_OFFSET_COMMIT_maxVersion, F_FETCH_minVersion, F_FETCH_maxVersion, F_FIND_COORDINATOR_minVersion, F_FIND_COORDINATOR_maxVersion, F_API_VERSIONS_minVersion, F_API_VERSIONS_maxVersion, F_METADATA_minVersion, F_METADATA_maxVersion, F_LEAVE_GROUP_minVersion, F_LEAVE_GROUP_maxVersion, F_JOIN_GROUP_minVersion, F_JOIN_GROUP_maxVersion, F_SYNC_GROUP_minVersion, F_SYNC_GROUP_maxVersion, F_OFFSET_FETCH_minVersion, F_OFFSET_FETCH_maxVersion⟩ := id hS
  obtain ⟨T1, X1, e1, st1⟩ := getS2 X0 hx hZ hown (host := "") (Or.inl (hw _ (List.mem_of_getElem? (i := 25) rfl))) Via.refl e0 S_FIND_COORDINATOR (g := (mkF m 121 #[.val (.int p1), .val (.int p2), .val (.int (6 : Int32)), .unset, .unset, .unset] [])) rfl (hb hby at_121)
  obtain ⟨_, _, ⟨T2, L2, k2, n2⟩, -, X2, ⟨Lc2, hQ2, l2, y2, z2⟩, st2⟩ := Jvm.LawKit.callS X1 hx (y := (⟨"com/example/keelstream/keelstream/ApiKeySupportsPinLaw", "ok", "(Lcom/example/keelstream/keelstream/ApiKey;III)Z"⟩ : MethodName)) hown (mvT hZ (hw _ (List.mem_of_getElem? (i := 4) rfl))) (mvT hZ (hw _ (List.mem_of_getElem? (i := 5) rfl))) (mvT hZ (hw _ (List.mem_of_getElem? (i := 6) rfl))) (mvT hZ (hw _ (List.mem_of_getElem? (i := 7) rfl))) (by decide) (backOf (W := 0) (okAll l Z a0 hw [] a_FIND_COORDINATOR (0 : Int32) (1 : Int32) p2 h0 n0 Z0 ⟨E_FIND_COORDINATOR, F_FIND_COORDINATOR_minVersion, F_FIND_COORDINATOR_maxVersion⟩) hZ (hw _ (List.mem_of_getElem? (i := 7) rfl)) (hw _ (List.mem_of_getElem? (i := 6) rfl)) (by decide) (by decide)) (g := (mkF m 226 #[.val (.int p1), .val (.int p2), .val (.int (6 : Int32)), .val (.ref a_FIND_COORDINATOR), .val (.int (0 : Int32)), .val (.int (1 : Int32))] [(.int p2), (.int (1 : Int32)), (.int (0 : Int32)), (.ref a_FIND_COORDINATOR)])) rfl (by rw [hml]; rfl) (argsL := [(.ref a_FIND_COORDINATOR), (.int (0 : Int32)), (.int (1 : Int32)), (.int p2)]) (rest := []) (lenOf pd_1 rfl) rfl (by show 2 * 0 + _ ≤ _; exact Nat.le_of_eq rfl) (hb hby at_226) (fun _ _ => ⟨rfl, e1, (by decide : 0 + 0 ≤ _), (by decide : 0 + 0 ≤ _)⟩)
  dsimp only [Pt.U, Pt.locs, Pt.cells, Pt.slots] at X2 l2 y2 z2 st2 hQ2
  subst l2 y2 z2
  obtain ⟨rfl, N2q, e2⟩ := hQ2
  have N2 := Fr.app N0 N2q
  obtain ⟨_, _, ⟨T3, L3, k3, n3⟩, -, X3, ⟨Lc3, hQ3, l3, y3, z3⟩, st3⟩ := Jvm.LawKit.callS X2 hx (y := (⟨"com/example/keelstream/keelstream/ApiKeySupportsPinLaw", "ok", "(Lcom/example/keelstream/keelstream/ApiKey;III)Z"⟩ : MethodName)) hown (mvT hZ (hw _ (List.mem_of_getElem? (i := 4) rfl))) (mvT hZ (hw _ (List.mem_of_getElem? (i := 5) rfl))) (mvT hZ (hw _ (List.mem_of_getElem? (i := 6) rfl))) (mvT hZ (hw _ (List.mem_of_getElem? (i := 7) rfl))) (by decide) (backOf (W := 0) (okAll l Z a0 hw [] a_FIND_COORDINATOR (0 : Int32) (1 : Int32) ((0 : Int32) - (1 : Int32)) h0 n0 Z0 ⟨E_FIND_COORDINATOR, F_FIND_COORDINATOR_minVersion, F_FIND_COORDINATOR_maxVersion⟩) hZ (hw _ (List.mem_of_getElem? (i := 7) rfl)) (hw _ (List.mem_of_getElem? (i := 6) rfl)) (by decide) (by decide)) (g := (mkF m 241 #[.val (.int p1), .val (.int p2), .val (.int (6 : Int32)), .val (.ref a_FIND_COORDINATOR), .val (.int (0 : Int32)), .val (.int (1 : Int32))] [(.int ((0 : Int32) - (1 : Int32))), (.int (1 : Int32)), (.int (0 : Int32)), (.ref a_FIND_COORDINATOR)])) rfl (by rw [hml]; rfl) (argsL := [(.ref a_FIND_COORDINATOR), (.int (0 : Int32)), (.int (1 : Int32)), (.int ((0 : Int32) - (1 : Int32)))]) (rest := []) (lenOf pd_1 rfl) rfl (by show 2 * 0 + _ ≤ _; exact Nat.le_of_eq rfl) (hb hby at_241) (fun _ _ => ⟨rfl, e2, (by decide : 0 + 0 ≤ _), (by decide : 0 + 0 ≤ _)⟩)
  dsimp only [Pt.U, Pt.locs, Pt.cells, Pt.slots] at X3 l3 y3 z3 st3 hQ3
  subst l3 y3 z3
  obtain ⟨rfl, N3q, e3⟩ := hQ3
  have N3 := Fr.app N2 N3q
  obtain ⟨_, _, ⟨T4, L4, k4, n4⟩, -, X4, ⟨Lc4, hQ4, l4, y4, z4⟩, st4⟩ := Jvm.LawKit.callS X3 hx (y := (⟨"com/example/keelstream/keelstream/ApiKeySupportsPinLaw", "ok", "(Lcom/example/keelstream/keelstream/ApiKey;III)Z"⟩ : MethodName)) hown (mvT hZ (hw _ (List.mem_of_getElem? (i := 4) rfl))) (mvT hZ (hw _ (List.mem_of_getElem? (i := 5) rfl))) (mvT hZ (hw _ (List.mem_of_getElem? (i := 6) rfl))) (mvT hZ (hw _ (List.mem_of_getElem? (i := 7) rfl))) (by decide) (backOf (W := 0) (okAll l Z a0 hw [] a_FIND_COORDINATOR (0 : Int32) (1 : Int32) (0 : Int32) h0 n0 Z0 ⟨E_FIND_COORDINATOR, F_FIND_COORDINATOR_minVersion, F_FIND_COORDINATOR_maxVersion⟩) hZ (hw _ (List.mem_of_getElem? (i := 7) rfl)) (hw _ (List.mem_of_getElem? (i := 6) rfl)) (by decide) (by decide)) (g := (mkF m 254 #[.val (.int p1), .val (.int p2), .val (.int (6 : Int32)), .val (.ref a_FIND_COORDINATOR), .val (.int (0 : Int32)), .val (.int (1 : Int32))] [(.int (0 : Int32)), (.int (1 : Int32)), (.int (0 : Int32)), (.ref a_FIND_COORDINATOR)])) rfl (by rw [hml]; rfl) (argsL := [(.ref a_FIND_COORDINATOR), (.int (0 : Int32)), (.int (1 : Int32)), (.int (0 : Int32))]) (rest := []) (lenOf pd_1 rfl) rfl (by show 2 * 0 + _ ≤ _; exact Nat.le_of_eq rfl) (hb hby at_254) (fun _ _ => ⟨rfl, e3, (by decide : 0 + 0 ≤ _), (by decide : 0 + 0 ≤ _)⟩)
  dsimp only [Pt.U, Pt.locs, Pt.cells, Pt.slots] at X4 l4 y4 z4 st4 hQ4
  subst l4 y4 z4
  obtain ⟨rfl, N4q, e4⟩ := hQ4
  have N4 := Fr.app N3 N4q
  obtain ⟨_, _, ⟨T5, L5, k5, n5⟩, -, X5, ⟨Lc5, hQ5, l5, y5, z5⟩, st5⟩ := Jvm.LawKit.callS X4 hx (y := (⟨"com/example/keelstream/keelstream/ApiKeySupportsPinLaw", "ok", "(Lcom/example/keelstream/keelstream/ApiKey;III)Z"⟩ : MethodName)) hown (mvT hZ (hw _ (List.mem_of_getElem? (i := 4) rfl))) (mvT hZ (hw _ (List.mem_of_getElem? (i := 5) rfl))) (mvT hZ (hw _ (List.mem_of_getElem? (i := 6) rfl))) (mvT hZ (hw _ (List.mem_of_getElem? (i := 7) rfl))) (by decide) (backOf (W := 0) (okAll l Z a0 hw [] a_FIND_COORDINATOR (0 : Int32) (1 : Int32) (1 : Int32) h0 n0 Z0 ⟨E_FIND_COORDINATOR, F_FIND_COORDINATOR_minVersion, F_FIND_COORDINATOR_maxVersion⟩) hZ (hw _ (List.mem_of_getElem? (i := 7) rfl)) (hw _ (List.mem_of_getElem? (i := 6) rfl)) (by decide) (by decide)) (g := (mkF m 267 #[.val (.int p1), .val (.int p2), .val (.int (6 : Int32)), .val (.ref a_FIND_COORDINATOR), .val (.int (0 : Int32)), .val (.int (1 : Int32))] [(.int (1 : Int32)), (.int (1 : Int32)), (.int (0 : Int32)), (.ref a_FIND_COORDINATOR)])) rfl (by rw [hml]; rfl) (argsL := [(.ref a_FIND_COORDINATOR), (.int (0 : Int32)), (.int (1 : Int32)), (.int (1 : Int32))]) (rest := []) (lenOf pd_1 rfl) rfl (by show 2 * 0 + _ ≤ _; exact Nat.le_of_eq rfl) (hb hby at_267) (fun _ _ => ⟨rfl, e4, (by decide : 0 + 0 ≤ _), (by decide : 0 + 0 ≤ _)⟩)
  dsimp only [Pt.U, Pt.locs, Pt.cells, Pt.slots] at X5 l5 y5 z5 st5 hQ5
  subst l5 y5 z5
  obtain ⟨rfl, N5q, e5⟩ := hQ5
  have N5 := Fr.app N4 N5q
  obtain ⟨_, _, ⟨T6, L6, k6, n6⟩, -, X6, ⟨Lc6, hQ6, l6, y6, z6⟩, st6⟩ := Jvm.LawKit.callS X5 hx (y := (⟨"com/example/keelstream/keelstream/ApiKeySupportsPinLaw", "ok", "(Lcom/example/keelstream/keelstream/ApiKey;III)Z"⟩ : MethodName)) hown (mvT hZ (hw _ (List.mem_of_getElem? (i := 4) rfl))) (mvT hZ (hw _ (List.mem_of_getElem? (i := 5) rfl))) (mvT hZ (hw _ (List.mem_of_getElem? (i := 6) rfl))) (mvT hZ (hw _ (List.mem_of_getElem? (i := 7) rfl))) (by decide) (backOf (W := 0) (okAll l Z a0 hw [] a_FIND_COORDINATOR (0 : Int32) (1 : Int32) ((1 : Int32) + (1 : Int32)) h0 n0 Z0 ⟨E_FIND_COORDINATOR, F_FIND_COORDINATOR_minVersion, F_FIND_COORDINATOR_maxVersion⟩) hZ (hw _ (List.mem_of_getElem? (i := 7) rfl)) (hw _ (List.mem_of_getElem? (i := 6) rfl)) (by decide) (by decide)) (g := (mkF m 282 #[.val (.int p1), .val (.int p2), .val (.int (6 : Int32)), .val (.ref a_FIND_COORDINATOR), .val (.int (0 : Int32)), .val (.int (1 : Int32))] [(.int ((1 : Int32) + (1 : Int32))), (.int (1 : Int32)), (.int (0 : Int32)), (.ref a_FIND_COORDINATOR)])) rfl (by rw [hml]; rfl) (argsL := [(.ref a_FIND_COORDINATOR), (.int (0 : Int32)), (.int (1 : Int32)), (.int ((1 : Int32) + (1 : Int32)))]) (rest := []) (lenOf pd_1 rfl) rfl (by show 2 * 0 + _ ≤ _; exact Nat.le_of_eq rfl) (hb hby at_282) (fun _ _ => ⟨rfl, e5, (by decide : 0 + 0 ≤ _), (by decide : 0 + 0 ≤ _)⟩)
  dsimp only [Pt.U, Pt.locs, Pt.cells, Pt.slots] at X6 l6 y6 z6 st6 hQ6
  subst l6 y6 z6
  obtain ⟨rfl, N6q, e6⟩ := hQ6
  have N6 := Fr.app N5 N6q
  obtain ⟨fs, hr, hrun, hended, hW, hsame⟩ := X6.leave (v := some (.int (1 : Int32))) (fun h => by rw [Bd.returns] at h; cases h)
  refine ⟨_, _, pre0 _ ?_, hrun, hended, _, _, rfl, ?_, ⟨_, rfl⟩, hW, hsame.mono (by decide) (by decide)⟩
  · show Steps p.tables e below (s₁.setTop (mkF m 0 #[.val (.int p1), .val (.int p2), .unset, .unset, .unset, .unset] [])) _
    refine XS.iloadN X0.here hx rfl (hb hby at_0) rfl ?_
    show Steps p.tables e below (s₁.setTop (mkF m 1 #[.val (.int p1), .val (.int p2), .unset, .unset, .unset, .unset] [(.int p1)])) _
    refine X0.ldcInt hx hown (mvT hZ (hw _ (List.mem_of_getElem? (i := 0) rfl))) (g := (mkF m 1 #[.val (.int p1), .val (.int p2), .unset, .unset, .unset, .unset] [(.int p1)])) rfl (hb hby at_1) _ ?_
    show Steps p.tables e below (s₁.setTop (mkF m 3 #[.val (.int p1), .val (.int p2), .unset, .unset, .unset, .unset] [(.int (2147483647 : Int32)), (.int p1)])) _
    refine XS.iand X0.here hx rfl (hb hby at_3) rfl ?_
    show Steps p.tables e below (s₁.setTop (mkF m 4 #[.val (.int p1), .val (.int p2), .unset, .unset, .unset, .unset] [(.int (p1 &&& (2147483647 : Int32)))])) _
    refine XS.bipush X0.here hx rfl (hb hby at_4) ?_
    show Steps p.tables e below (s₁.setTop (mkF m 6 #[.val (.int p1), .val (.int p2), .unset, .unset, .unset, .unset] [(.int (12 : Int32)), (.int (p1 &&& (2147483647 : Int32)))])) _
    refine Jvm.RoadKit.iremM (g := (mkF m 6 #[.val (.int p1), .val (.int p2), .unset, .unset, .unset, .unset] [(.int (12 : Int32)), (.int (p1 &&& (2147483647 : Int32)))])) X0 hx rfl (hb hby at_6) rfl (by decide) ?_
    rw [hi]
    show Steps p.tables e below (s₁.setTop (mkF m 7 #[.val (.int p1), .val (.int p2), .unset, .unset, .unset, .unset] [(.int (6 : Int32))])) _
    refine XS.istoreN X0.here hx rfl (hb hby at_7) rfl (l' := #[.val (.int p1), .val (.int p2), .val (.int (6 : Int32)), .unset, .unset, .unset]) rfl ?_
    show Steps p.tables e below (s₁.setTop (mkF m 8 #[.val (.int p1), .val (.int p2), .val (.int (6 : Int32)), .unset, .unset, .unset] [])) _
    refine XS.iloadN X0.here hx rfl (hb hby at_8) rfl ?_
    show Steps p.tables e below (s₁.setTop (mkF m 9 #[.val (.int p1), .val (.int p2), .val (.int (6 : Int32)), .unset, .unset, .unset] [(.int (6 : Int32))])) _
    refine XS.ifYes X0.here hx rfl (pc0 := 9) (pc' := 25) rfl (hb hby at_9) rfl ((if0 _ _).trans (feq (by decide : ¬ ((6 : Int32) = (0 : Int32)))).2) (by decide) (by decide) ?_
    show Steps p.tables e below (s₁.setTop (mkF m 25 #[.val (.int p1), .val (.int p2), .val (.int (6 : Int32)), .unset, .unset, .unset] [])) _
    refine XS.iloadN X0.here hx rfl (hb hby at_25) rfl ?_
    show Steps p.tables e below (s₁.setTop (mkF m 26 #[.val (.int p1), .val (.int p2), .val (.int (6 : Int32)), .unset, .unset, .unset] [(.int (6 : Int32))])) _
    refine XS.iconst X0.here hx rfl (hb hby at_26) ?_
    show Steps p.tables e below (s₁.setTop (mkF m 27 #[.val (.int p1), .val (.int p2), .val (.int (6 : Int32)), .unset, .unset, .unset] [(.int (1 : Int32)), (.int (6 : Int32))])) _
    refine XS.icmpYes X0.here hx rfl (pc0 := 27) (pc' := 43) rfl (hb hby at_27) rfl (feq (by decide : ¬ ((6 : Int32) = (1 : Int32)))).2 (by decide) (by decide) ?_
    show Steps p.tables e below (s₁.setTop (mkF m 43 #[.val (.int p1), .val (.int p2), .val (.int (6 : Int32)), .unset, .unset, .unset] [])) _
    refine XS.iloadN X0.here hx rfl (hb hby at_43) rfl ?_
    show Steps p.tables e below (s₁.setTop (mkF m 44 #[.val (.int p1), .val (.int p2), .val (.int (6 : Int32)), .unset, .unset, .unset] [(.int (6 : Int32))])) _
    refine XS.iconst X0.here hx rfl (hb hby at_44) ?_
    show Steps p.tables e below (s₁.setTop (mkF m 45 #[.val (.int p1), .val (.int p2), .val (.int (6 : Int32)), .unset, .unset, .unset] [(.int (2 : Int32)), (.int (6 : Int32))])) _
    refine XS.icmpYes X0.here hx rfl (pc0 := 45) (pc' := 61) rfl (hb hby at_45) rfl (feq (by decide : ¬ ((6 : Int32) = (2 : Int32)))).2 (by decide) (by decide) ?_
    show Steps p.tables e below (s₁.setTop (mkF m 61 #[.val (.int p1), .val (.int p2), .val (.int (6 : Int32)), .unset, .unset, .unset] [])) _
    refine XS.iloadN X0.here hx rfl (hb hby at_61) rfl ?_
    show Steps p.tables e below (s₁.setTop (mkF m 62 #[.val (.int p1), .val (.int p2), .val (.int (6 : Int32)), .unset, .unset, .unset] [(.int (6 : Int32))])) _
    refine XS.iconst X0.here hx rfl (hb hby at_62) ?_
    show Steps p.tables e below (s₁.setTop (mkF m 63 #[.val (.int p1), .val (.int p2), .val (.int (6 : Int32)), .unset, .unset, .unset] [(.int (3 : Int32)), (.int (6 : Int32))])) _
    refine XS.icmpYes X0.here hx rfl (pc0 := 63) (pc' := 79) rfl (hb hby at_63) rfl (feq (by decide : ¬ ((6 : Int32) = (3 : Int32)))).2 (by decide) (by decide) ?_
    show Steps p.tables e below (s₁.setTop (mkF m 79 #[.val (.int p1), .val (.int p2), .val (.int (6 : Int32)), .unset, .unset, .unset] [])) _
    refine XS.iloadN X0.here hx rfl (hb hby at_79) rfl ?_
    show Steps p.tables e below (s₁.setTop (mkF m 80 #[.val (.int p1), .val (.int p2), .val (.int (6 : Int32)), .unset, .unset, .unset] [(.int (6 : Int32))])) _
    refine XS.iconst X0.here hx rfl (hb hby at_80) ?_
    show Steps p.tables e below (s₁.setTop (mkF m 81 #[.val (.int p1), .val (.int p2), .val (.int (6 : Int32)), .unset, .unset, .unset] [(.int (4 : Int32)), (.int (6 : Int32))])) _
    refine XS.icmpYes X0.here hx rfl (pc0 := 81) (pc' := 97) rfl (hb hby at_81) rfl (feq (by decide : ¬ ((6 : Int32) = (4 : Int32)))).2 (by decide) (by decide) ?_
    show Steps p.tables e below (s₁.setTop (mkF m 97 #[.val (.int p1), .val (.int p2), .val (.int (6 : Int32)), .unset, .unset, .unset] [])) _
    refine XS.iloadN X0.here hx rfl (hb hby at_97) rfl ?_
    show Steps p.tables e below (s₁.setTop (mkF m 98 #[.val (.int p1), .val (.int p2), .val (.int (6 : Int32)), .unset, .unset, .unset] [(.int (6 : Int32))])) _
    refine XS.iconst X0.here hx rfl (hb hby at_98) ?_
    show Steps p.tables e below (s₁.setTop (mkF m 99 #[.val (.int p1), .val (.int p2), .val (.int (6 : Int32)), .unset, .unset, .unset] [(.int (5 : Int32)), (.int (6 : Int32))])) _
    refine XS.icmpYes X0.here hx rfl (pc0 := 99) (pc' := 115) rfl (hb hby at_99) rfl (feq (by decide : ¬ ((6 : Int32) = (5 : Int32)))).2 (by decide) (by decide) ?_
    show Steps p.tables e below (s₁.setTop (mkF m 115 #[.val (.int p1), .val (.int p2), .val (.int (6 : Int32)), .unset, .unset, .unset] [])) _
    refine XS.iloadN X0.here hx rfl (hb hby at_115) rfl ?_
    show Steps p.tables e below (s₁.setTop (mkF m 116 #[.val (.int p1), .val (.int p2), .val (.int (6 : Int32)), .unset, .unset, .unset] [(.int (6 : Int32))])) _
    refine XS.bipush X0.here hx rfl (hb hby at_116) ?_
    show Steps p.tables e below (s₁.setTop (mkF m 118 #[.val (.int p1), .val (.int p2), .val (.int (6 : Int32)), .unset, .unset, .unset] [(.int (6 : Int32)), (.int (6 : Int32))])) _
    refine XS.icmpNo X0.here hx rfl (hb hby at_118) rfl (teq (by decide : (6 : Int32) = (6 : Int32))).2 ?_
    show Steps p.tables e below (s₁.setTop (mkF m 121 #[.val (.int p1), .val (.int p2), .val (.int (6 : Int32)), .unset, .unset, .unset] [])) _
    refine st1 _ ?_
    show Steps p.tables e below (T1.setTop (mkF m 124 #[.val (.int p1), .val (.int p2), .val (.int (6 : Int32)), .unset, .unset, .unset] [(.ref a_FIND_COORDINATOR)])) _
    refine XS.astoreN X1.here hx rfl (hb hby at_124) rfl rfl (l' := #[.val (.int p1), .val (.int p2), .val (.int (6 : Int32)), .val (.ref a_FIND_COORDINATOR), .unset, .unset]) rfl ?_
    show Steps p.tables e below (T1.setTop (mkF m 125 #[.val (.int p1), .val (.int p2), .val (.int (6 : Int32)), .val (.ref a_FIND_COORDINATOR), .unset, .unset] [])) _
    refine XS.iconst X1.here hx rfl (hb hby at_125) ?_
    show Steps p.tables e below (T1.setTop (mkF m 126 #[.val (.int p1), .val (.int p2), .val (.int (6 : Int32)), .val (.ref a_FIND_COORDINATOR), .unset, .unset] [(.int (0 : Int32))])) _
    refine XS.istore X1.here hx rfl (hb hby at_126) rfl (l' := #[.val (.int p1), .val (.int p2), .val (.int (6 : Int32)), .val (.ref a_FIND_COORDINATOR), .val (.int (0 : Int32)), .unset]) rfl ?_
    show Steps p.tables e below (T1.setTop (mkF m 128 #[.val (.int p1), .val (.int p2), .val (.int (6 : Int32)), .val (.ref a_FIND_COORDINATOR), .val (.int (0 : Int32)), .unset] [])) _
    refine XS.iconst X1.here hx rfl (hb hby at_128) ?_
    show Steps p.tables e below (T1.setTop (mkF m 129 #[.val (.int p1), .val (.int p2), .val (.int (6 : Int32)), .val (.ref a_FIND_COORDINATOR), .val (.int (0 : Int32)), .unset] [(.int (1 : Int32))])) _
    refine XS.istore X1.here hx rfl (hb hby at_129) rfl (l' := #[.val (.int p1), .val (.int p2), .val (.int (6 : Int32)), .val (.ref a_FIND_COORDINATOR), .val (.int (0 : Int32)), .val (.int (1 : Int32))]) rfl ?_
    show Steps p.tables e below (T1.setTop (mkF m 131 #[.val (.int p1), .val (.int p2), .val (.int (6 : Int32)), .val (.ref a_FIND_COORDINATOR), .val (.int (0 : Int32)), .val (.int (1 : Int32))] [])) _
    refine XS.goto X1.here hx rfl (pc0 := 131) (pc' := 220) rfl (hb hby at_131) (by decide) (by decide) ?_
    show Steps p.tables e below (T1.setTop (mkF m 220 #[.val (.int p1), .val (.int p2), .val (.int (6 : Int32)), .val (.ref a_FIND_COORDINATOR), .val (.int (0 : Int32)), .val (.int (1 : Int32))] [])) _
    refine XS.aloadN X1.here hx rfl (hb hby at_220) rfl rfl ?_
    show Steps p.tables e below (T1.setTop (mkF m 221 #[.val (.int p1), .val (.int p2), .val (.int (6 : Int32)), .val (.ref a_FIND_COORDINATOR), .val (.int (0 : Int32)), .val (.int (1 : Int32))] [(.ref a_FIND_COORDINATOR)])) _
    refine XS.iload X1.here hx rfl (hb hby at_221) rfl ?_
    show Steps p.tables e below (T1.setTop (mkF m 223 #[.val (.int p1), .val (.int p2), .val (.int (6 : Int32)), .val (.ref a_FIND_COORDINATOR), .val (.int (0 : Int32)), .val (.int (1 : Int32))] [(.int (0 : Int32)), (.ref a_FIND_COORDINATOR)])) _
    refine XS.iload X1.here hx rfl (hb hby at_223) rfl ?_
    show Steps p.tables e below (T1.setTop (mkF m 225 #[.val (.int p1), .val (.int p2), .val (.int (6 : Int32)), .val (.ref a_FIND_COORDINATOR), .val (.int (0 : Int32)), .val (.int (1 : Int32))] [(.int (1 : Int32)), (.int (0 : Int32)), (.ref a_FIND_COORDINATOR)])) _
    refine XS.iloadN X1.here hx rfl (hb hby at_225) rfl ?_
    show Steps p.tables e below (T1.setTop (mkF m 226 #[.val (.int p1), .val (.int p2), .val (.int (6 : Int32)), .val (.ref a_FIND_COORDINATOR), .val (.int (0 : Int32)), .val (.int (1 : Int32))] [(.int p2), (.int (1 : Int32)), (.int (0 : Int32)), (.ref a_FIND_COORDINATOR)])) _
    refine st2 _ ?_
    show Steps p.tables e below (T2.setTop (mkF m 229 #[.val (.int p1), .val (.int p2), .val (.int (6 : Int32)), .val (.ref a_FIND_COORDINATOR), .val (.int (0 : Int32)), .val (.int (1 : Int32))] [(.int (1 : Int32))])) _
    refine XS.ifNo X2.here hx rfl (hb hby at_229) rfl ((if0 _ _).trans (feq (by decide : ¬ ((1 : Int32) = (0 : Int32)))).1) ?_
    show Steps p.tables e below (T2.setTop (mkF m 232 #[.val (.int p1), .val (.int p2), .val (.int (6 : Int32)), .val (.ref a_FIND_COORDINATOR), .val (.int (0 : Int32)), .val (.int (1 : Int32))] [])) _
    refine XS.aloadN X2.here hx rfl (hb hby at_232) rfl rfl ?_
    show Steps p.tables e below (T2.setTop (mkF m 233 #[.val (.int p1), .val (.int p2), .val (.int (6 : Int32)), .val (.ref a_FIND_COORDINATOR), .val (.int (0 : Int32)), .val (.int (1 : Int32))] [(.ref a_FIND_COORDINATOR)])) _
    refine XS.iload X2.here hx rfl (hb hby at_233) rfl ?_
    show Steps p.tables e below (T2.setTop (mkF m 235 #[.val (.int p1), .val (.int p2), .val (.int (6 : Int32)), .val (.ref a_FIND_COORDINATOR), .val (.int (0 : Int32)), .val (.int (1 : Int32))] [(.int (0 : Int32)), (.ref a_FIND_COORDINATOR)])) _
    refine XS.iload X2.here hx rfl (hb hby at_235) rfl ?_
    show Steps p.tables e below (T2.setTop (mkF m 237 #[.val (.int p1), .val (.int p2), .val (.int (6 : Int32)), .val (.ref a_FIND_COORDINATOR), .val (.int (0 : Int32)), .val (.int (1 : Int32))] [(.int (1 : Int32)), (.int (0 : Int32)), (.ref a_FIND_COORDINATOR)])) _
    refine XS.iload X2.here hx rfl (hb hby at_237) rfl ?_
    show Steps p.tables e below (T2.setTop (mkF m 239 #[.val (.int p1), .val (.int p2), .val (.int (6 : Int32)), .val (.ref a_FIND_COORDINATOR), .val (.int (0 : Int32)), .val (.int (1 : Int32))] [(.int (0 : Int32)), (.int (1 : Int32)), (.int (0 : Int32)), (.ref a_FIND_COORDINATOR)])) _
    refine XS.iconst X2.here hx rfl (hb hby at_239) ?_
    show Steps p.tables e below (T2.setTop (mkF m 240 #[.val (.int p1), .val (.int p2), .val (.int (6 : Int32)), .val (.ref a_FIND_COORDINATOR), .val (.int (0 : Int32)), .val (.int (1 : Int32))] [(.int (1 : Int32)), (.int (0 : Int32)), (.int (1 : Int32)), (.int (0 : Int32)), (.ref a_FIND_COORDINATOR)])) _
    refine XS.isub X2.here hx rfl (hb hby at_240) rfl ?_
    show Steps p.tables e below (T2.setTop (mkF m 241 #[.val (.int p1), .val (.int p2), .val (.int (6 : Int32)), .val (.ref a_FIND_COORDINATOR), .val (.int (0 : Int32)), .val (.int (1 : Int32))] [(.int ((0 : Int32) - (1 : Int32))), (.int (1 : Int32)), (.int (0 : Int32)), (.ref a_FIND_COORDINATOR)])) _
    refine st3 _ ?_
    show Steps p.tables e below (T3.setTop (mkF m 244 #[.val (.int p1), .val (.int p2), .val (.int (6 : Int32)), .val (.ref a_FIND_COORDINATOR), .val (.int (0 : Int32)), .val (.int (1 : Int32))] [(.int (1 : Int32))])) _
    refine XS.ifNo X3.here hx rfl (hb hby at_244) rfl ((if0 _ _).trans (feq (by decide : ¬ ((1 : Int32) = (0 : Int32)))).1) ?_
    show Steps p.tables e below (T3.setTop (mkF m 247 #[.val (.int p1), .val (.int p2), .val (.int (6 : Int32)), .val (.ref a_FIND_COORDINATOR), .val (.int (0 : Int32)), .val (.int (1 : Int32))] [])) _
    refine XS.aloadN X3.here hx rfl (hb hby at_247) rfl rfl ?_
    show Steps p.tables e below (T3.setTop (mkF m 248 #[.val (.int p1), .val (.int p2), .val (.int (6 : Int32)), .val (.ref a_FIND_COORDINATOR), .val (.int (0 : Int32)), .val (.int (1 : Int32))] [(.ref a_FIND_COORDINATOR)])) _
    refine XS.iload X3.here hx rfl (hb hby at_248) rfl ?_
    show Steps p.tables e below (T3.setTop (mkF m 250 #[.val (.int p1), .val (.int p2), .val (.int (6 : Int32)), .val (.ref a_FIND_COORDINATOR), .val (.int (0 : Int32)), .val (.int (1 : Int32))] [(.int (0 : Int32)), (.ref a_FIND_COORDINATOR)])) _
    refine XS.iload X3.here hx rfl (hb hby at_250) rfl ?_
    show Steps p.tables e below (T3.setTop (mkF m 252 #[.val (.int p1), .val (.int p2), .val (.int (6 : Int32)), .val (.ref a_FIND_COORDINATOR), .val (.int (0 : Int32)), .val (.int (1 : Int32))] [(.int (1 : Int32)), (.int (0 : Int32)), (.ref a_FIND_COORDINATOR)])) _
    refine XS.iload X3.here hx rfl (hb hby at_252) rfl ?_
    show Steps p.tables e below (T3.setTop (mkF m 254 #[.val (.int p1), .val (.int p2), .val (.int (6 : Int32)), .val (.ref a_FIND_COORDINATOR), .val (.int (0 : Int32)), .val (.int (1 : Int32))] [(.int (0 : Int32)), (.int (1 : Int32)), (.int (0 : Int32)), (.ref a_FIND_COORDINATOR)])) _
    refine st4 _ ?_
    show Steps p.tables e below (T4.setTop (mkF m 257 #[.val (.int p1), .val (.int p2), .val (.int (6 : Int32)), .val (.ref a_FIND_COORDINATOR), .val (.int (0 : Int32)), .val (.int (1 : Int32))] [(.int (1 : Int32))])) _
    refine XS.ifNo X4.here hx rfl (hb hby at_257) rfl ((if0 _ _).trans (feq (by decide : ¬ ((1 : Int32) = (0 : Int32)))).1) ?_
    show Steps p.tables e below (T4.setTop (mkF m 260 #[.val (.int p1), .val (.int p2), .val (.int (6 : Int32)), .val (.ref a_FIND_COORDINATOR), .val (.int (0 : Int32)), .val (.int (1 : Int32))] [])) _
    refine XS.aloadN X4.here hx rfl (hb hby at_260) rfl rfl ?_
    show Steps p.tables e below (T4.setTop (mkF m 261 #[.val (.int p1), .val (.int p2), .val (.int (6 : Int32)), .val (.ref a_FIND_COORDINATOR), .val (.int (0 : Int32)), .val (.int (1 : Int32))] [(.ref a_FIND_COORDINATOR)])) _
    refine XS.iload X4.here hx rfl (hb hby at_261) rfl ?_
    show Steps p.tables e below (T4.setTop (mkF m 263 #[.val (.int p1), .val (.int p2), .val (.int (6 : Int32)), .val (.ref a_FIND_COORDINATOR), .val (.int (0 : Int32)), .val (.int (1 : Int32))] [(.int (0 : Int32)), (.ref a_FIND_COORDINATOR)])) _
    refine XS.iload X4.here hx rfl (hb hby at_263) rfl ?_
    show Steps p.tables e below (T4.setTop (mkF m 265 #[.val (.int p1), .val (.int p2), .val (.int (6 : Int32)), .val (.ref a_FIND_COORDINATOR), .val (.int (0 : Int32)), .val (.int (1 : Int32))] [(.int (1 : Int32)), (.int (0 : Int32)), (.ref a_FIND_COORDINATOR)])) _
    refine XS.iload X4.here hx rfl (hb hby at_265) rfl ?_
    show Steps p.tables e below (T4.setTop (mkF m 267 #[.val (.int p1), .val (.int p2), .val (.int (6 : Int32)), .val (.ref a_FIND_COORDINATOR), .val (.int (0 : Int32)), .val (.int (1 : Int32))] [(.int (1 : Int32)), (.int (1 : Int32)), (.int (0 : Int32)), (.ref a_FIND_COORDINATOR)])) _
    refine st5 _ ?_
    show Steps p.tables e below (T5.setTop (mkF m 270 #[.val (.int p1), .val (.int p2), .val (.int (6 : Int32)), .val (.ref a_FIND_COORDINATOR), .val (.int (0 : Int32)), .val (.int (1 : Int32))] [(.int (1 : Int32))])) _
    refine XS.ifNo X5.here hx rfl (hb hby at_270) rfl ((if0 _ _).trans (feq (by decide : ¬ ((1 : Int32) = (0 : Int32)))).1) ?_
    show Steps p.tables e below (T5.setTop (mkF m 273 #[.val (.int p1), .val (.int p2), .val (.int (6 : Int32)), .val (.ref a_FIND_COORDINATOR), .val (.int (0 : Int32)), .val (.int (1 : Int32))] [])) _
    refine XS.aloadN X5.here hx rfl (hb hby at_273) rfl rfl ?_
    show Steps p.tables e below (T5.setTop (mkF m 274 #[.val (.int p1), .val (.int p2), .val (.int (6 : Int32)), .val (.ref a_FIND_COORDINATOR), .val (.int (0 : Int32)), .val (.int (1 : Int32))] [(.ref a_FIND_COORDINATOR)])) _
    refine XS.iload X5.here hx rfl (hb hby at_274) rfl ?_
    show Steps p.tables e below (T5.setTop (mkF m 276 #[.val (.int p1), .val (.int p2), .val (.int (6 : Int32)), .val (.ref a_FIND_COORDINATOR), .val (.int (0 : Int32)), .val (.int (1 : Int32))] [(.int (0 : Int32)), (.ref a_FIND_COORDINATOR)])) _
    refine XS.iload X5.here hx rfl (hb hby at_276) rfl ?_
    show Steps p.tables e below (T5.setTop (mkF m 278 #[.val (.int p1), .val (.int p2), .val (.int (6 : Int32)), .val (.ref a_FIND_COORDINATOR), .val (.int (0 : Int32)), .val (.int (1 : Int32))] [(.int (1 : Int32)), (.int (0 : Int32)), (.ref a_FIND_COORDINATOR)])) _
    refine XS.iload X5.here hx rfl (hb hby at_278) rfl ?_
    show Steps p.tables e below (T5.setTop (mkF m 280 #[.val (.int p1), .val (.int p2), .val (.int (6 : Int32)), .val (.ref a_FIND_COORDINATOR), .val (.int (0 : Int32)), .val (.int (1 : Int32))] [(.int (1 : Int32)), (.int (1 : Int32)), (.int (0 : Int32)), (.ref a_FIND_COORDINATOR)])) _
    refine XS.iconst X5.here hx rfl (hb hby at_280) ?_
    show Steps p.tables e below (T5.setTop (mkF m 281 #[.val (.int p1), .val (.int p2), .val (.int (6 : Int32)), .val (.ref a_FIND_COORDINATOR), .val (.int (0 : Int32)), .val (.int (1 : Int32))] [(.int (1 : Int32)), (.int (1 : Int32)), (.int (1 : Int32)), (.int (0 : Int32)), (.ref a_FIND_COORDINATOR)])) _
    refine XS.iadd X5.here hx rfl (hb hby at_281) rfl ?_
    show Steps p.tables e below (T5.setTop (mkF m 282 #[.val (.int p1), .val (.int p2), .val (.int (6 : Int32)), .val (.ref a_FIND_COORDINATOR), .val (.int (0 : Int32)), .val (.int (1 : Int32))] [(.int ((1 : Int32) + (1 : Int32))), (.int (1 : Int32)), (.int (0 : Int32)), (.ref a_FIND_COORDINATOR)])) _
    refine st6 _ ?_
    show Steps p.tables e below (T6.setTop (mkF m 285 #[.val (.int p1), .val (.int p2), .val (.int (6 : Int32)), .val (.ref a_FIND_COORDINATOR), .val (.int (0 : Int32)), .val (.int (1 : Int32))] [(.int (1 : Int32))])) _
    refine XS.ifNo X6.here hx rfl (hb hby at_285) rfl ((if0 _ _).trans (feq (by decide : ¬ ((1 : Int32) = (0 : Int32)))).1) ?_
    show Steps p.tables e below (T6.setTop (mkF m 288 #[.val (.int p1), .val (.int p2), .val (.int (6 : Int32)), .val (.ref a_FIND_COORDINATOR), .val (.int (0 : Int32)), .val (.int (1 : Int32))] [])) _
    refine XS.iconst X6.here hx rfl (hb hby at_288) ?_
    show Steps p.tables e below (T6.setTop (mkF m 289 #[.val (.int p1), .val (.int p2), .val (.int (6 : Int32)), .val (.ref a_FIND_COORDINATOR), .val (.int (0 : Int32)), .val (.int (1 : Int32))] [(.int (1 : Int32))])) _
    refine XS.goto X6.here hx rfl (pc0 := 289) (pc' := 293) rfl (hb hby at_289) (by decide) (by decide) ?_
    show Steps p.tables e below (T6.setTop (mkF m 293 #[.val (.int p1), .val (.int p2), .val (.int (6 : Int32)), .val (.ref a_FIND_COORDINATOR), .val (.int (0 : Int32)), .val (.int (1 : Int32))] [(.int (1 : Int32))])) _
    exact retN X6 hx (t := .boolean) Bd.returns (by simp) (hb hby at_293) hr
  · exact ⟨rfl, N6⟩
set_option maxRecDepth 65536 in
set_option maxHeartbeats 40000000 in
theorem rm0_14 (l : Launch) (Z : State) (a0 : Array Value) (hw : ∀ d ∈ tables_1, d.before a0 Z = true) (ws : List Jvm.Cond) (a_PRODUCE : Addr) (a_LIST_OFFSETS : Addr) (a_HEARTBEAT : Addr) (a_OFFSET_COMMIT : Addr) (a_FETCH : Addr) (a_FIND_COORDINATOR : Addr) (a_API_VERSIONS : Addr) (a_METADATA : Addr) (a_LEAVE_GROUP : Addr) (a_JOIN_GROUP : Addr) (a_SYNC_GROUP : Addr) (a_OFFSET_FETCH : Addr) (p1 : Int32) (p2 : Int32) (h0 : Heap) (n0 : Nat) (Z0 : n0 ≤ h0.size) (hS : Wd Z h0 a_PRODUCE a_LIST_OFFSETS a_HEARTBEAT a_OFFSET_COMMIT a_FETCH a_FIND_COORDINATOR a_API_VERSIONS a_METADATA a_LEAVE_GROUP a_JOIN_GROUP a_SYNC_GROUP a_OFFSET_FETCH) (hi : ((p1 &&& (2147483647 : Int32)) % (12 : Int32)) = (7 : Int32)) :
    MetFree l x (head1 (Jvm.Cond.code x code maxLocals ret :: ws) room_1) (fun a U => a = #[(.int p1), (.int p2)] ∧ Z.Warmed39 U.vm ∧ U.heap = h0) (fun _ _ _ _ _ => True) (fun _ U o U' => ∃ v L, o = .returned v ∧ Q0 n0 v L ∧ FrameEnd U o U' L room_1.cells room_1.slots) := by
  refine MetFree.of_bodySF (plainFor_of_name pn_com_example_keelstream_keelstream_ApiKeySupportsPinLaw) hisR ?_
  intro p e s m args below meth c s₁ Bd hml0 hP hK
  obtain ⟨rfl, hZ, hh⟩ := hP
  have hx := Bd.exec
  have hby := Bd.bytes
  have hml : c.maxLocals = 6 := hml0
  have hown : s.vm.findClass "com/example/keelstream/keelstream/ApiKeySupportsPinLaw" = some m.cls := findClass_of_methodNamed Bd.named
  have X0 : Stand p l e room_1 s m #[(.int p1), (.int p2)] below meth c s₁ [] 0 0 := Stand.of_body Bd
  have e0 : s₁.heap = h0 := by rw [← hh, Bd.state]; rfl
  have N0 := Fr.nil n0
  have pre0 : ∀ t, Steps p.tables e below (s₁.setTop (mkF m 0 #[.val (.int p1), .val (.int p2), .unset, .unset, .unset, .unset] [])) t → Steps p.tables e below (s₁.setTop (entryFrame m #[(.int p1), (.int p2)] maxLocals)) t := fun t k => castTop (by first | (simp [entryFrame, mkF, argsToLocals, Value.category, maxLocals]; done) | rfl) k
  obtain ⟨S_PRODUCE, E_PRODUCE, S_LIST_OFFSETS, E_LIST_OFFSETS, S_HEARTBEAT, E_HEARTBEAT, S_OFFSET_COMMIT, E_OFFSET_COMMIT, S_FETCH, E_FETCH, S_FIND_COORDINATOR, E_FIND_COORDINATOR, S_API_VERSIONS, E_API_VERSIONS, S_METADATA, E_METADATA, S_LEAVE_GROUP, E_LEAVE_GROUP, S_JOIN_GROUP, E_JOIN_GROUP, S_SYNC_GROUP, E_SYNC_GROUP, S_OFFSET_FETCH, E_OFFSET_FETCH, F_PRODUCE_minVersion, F_PRODUCE_maxVersion, F_LIST_OFFSETS_minVersion, F_LIST_OFFSETS_maxVersion, F_HEARTBEAT_minVersion, F_HEARTBEAT_maxVersion, F_OFFSET_COMMIT_minVersion, F_OFFSET_COMMIT_maxVersion, F_FETCH_minVersion, F_FETCH_maxVersion, F_FIND_COORDINATOR_minVersion, F_FIND_COORDINATOR_maxVersion, F_API_VERSIONS_minVersion, F_API_VERSIONS_maxVersion, F_METADATA_minVersion, F_METADATA_maxVersion, F_LEAVE_GROUP_minVersion, F_LEAVE_GROUP_maxVersion, F_JOIN_GROUP_minVersion, F_JOIN_GROUP_maxVersion, F_SYNC_GROUP_minVersion, F_SYNC_GROUP_maxVersion, F_OFFSET_FETCH_minVersion, F_OFFSET_FETCH_maxVersion⟩ := id hS
  obtain ⟨T1, X1, e1, st1⟩ := getS2 X0 hx hZ hown (host := "") (Or.inl (hw _ (List.mem_of_getElem? (i := 33) rfl))) Via.refl e0 S_JOIN_GROUP (g := (mkF m 140 #[.val (.int p1), .val (.int p2), .val (.int (7 : Int32)), .unset, .unset, .unset] [])) rfl (hb hby at_140)
  obtain ⟨_, _, ⟨T2, L2, k2, n2⟩, -, X2, ⟨Lc2, hQ2, l2, y2, z2⟩, st2⟩ := Jvm.LawKit.callS X1 hx (y := (⟨"com/example/keelstream/keelstream/ApiKeySupportsPinLaw", "ok", "(Lcom/example/keelstream/keelstream/ApiKey;III)Z"⟩ : MethodName)) hown (mvT hZ (hw _ (List.mem_of_getElem? (i := 4) rfl))) (mvT hZ (hw _ (List.mem_of_getElem? (i := 5) rfl))) (mvT hZ (hw _ (List.mem_of_getElem? (i := 6) rfl))) (mvT hZ (hw _ (List.mem_of_getElem? (i := 7) rfl))) (by decide) (backOf (W := 0) (okAll l Z a0 hw [] a_JOIN_GROUP (0 : Int32) (1 : Int32) p2 h0 n0 Z0 ⟨E_JOIN_GROUP, F_JOIN_GROUP_minVersion, F_JOIN_GROUP_maxVersion⟩) hZ (hw _ (List.mem_of_getElem? (i := 7) rfl)) (hw _ (List.mem_of_getElem? (i := 6) rfl)) (by decide) (by decide)) (g := (mkF m 226 #[.val (.int p1), .val (.int p2), .val (.int (7 : Int32)), .val (.ref a_JOIN_GROUP), .val (.int (0 : Int32)), .val (.int (1 : Int32))] [(.int p2), (.int (1 : Int32)), (.int (0 : Int32)), (.ref a_JOIN_GROUP)])) rfl (by rw [hml]; rfl) (argsL := [(.ref a_JOIN_GROUP), (.int (0 : Int32)), (.int (1 : Int32)), (.int p2)]) (rest := []) (lenOf pd_1 rfl) rfl (by show 2 * 0 + _ ≤ _; exact Nat.le_of_eq rfl) (hb hby at_226) (fun _ _ => ⟨rfl, e1, (by decide : 0 + 0 ≤ _), (by decide : 0 + 0 ≤ _)⟩)
  dsimp only [Pt.U, Pt.locs, Pt.cells, Pt.slots] at X2 l2 y2 z2 st2 hQ2
  subst l2 y2 z2
  obtain ⟨rfl, N2q, e2⟩ := hQ2
  have N2 := Fr.app N0 N2q
  obtain ⟨_, _, ⟨T3, L3, k3, n3⟩, -, X3, ⟨Lc3, hQ3, l3, y3, z3⟩, st3⟩ := Jvm.LawKit.callS X2 hx (y := (⟨"com/example/keelstream/keelstream/ApiKeySupportsPinLaw", "ok", "(Lcom/example/keelstream/keelstream/ApiKey;III)Z"⟩ : MethodName)) hown (mvT hZ (hw _ (List.mem_of_getElem? (i := 4) rfl))) (mvT hZ (hw _ (List.mem_of_getElem? (i := 5) rfl))) (mvT hZ (hw _ (List.mem_of_getElem? (i := 6) rfl))) (mvT hZ (hw _ (List.mem_of_getElem? (i := 7) rfl))) (by decide) (backOf (W := 0) (okAll l Z a0 hw [] a_JOIN_GROUP (0 : Int32) (1 : Int32) ((0 : Int32) - (1 : Int32)) h0 n0 Z0 ⟨E_JOIN_GROUP, F_JOIN_GROUP_minVersion, F_JOIN_GROUP_maxVersion⟩) hZ (hw _ (List.mem_of_getElem? (i := 7) rfl)) (hw _ (List.mem_of_getElem? (i := 6) rfl)) (by decide) (by decide)) (g := (mkF m 241 #[.val (.int p1), .val (.int p2), .val (.int (7 : Int32)), .val (.ref a_JOIN_GROUP), .val (.int (0 : Int32)), .val (.int (1 : Int32))] [(.int ((0 : Int32) - (1 : Int32))), (.int (1 : Int32)), (.int (0 : Int32)), (.ref a_JOIN_GROUP)])) rfl (by rw [hml]; rfl) (argsL := [(.ref a_JOIN_GROUP), (.int (0 : Int32)), (.int (1 : Int32)), (.int ((0 : Int32) - (1 : Int32)))]) (rest := []) (lenOf pd_1 rfl) rfl (by show 2 * 0 + _ ≤ _; exact Nat.le_of_eq rfl) (hb hby at_241) (fun _ _ => ⟨rfl, e2, (by decide : 0 + 0 ≤ _), (by decide : 0 + 0 ≤ _)⟩)
  dsimp only [Pt.U, Pt.locs, Pt.cells, Pt.slots] at X3 l3 y3 z3 st3 hQ3
  subst l3 y3 z3
  obtain ⟨rfl, N3q, e3⟩ := hQ3
  have N3 := Fr.app N2 N3q
  obtain ⟨_, _, ⟨T4, L4, k4, n4⟩, -, X4, ⟨Lc4, hQ4, l4, y4, z4⟩, st4⟩ := Jvm.LawKit.callS X3 hx (y := (⟨"com/example/keelstream/keelstream/ApiKeySupportsPinLaw", "ok", "(Lcom/example/keelstream/keelstream/ApiKey;III)Z"⟩ : MethodName)) hown (mvT hZ (hw _ (List.mem_of_getElem? (i := 4) rfl))) (mvT hZ (hw _ (List.mem_of_getElem? (i := 5) rfl))) (mvT hZ (hw _ (List.mem_of_getElem? (i := 6) rfl))) (mvT hZ (hw _ (List.mem_of_getElem? (i := 7) rfl))) (by decide) (backOf (W := 0) (okAll l Z a0 hw [] a_JOIN_GROUP (0 : Int32) (1 : Int32) (0 : Int32) h0 n0 Z0 ⟨E_JOIN_GROUP, F_JOIN_GROUP_minVersion, F_JOIN_GROUP_maxVersion⟩) hZ (hw _ (List.mem_of_getElem? (i := 7) rfl)) (hw _ (List.mem_of_getElem? (i := 6) rfl)) (by decide) (by decide)) (g := (mkF m 254 #[.val (.int p1), .val (.int p2), .val (.int (7 : Int32)), .val (.ref a_JOIN_GROUP), .val (.int (0 : Int32)), .val (.int (1 : Int32))] [(.int (0 : Int32)), (.int (1 : Int32)), (.int (0 : Int32)), (.ref a_JOIN_GROUP)])) rfl (by rw [hml]; rfl) (argsL := [(.ref a_JOIN_GROUP), (.int (0 : Int32)), (.int (1 : Int32)), (.int (0 : Int32))]) (rest := []) (lenOf pd_1 rfl) rfl (by show 2 * 0 + _ ≤ _; exact Nat.le_of_eq rfl) (hb hby at_254) (fun _ _ => ⟨rfl, e3, (by decide : 0 + 0 ≤ _), (by decide : 0 + 0 ≤ _)⟩)
  dsimp only [Pt.U, Pt.locs, Pt.cells, Pt.slots] at X4 l4 y4 z4 st4 hQ4
  subst l4 y4 z4
  obtain ⟨rfl, N4q, e4⟩ := hQ4
  have N4 := Fr.app N3 N4q
  obtain ⟨_, _, ⟨T5, L5, k5, n5⟩, -, X5, ⟨Lc5, hQ5, l5, y5, z5⟩, st5⟩ := Jvm.LawKit.callS X4 hx (y := (⟨"com/example/keelstream/keelstream/ApiKeySupportsPinLaw", "ok", "(Lcom/example/keelstream/keelstream/ApiKey;III)Z"⟩ : MethodName)) hown (mvT hZ (hw _ (List.mem_of_getElem? (i := 4) rfl))) (mvT hZ (hw _ (List.mem_of_getElem? (i := 5) rfl))) (mvT hZ (hw _ (List.mem_of_getElem? (i := 6) rfl))) (mvT hZ (hw _ (List.mem_of_getElem? (i := 7) rfl))) (by decide) (backOf (W := 0) (okAll l Z a0 hw [] a_JOIN_GROUP (0 : Int32) (1 : Int32) (1 : Int32) h0 n0 Z0 ⟨E_JOIN_GROUP, F_JOIN_GROUP_minVersion, F_JOIN_GROUP_maxVersion⟩) hZ (hw _ (List.mem_of_getElem? (i := 7) rfl)) (hw _ (List.mem_of_getElem? (i := 6) rfl)) (by decide) (by decide)) (g := (mkF m 267 #[.val (.int p1), .val (.int p2), .val (.int (7 : Int32)), .val (.ref a_JOIN_GROUP), .val (.int (0 : Int32)), .val (.int (1 : Int32))] [(.int (1 : Int32)), (.int (1 : Int32)), (.int (0 : Int32)), (.ref a_JOIN_GROUP)])) rfl (by rw [hml]; rfl) (argsL := [(.ref a_JOIN_GROUP), (.int (0 : Int32)), (.int (1 : Int32)), (.int (1 : Int32))]) (rest := []) (lenOf pd_1 rfl) rfl (by show 2 * 0 + _ ≤ _; exact Nat.le_of_eq rfl) (hb hby at_267) (fun _ _ => ⟨rfl, e4, (by decide : 0 + 0 ≤ _), (by decide : 0 + 0 ≤ _)⟩)
  dsimp only [Pt.U, Pt.locs, Pt.cells, Pt.slots] at X5 l5 y5 z5 st5 hQ5
  subst l5 y5 z5
  obtain ⟨rfl, N5q, e5⟩ := hQ5
  have N5 := Fr.app N4 N5q
  obtain ⟨_, _, ⟨T6, L6, k6, n6⟩, -, X6, ⟨Lc6, hQ6, l6, y6, z6⟩, st6⟩ := Jvm.LawKit.callS X5 hx (y := (⟨"com/example/keelstream/keelstream/ApiKeySupportsPinLaw", "ok", "(Lcom/example/keelstream/keelstream/ApiKey;III)Z"⟩ : MethodName)) hown (mvT hZ (hw _ (List.mem_of_getElem? (i := 4) rfl))) (mvT hZ (hw _ (List.mem_of_getElem? (i := 5) rfl))) (mvT hZ (hw _ (List.mem_of_getElem? (i := 6) rfl))) (mvT hZ (hw _ (List.mem_of_getElem? (i := 7) rfl))) (by decide) (backOf (W := 0) (okAll l Z a0 hw [] a_JOIN_GROUP (0 : Int32) (1 : Int32) ((1 : Int32) + (1 : Int32)) h0 n0 Z0 ⟨E_JOIN_GROUP, F_JOIN_GROUP_minVersion, F_JOIN_GROUP_maxVersion⟩) hZ (hw _ (List.mem_of_getElem? (i := 7) rfl)) (hw _ (List.mem_of_getElem? (i := 6) rfl)) (by decide) (by decide)) (g := (mkF m 282 #[.val (.int p1), .val (.int p2), .val (.int (7 : Int32)), .val (.ref a_JOIN_GROUP), .val (.int (0 : Int32)), .val (.int (1 : Int32))] [(.int ((1 : Int32) + (1 : Int32))), (.int (1 : Int32)), (.int (0 : Int32)), (.ref a_JOIN_GROUP)])) rfl (by rw [hml]; rfl) (argsL := [(.ref a_JOIN_GROUP), (.int (0 : Int32)), (.int (1 : Int32)), (.int ((1 : Int32) + (1 : Int32)))]) (rest := []) (lenOf pd_1 rfl) rfl (by show 2 * 0 + _ ≤ _; exact Nat.le_of_eq rfl) (hb hby at_282) (fun _ _ => ⟨rfl, e5, (by decide : 0 + 0 ≤ _), (by decide : 0 + 0 ≤ _)⟩)
  dsimp only [Pt.U, Pt.locs, Pt.cells, Pt.slots] at X6 l6 y6 z6 st6 hQ6
  subst l6 y6 z6
  obtain ⟨rfl, N6q, e6⟩ := hQ6
  have N6 := Fr.app N5 N6q
  obtain ⟨fs, hr, hrun, hended, hW, hsame⟩ := X6.leave (v := some (.int (1 : Int32))) (fun h => by rw [Bd.returns] at h; cases h)
  refine ⟨_, _, pre0 _ ?_, hrun, hended, _, _, rfl, ?_, ⟨_, rfl⟩, hW, hsame.mono (by decide) (by decide)⟩
  · show Steps p.tables e below (s₁.setTop (mkF m 0 #[.val (.int p1), .val (.int p2), .unset, .unset, .unset, .unset] [])) _
    refine XS.iloadN X0.here hx rfl (hb hby at_0) rfl ?_
    show Steps p.tables e below (s₁.setTop (mkF m 1 #[.val (.int p1), .val (.int p2), .unset, .unset, .unset, .unset] [(.int p1)])) _
    refine X0.ldcInt hx hown (mvT hZ (hw _ (List.mem_of_getElem? (i := 0) rfl))) (g := (mkF m 1 #[.val (.int p1), .val (.int p2), .unset, .unset, .unset, .unset] [(.int p1)])) rfl (hb hby at_1) _ ?_
    show Steps p.tables e below (s₁.setTop (mkF m 3 #[.val (.int p1), .val (.int p2), .unset, .unset, .unset, .unset] [(.int (2147483647 : Int32)), (.int p1)])) _
    refine XS.iand X0.here hx rfl (hb hby at_3) rfl ?_
    show Steps p.tables e below (s₁.setTop (mkF m 4 #[.val (.int p1), .val (.int p2), .unset, .unset, .unset, .unset] [(.int (p1 &&& (2147483647 : Int32)))])) _
    refine XS.bipush X0.here hx rfl (hb hby at_4) ?_
    show Steps p.tables e below (s₁.setTop (mkF m 6 #[.val (.int p1), .val (.int p2), .unset, .unset, .unset, .unset] [(.int (12 : Int32)), (.int (p1 &&& (2147483647 : Int32)))])) _
    refine Jvm.RoadKit.iremM (g := (mkF m 6 #[.val (.int p1), .val (.int p2), .unset, .unset, .unset, .unset] [(.int (12 : Int32)), (.int (p1 &&& (2147483647 : Int32)))])) X0 hx rfl (hb hby at_6) rfl (by decide) ?_
    rw [hi]
    show Steps p.tables e below (s₁.setTop (mkF m 7 #[.val (.int p1), .val (.int p2), .unset, .unset, .unset, .unset] [(.int (7 : Int32))])) _
    refine XS.istoreN X0.here hx rfl (hb hby at_7) rfl (l' := #[.val (.int p1), .val (.int p2), .val (.int (7 : Int32)), .unset, .unset, .unset]) rfl ?_
    show Steps p.tables e below (s₁.setTop (mkF m 8 #[.val (.int p1), .val (.int p2), .val (.int (7 : Int32)), .unset, .unset, .unset] [])) _
    refine XS.iloadN X0.here hx rfl (hb hby at_8) rfl ?_
    show Steps p.tables e below (s₁.setTop (mkF m 9 #[.val (.int p1), .val (.int p2), .val (.int (7 : Int32)), .unset, .unset, .unset] [(.int (7 : Int32))])) _
    refine XS.ifYes X0.here hx rfl (pc0 := 9) (pc' := 25) rfl (hb hby at_9) rfl ((if0 _ _).trans (feq (by decide : ¬ ((7 : Int32) = (0 : Int32)))).2) (by decide) (by decide) ?_
    show Steps p.tables e below (s₁.setTop (mkF m 25 #[.val (.int p1), .val (.int p2), .val (.int (7 : Int32)), .unset, .unset, .unset] [])) _
    refine XS.iloadN X0.here hx rfl (hb hby at_25) rfl ?_
    show Steps p.tables e below (s₁.setTop (mkF m 26 #[.val (.int p1), .val (.int p2), .val (.int (7 : Int32)), .unset, .unset, .unset] [(.int (7 : Int32))])) _
    refine XS.iconst X0.here hx rfl (hb hby at_26) ?_
    show Steps p.tables e below (s₁.setTop (mkF m 27 #[.val (.int p1), .val (.int p2), .val (.int (7 : Int32)), .unset, .unset, .unset] [(.int (1 : Int32)), (.int (7 : Int32))])) _
    refine XS.icmpYes X0.here hx rfl (pc0 := 27) (pc' := 43) rfl (hb hby at_27) rfl (feq (by decide : ¬ ((7 : Int32) = (1 : Int32)))).2 (by decide) (by decide) ?_
    show Steps p.tables e below (s₁.setTop (mkF m 43 #[.val (.int p1), .val (.int p2), .val (.int (7 : Int32)), .unset, .unset, .unset] [])) _
    refine XS.iloadN X0.here hx rfl (hb hby at_43) rfl ?_
    show Steps p.tables e below (s₁.setTop (mkF m 44 #[.val (.int p1), .val (.int p2), .val (.int (7 : Int32)), .unset, .unset, .unset] [(.int (7 : Int32))])) _
    refine XS.iconst X0.here hx rfl (hb hby at_44) ?_
    show Steps p.tables e below (s₁.setTop (mkF m 45 #[.val (.int p1), .val (.int p2), .val (.int (7 : Int32)), .unset, .unset, .unset] [(.int (2 : Int32)), (.int (7 : Int32))])) _
    refine XS.icmpYes X0.here hx rfl (pc0 := 45) (pc' := 61) rfl (hb hby at_45) rfl (feq (by decide : ¬ ((7 : Int32) = (2 : Int32)))).2 (by decide) (by decide) ?_
    show Steps p.tables e below (s₁.setTop (mkF m 61 #[.val (.int p1), .val (.int p2), .val (.int (7 : Int32)), .unset, .unset, .unset] [])) _
    refine XS.iloadN X0.here hx rfl (hb hby at_61) rfl ?_
    show Steps p.tables e below (s₁.setTop (mkF m 62 #[.val (.int p1), .val (.int p2), .val (.int (7 : Int32)), .unset, .unset, .unset] [(.int (7 : Int32))])) _
    refine XS.iconst X0.here hx rfl (hb hby at_62) ?_
    show Steps p.tables e below (s₁.setTop (mkF m 63 #[.val (.int p1), .val (.int p2), .val (.int (7 : Int32)), .unset, .unset, .unset] [(.int (3 : Int32)), (.int (7 : Int32))])) _
    refine XS.icmpYes X0.here hx rfl (pc0 := 63) (pc' := 79) rfl (hb hby at_63) rfl (feq (by decide : ¬ ((7 : Int32) = (3 : Int32)))).2 (by decide) (by decide) ?_
    show Steps p.tables e below (s₁.setTop (mkF m 79 #[.val (.int p1), .val (.int p2), .val (.int (7 : Int32)), .unset, .unset, .unset] [])) _
    refine XS.iloadN X0.here hx rfl (hb hby at_79) rfl ?_
    show Steps p.tables e below (s₁.setTop (mkF m 80 #[.val (.int p1), .val (.int p2), .val (.int (7 : Int32)), .unset, .unset, .unset] [(.int (7 : Int32))])) _
    refine XS.iconst X0.here hx rfl (hb hby at_80) ?_
    show Steps p.tables e below (s₁.setTop (mkF m 81 #[.val (.int p1), .val (.int p2), .val (.int (7 : Int32)), .unset, .unset, .unset] [(.int (4 : Int32)), (.int (7 : Int32))])) _
    refine XS.icmpYes X0.here hx rfl (pc0 := 81) (pc' := 97) rfl (hb hby at_81) rfl (feq (by decide : ¬ ((7 : Int32) = (4 : Int32)))).2 (by decide) (by decide) ?_
    show Steps p.tables e below (s₁.setTop (mkF m 97 #[.val (.int p1), .val (.int p2), .val (.int (7 : Int32)), .unset, .unset, .unset] [])) _
    refine XS.iloadN X0.here hx rfl (hb hby at_97) rfl ?_
    show Steps p.tables e below (s₁.setTop (mkF m 98 #[.val (.int p1), .val (.int p2), .val (.int (7 : Int32)), .unset, .unset, .unset] [(.int (7 : Int32))])) _
    refine XS.iconst X0.here hx rfl (hb hby at_98) ?_
    show Steps p.tables e below (s₁.setTop (mkF m 99 #[.val (.int p1), .val (.int p2), .val (.int (7 : Int32)), .unset, .unset, .unset] [(.int (5 : Int32)), (.int (7 : Int32))])) _
    refine XS.icmpYes X0.here hx rfl (pc0 := 99) (pc' := 115) rfl (hb hby at_99) rfl (feq (by decide : ¬ ((7 : Int32) = (5 : Int32)))).2 (by decide) (by decide) ?_
    show Steps p.tables e below (s₁.setTop (mkF m 115 #[.val (.int p1), .val (.int p2), .val (.int (7 : Int32)), .unset, .unset, .unset] [])) _
    refine XS.iloadN X0.here hx rfl (hb hby at_115) rfl ?_
    show Steps p.tables e below (s₁.setTop (mkF m 116 #[.val (.int p1), .val (.int p2), .val (.int (7 : Int32)), .unset, .unset, .unset] [(.int (7 : Int32))])) _
    refine XS.bipush X0.here hx rfl (hb hby at_116) ?_
    show Steps p.tables e below (s₁.setTop (mkF m 118 #[.val (.int p1), .val (.int p2), .val (.int (7 : Int32)), .unset, .unset, .unset] [(.int (6 : Int32)), (.int (7 : Int32))])) _
    refine XS.icmpYes X0.here hx rfl (pc0 := 118) (pc' := 134) rfl (hb hby at_118) rfl (feq (by decide : ¬ ((7 : Int32) = (6 : Int32)))).2 (by decide) (by decide) ?_
    show Steps p.tables e below (s₁.setTop (mkF m 134 #[.val (.int p1), .val (.int p2), .val (.int (7 : Int32)), .unset, .unset, .unset] [])) _
    refine XS.iloadN X0.here hx rfl (hb hby at_134) rfl ?_
    show Steps p.tables e below (s₁.setTop (mkF m 135 #[.val (.int p1), .val (.int p2), .val (.int (7 : Int32)), .unset, .unset, .unset] [(.int (7 : Int32))])) _
    refine XS.bipush X0.here hx rfl (hb hby at_135) ?_
    show Steps p.tables e below (s₁.setTop (mkF m 137 #[.val (.int p1), .val (.int p2), .val (.int (7 : Int32)), .unset, .unset, .unset] [(.int (7 : Int32)), (.int (7 : Int32))])) _
    refine XS.icmpNo X0.here hx rfl (hb hby at_137) rfl (teq (by decide : (7 : Int32) = (7 : Int32))).2 ?_
    show Steps p.tables e below (s₁.setTop (mkF m 140 #[.val (.int p1), .val (.int p2), .val (.int (7 : Int32)), .unset, .unset, .unset] [])) _
    refine st1 _ ?_
    show Steps p.tables e below (T1.setTop (mkF m 143 #[.val (.int p1), .val (.int p2), .val (.int (7 : Int32)), .unset, .unset, .unset] [(.ref a_JOIN_GROUP)])) _
    refine XS.astoreN X1.here hx rfl (hb hby at_143) rfl rfl (l' := #[.val (.int p1), .val (.int p2), .val (.int (7 : Int32)), .val (.ref a_JOIN_GROUP), .unset, .unset]) rfl ?_
    show Steps p.tables e below (T1.setTop (mkF m 144 #[.val (.int p1), .val (.int p2), .val (.int (7 : Int32)), .val (.ref a_JOIN_GROUP), .unset, .unset] [])) _
    refine XS.iconst X1.here hx rfl (hb hby at_144) ?_
    show Steps p.tables e below (T1.setTop (mkF m 145 #[.val (.int p1), .val (.int p2), .val (.int (7 : Int32)), .val (.ref a_JOIN_GROUP), .unset, .unset] [(.int (0 : Int32))])) _
    refine XS.istore X1.here hx rfl (hb hby at_145) rfl (l' := #[.val (.int p1), .val (.int p2), .val (.int (7 : Int32)), .val (.ref a_JOIN_GROUP), .val (.int (0 : Int32)), .unset]) rfl ?_
    show Steps p.tables e below (T1.setTop (mkF m 147 #[.val (.int p1), .val (.int p2), .val (.int (7 : Int32)), .val (.ref a_JOIN_GROUP), .val (.int (0 : Int32)), .unset] [])) _
    refine XS.iconst X1.here hx rfl (hb hby at_147) ?_
    show Steps p.tables e below (T1.setTop (mkF m 148 #[.val (.int p1), .val (.int p2), .val (.int (7 : Int32)), .val (.ref a_JOIN_GROUP), .val (.int (0 : Int32)), .unset] [(.int (1 : Int32))])) _
    refine XS.istore X1.here hx rfl (hb hby at_148) rfl (l' := #[.val (.int p1), .val (.int p2), .val (.int (7 : Int32)), .val (.ref a_JOIN_GROUP), .val (.int (0 : Int32)), .val (.int (1 : Int32))]) rfl ?_
    show Steps p.tables e below (T1.setTop (mkF m 150 #[.val (.int p1), .val (.int p2), .val (.int (7 : Int32)), .val (.ref a_JOIN_GROUP), .val (.int (0 : Int32)), .val (.int (1 : Int32))] [])) _
    refine XS.goto X1.here hx rfl (pc0 := 150) (pc' := 220) rfl (hb hby at_150) (by decide) (by decide) ?_
    show Steps p.tables e below (T1.setTop (mkF m 220 #[.val (.int p1), .val (.int p2), .val (.int (7 : Int32)), .val (.ref a_JOIN_GROUP), .val (.int (0 : Int32)), .val (.int (1 : Int32))] [])) _
    refine XS.aloadN X1.here hx rfl (hb hby at_220) rfl rfl ?_
    show Steps p.tables e below (T1.setTop (mkF m 221 #[.val (.int p1), .val (.int p2), .val (.int (7 : Int32)), .val (.ref a_JOIN_GROUP), .val (.int (0 : Int32)), .val (.int (1 : Int32))] [(.ref a_JOIN_GROUP)])) _
    refine XS.iload X1.here hx rfl (hb hby at_221) rfl ?_
    show Steps p.tables e below (T1.setTop (mkF m 223 #[.val (.int p1), .val (.int p2), .val (.int (7 : Int32)), .val (.ref a_JOIN_GROUP), .val (.int (0 : Int32)), .val (.int (1 : Int32))] [(.int (0 : Int32)), (.ref a_JOIN_GROUP)])) _
    refine XS.iload X1.here hx rfl (hb hby at_223) rfl ?_
    show Steps p.tables e below (T1.setTop (mkF m 225 #[.val (.int p1), .val (.int p2), .val (.int (7 : Int32)), .val (.ref a_JOIN_GROUP), .val (.int (0 : Int32)), .val (.int (1 : Int32))] [(.int (1 : Int32)), (.int (0 : Int32)), (.ref a_JOIN_GROUP)])) _
    refine XS.iloadN X1.here hx rfl (hb hby at_225) rfl ?_
    show Steps p.tables e below (T1.setTop (mkF m 226 #[.val (.int p1), .val (.int p2), .val (.int (7 : Int32)), .val (.ref a_JOIN_GROUP), .val (.int (0 : Int32)), .val (.int (1 : Int32))] [(.int p2), (.int (1 : Int32)), (.int (0 : Int32)), (.ref a_JOIN_GROUP)])) _
    refine st2 _ ?_
    show Steps p.tables e below (T2.setTop (mkF m 229 #[.val (.int p1), .val (.int p2), .val (.int (7 : Int32)), .val (.ref a_JOIN_GROUP), .val (.int (0 : Int32)), .val (.int (1 : Int32))] [(.int (1 : Int32))])) _
    refine XS.ifNo X2.here hx rfl (hb hby at_229) rfl ((if0 _ _).trans (feq (by decide : ¬ ((1 : Int32) = (0 : Int32)))).1) ?_
    show Steps p.tables e below (T2.setTop (mkF m 232 #[.val (.int p1), .val (.int p2), .val (.int (7 : Int32)), .val (.ref a_JOIN_GROUP), .val (.int (0 : Int32)), .val (.int (1 : Int32))] [])) _
    refine XS.aloadN X2.here hx rfl (hb hby at_232) rfl rfl ?_
    show Steps p.tables e below (T2.setTop (mkF m 233 #[.val (.int p1), .val (.int p2), .val (.int (7 : Int32)), .val (.ref a_JOIN_GROUP), .val (.int (0 : Int32)), .val (.int (1 : Int32))] [(.ref a_JOIN_GROUP)])) _
    refine XS.iload X2.here hx rfl (hb hby at_233) rfl ?_
    show Steps p.tables e below (T2.setTop (mkF m 235 #[.val (.int p1), .val (.int p2), .val (.int (7 : Int32)), .val (.ref a_JOIN_GROUP), .val (.int (0 : Int32)), .val (.int (1 : Int32))] [(.int (0 : Int32)), (.ref a_JOIN_GROUP)])) _
    refine XS.iload X2.here hx rfl (hb hby at_235) rfl ?_
    show Steps p.tables e below (T2.setTop (mkF m 237 #[.val (.int p1), .val (.int p2), .val (.int (7 : Int32)), .val (.ref a_JOIN_GROUP), .val (.int (0 : Int32)), .val (.int (1 : Int32))] [(.int (1 : Int32)), (.int (0 : Int32)), (.ref a_JOIN_GROUP)])) _
    refine XS.iload X2.here hx rfl (hb hby at_237) rfl ?_
    show Steps p.tables e below (T2.setTop (mkF m 239 #[.val (.int p1), .val (.int p2), .val (.int (7 : Int32)), .val (.ref a_JOIN_GROUP), .val (.int (0 : Int32)), .val (.int (1 : Int32))] [(.int (0 : Int32)), (.int (1 : Int32)), (.int (0 : Int32)), (.ref a_JOIN_GROUP)])) _
    refine XS.iconst X2.here hx rfl (hb hby at_239) ?_
    show Steps p.tables e below (T2.setTop (mkF m 240 #[.val (.int p1), .val (.int p2), .val (.int (7 : Int32)), .val (.ref a_JOIN_GROUP), .val (.int (0 : Int32)), .val (.int (1 : Int32))] [(.int (1 : Int32)), (.int (0 : Int32)), (.int (1 : Int32)), (.int (0 : Int32)), (.ref a_JOIN_GROUP)])) _
    refine XS.isub X2.here hx rfl (hb hby at_240) rfl ?_
    show Steps p.tables e below (T2.setTop (mkF m 241 #[.val (.int p1), .val (.int p2), .val (.int (7 : Int32)), .val (.ref a_JOIN_GROUP), .val (.int (0 : Int32)), .val (.int (1 : Int32))] [(.int ((0 : Int32) - (1 : Int32))), (.int (1 : Int32)), (.int (0 : Int32)), (.ref a_JOIN_GROUP)])) _
    refine st3 _ ?_
    show Steps p.tables e below (T3.setTop (mkF m 244 #[.val (.int p1), .val (.int p2), .val (.int (7 : Int32)), .val (.ref a_JOIN_GROUP), .val (.int (0 : Int32)), .val (.int (1 : Int32))] [(.int (1 : Int32))])) _
    refine XS.ifNo X3.here hx rfl (hb hby at_244) rfl ((if0 _ _).trans (feq (by decide : ¬ ((1 : Int32) = (0 : Int32)))).1) ?_
    show Steps p.tables e below (T3.setTop (mkF m 247 #[.val (.int p1), .val (.int p2), .val (.int (7 : Int32)), .val (.ref a_JOIN_GROUP), .val (.int (0 : Int32)), .val (.int (1 : Int32))] [])) _
    refine XS.aloadN X3.here hx rfl (hb hby at_247) rfl rfl ?_
    show Steps p.tables e below (T3.setTop (mkF m 248 #[.val (.int p1), .val (.int p2), .val (.int (7 : Int32)), .val (.ref a_JOIN_GROUP), .val (.int (0 : Int32)), .val (.int (1 : Int32))] [(.ref a_JOIN_GROUP)])) _
    refine XS.iload X3.here hx rfl (hb hby at_248) rfl ?_
    show Steps p.tables e below (T3.setTop (mkF m 250 #[.val (.int p1), .val (.int p2), .val (.int (7 : Int32)), .val (.ref a_JOIN_GROUP), .val (.int (0 : Int32)), .val (.int (1 : Int32))] [(.int (0 : Int32)), (.ref a_JOIN_GROUP)])) _
    refine XS.iload X3.here hx rfl (hb hby at_250) rfl ?_
    show Steps p.tables e below (T3.setTop (mkF m 252 #[.val (.int p1), .val (.int p2), .val (.int (7 : Int32)), .val (.ref a_JOIN_GROUP), .val (.int (0 : Int32)), .val (.int (1 : Int32))] [(.int (1 : Int32)), (.int (0 : Int32)), (.ref a_JOIN_GROUP)])) _
    refine XS.iload X3.here hx rfl (hb hby at_252) rfl ?_
    show Steps p.tables e below (T3.setTop (mkF m 254 #[.val (.int p1), .val (.int p2), .val (.int (7 : Int32)), .val (.ref a_JOIN_GROUP), .val (.int (0 : Int32)), .val (.int (1 : Int32))] [(.int (0 : Int32)), (.int (1 : Int32)), (.int (0 : Int32)), (.ref a_JOIN_GROUP)])) _
    refine st4 _ ?_
    show Steps p.tables e below (T4.setTop (mkF m 257 #[.val (.int p1), .val (.int p2), .val (.int (7 : Int32)), .val (.ref a_JOIN_GROUP), .val (.int (0 : Int32)), .val (.int (1 : Int32))] [(.int (1 : Int32))])) _
    refine XS.ifNo X4.here hx rfl (hb hby at_257) rfl ((if0 _ _).trans (feq (by decide : ¬ ((1 : Int32) = (0 : Int32)))).1) ?_
    show Steps p.tables e below (T4.setTop (mkF m 260 #[.val (.int p1), .val (.int p2), .val (.int (7 : Int32)), .val (.ref a_JOIN_GROUP), .val (.int (0 : Int32)), .val (.int (1 : Int32))] [])) _
    refine XS.aloadN X4.here hx rfl (hb hby at_260) rfl rfl ?_
    show Steps p.tables e below (T4.setTop (mkF m 261 #[.val (.int p1), .val (.int p2), .val (.int (7 : Int32)), .val (.ref a_JOIN_GROUP), .val (.int (0 : Int32)), .val (.int (1 : Int32))] [(.ref a_JOIN_GROUP)])) _
    refine XS.iload X4.here hx rfl (hb hby at_261) rfl ?_
    show Steps p.tables e below (T4.setTop (mkF m 263 #[.val (.int p1), .val (.int p2), .val (.int (7 : Int32)), .val (.ref a_JOIN_GROUP), .val (.int (0 : Int32)), .val (.int (1 : Int32))] [(.int (0 : Int32)), (.ref a_JOIN_GROUP)])) _
    refine XS.iload X4.here hx rfl (hb hby at_263) rfl ?_
    show Steps p.tables e below (T4.setTop (mkF m 265 #[.val (.int p1), .val (.int p2), .val (.int (7 : Int32)), .val (.ref a_JOIN_GROUP), .val (.int (0 : Int32)), .val (.int (1 : Int32))] [(.int (1 : Int32)), (.int (0 : Int32)), (.ref a_JOIN_GROUP)])) _
    refine XS.iload X4.here hx rfl (hb hby at_265) rfl ?_
    show Steps p.tables e below (T4.setTop (mkF m 267 #[.val (.int p1), .val (.int p2), .val (.int (7 : Int32)), .val (.ref a_JOIN_GROUP), .val (.int (0 : Int32)), .val (.int (1 : Int32))] [(.int (1 : Int32)), (.int (1 : Int32)), (.int (0 : Int32)), (.ref a_JOIN_GROUP)])) _
    refine st5 _ ?_
    show Steps p.tables e below (T5.setTop (mkF m 270 #[.val (.int p1), .val (.int p2), .val (.int (7 : Int32)), .val (.ref a_JOIN_GROUP), .val (.int (0 : Int32)), .val (.int (1 : Int32))] [(.int (1 : Int32))])) _
    refine XS.ifNo X5.here hx rfl (hb hby at_270) rfl ((if0 _ _).trans (feq (by decide : ¬ ((1 : Int32) = (0 : Int32)))).1) ?_
    show Steps p.tables e below (T5.setTop (mkF m 273 #[.val (.int p1), .val (.int p2), .val (.int (7 : Int32)), .val (.ref a_JOIN_GROUP), .val (.int (0 : Int32)), .val (.int (1 : Int32))] [])) _
    refine XS.aloadN X5.here hx rfl (hb hby at_273) rfl rfl ?_
    show Steps p.tables e below (T5.setTop (mkF m 274 #[.val (.int p1), .val (.int p2), .val (.int (7 : Int32)), .val (.ref a_JOIN_GROUP), .val (.int (0 : Int32)), .val (.int (1 : Int32))] [(.ref a_JOIN_GROUP)])) _
    refine XS.iload X5.here hx rfl (hb hby at_274) rfl ?_
    show Steps p.tables e below (T5.setTop (mkF m 276 #[.val (.int p1), .val (.int p2), .val (.int (7 : Int32)), .val (.ref a_JOIN_GROUP), .val (.int (0 : Int32)), .val (.int (1 : Int32))] [(.int (0 : Int32)), (.ref a_JOIN_GROUP)])) _
    refine XS.iload X5.here hx rfl (hb hby at_276) rfl ?_
    show Steps p.tables e below (T5.setTop (mkF m 278 #[.val (.int p1), .val (.int p2), .val (.int (7 : Int32)), .val (.ref a_JOIN_GROUP), .val (.int (0 : Int32)), .val (.int (1 : Int32))] [(.int (1 : Int32)), (.int (0 : Int32)), (.ref a_JOIN_GROUP)])) _
    refine XS.iload X5.here hx rfl (hb hby at_278) rfl ?_
    show Steps p.tables e below (T5.setTop (mkF m 280 #[.val (.int p1), .val (.int p2), .val (.int (7 : Int32)), .val (.ref a_JOIN_GROUP), .val (.int (0 : Int32)), .val (.int (1 : Int32))] [(.int (1 : Int32)), (.int (1 : Int32)), (.int (0 : Int32)), (.ref a_JOIN_GROUP)])) _
    refine XS.iconst X5.here hx rfl (hb hby at_280) ?_
    show Steps p.tables e below (T5.setTop (mkF m 281 #[.val (.int p1), .val (.int p2), .val (.int (7 : Int32)), .val (.ref a_JOIN_GROUP), .val (.int (0 : Int32)), .val (.int (1 : Int32))] [(.int (1 : Int32)), (.int (1 : Int32)), (.int (1 : Int32)), (.int (0 : Int32)), (.ref a_JOIN_GROUP)])) _
    refine XS.iadd X5.here hx rfl (hb hby at_281) rfl ?_
    show Steps p.tables e below (T5.setTop (mkF m 282 #[.val (.int p1), .val (.int p2), .val (.int (7 : Int32)), .val (.ref a_JOIN_GROUP), .val (.int (0 : Int32)), .val (.int (1 : Int32))] [(.int ((1 : Int32) + (1 : Int32))), (.int (1 : Int32)), (.int (0 : Int32)), (.ref a_JOIN_GROUP)])) _
    refine st6 _ ?_
    show Steps p.tables e below (T6.setTop (mkF m 285 #[.val (.int p1), .val (.int p2), .val (.int (7 : Int32)), .val (.ref a_JOIN_GROUP), .val (.int (0 : Int32)), .val (.int (1 : Int32))] [(.int (1 : Int32))])) _
    refine XS.ifNo X6.here hx rfl (hb hby at_285) rfl ((if0 _ _).trans (feq (by decide : ¬ ((1 : Int32) = (0 : Int32)))).1) ?_
    show Steps p.tables e below (T6.setTop (mkF m 288 #[.val (.int p1), .val (.int p2), .val (.int (7 : Int32)), .val (.ref a_JOIN_GROUP), .val (.int (0 : Int32)), .val (.int (1 : Int32))] [])) _
    refine XS.iconst X6.here hx rfl (hb hby at_288) ?_
    show Steps p.tables e below (T6.setTop (mkF m 289 #[.val (.int p1), .val (.int p2), .val (.int (7 : Int32)), .val (.ref a_JOIN_GROUP), .val (.int (0 : Int32)), .val (.int (1 : Int32))] [(.int (1 : Int32))])) _
    refine XS.goto X6.here hx rfl (pc0 := 289) (pc' := 293) rfl (hb hby at_289) (by decide) (by decide) ?_
    show Steps p.tables e below (T6.setTop (mkF m 293 #[.val (.int p1), .val (.int p2), .val (.int (7 : Int32)), .val (.ref a_JOIN_GROUP), .val (.int (0 : Int32)), .val (.int (1 : Int32))] [(.int (1 : Int32))])) _
    exact retN X6 hx (t := .boolean) Bd.returns (by simp) (hb hby at_293) hr
  · exact ⟨rfl, N6⟩
set_option maxRecDepth 65536 in
set_option maxHeartbeats 40000000 in
theorem rm0_15 (l : Launch) (Z : State) (a0 : Array Value) (hw : ∀ d ∈ tables_1, d.before a0 Z = true) (ws : List Jvm.Cond) (a_PRODUCE : Addr) (a_LIST_OFFSETS : Addr) (a_HEARTBEAT : Addr) (a_OFFSET_COMMIT : Addr) (a_FETCH : Addr) (a_FIND_COORDINATOR : Addr) (a_API_VERSIONS : Addr) (a_METADATA : Addr) (a_LEAVE_GROUP : Addr) (a_JOIN_GROUP : Addr) (a_SYNC_GROUP : Addr) (a_OFFSET_FETCH : Addr) (p1 : Int32) (p2 : Int32) (h0 : Heap) (n0 : Nat) (Z0 : n0 ≤ h0.size) (hS : Wd Z h0 a_PRODUCE a_LIST_OFFSETS a_HEARTBEAT a_OFFSET_COMMIT a_FETCH a_FIND_COORDINATOR a_API_VERSIONS a_METADATA a_LEAVE_GROUP a_JOIN_GROUP a_SYNC_GROUP a_OFFSET_FETCH) (hi : ((p1 &&& (2147483647 : Int32)) % (12 : Int32)) = (8 : Int32)) :
    MetFree l x (head1 (Jvm.Cond.code x code maxLocals ret :: ws) room_1) (fun a U => a = #[(.int p1), (.int p2)] ∧ Z.Warmed39 U.vm ∧ U.heap = h0) (fun _ _ _ _ _ => True) (fun _ U o U' => ∃ v L, o = .returned v ∧ Q0 n0 v L ∧ FrameEnd U o U' L room_1.cells room_1.slots) := by
  refine MetFree.of_bodySF (plainFor_of_name pn_com_example_keelstream_keelstream_ApiKeySupportsPinLaw) hisR ?_
  intro p e s m args below meth c s₁ Bd hml0 hP hK
  obtain ⟨rfl, hZ, hh⟩ := hP
  have hx := Bd.exec
  have hby := Bd.bytes
  have hml : c.maxLocals = 6 := hml0
  have hown : s.vm.findClass "com/example/keelstream/keelstream/ApiKeySupportsPinLaw" = some m.cls := findClass_of_methodNamed Bd.named
  have X0 : Stand p l e room_1 s m #[(.int p1), (.int p2)] below meth c s₁ [] 0 0 := Stand.of_body Bd
  have e0 : s₁.heap = h0 := by rw [← hh, Bd.state]; rfl
  have N0 := Fr.nil n0
  have pre0 : ∀ t, Steps p.tables e below (s₁.setTop (mkF m 0 #[.val (.int p1), .val (.int p2), .unset, .unset, .unset, .unset] [])) t → Steps p.tables e below (s₁.setTop (entryFrame m #[(.int p1), (.int p2)] maxLocals)) t := fun t k => castTop (by first | (simp [entryFrame, mkF, argsToLocals, Value.category, maxLocals]; done) | rfl) k
  obtain ⟨S_PRODUCE, E_PRODUCE, S_LIST_OFFSETS, E_LIST_OFFSETS, S_HEARTBEAT, E_HEARTBEAT, S_OFFSET_COMMIT, E_OFFSET_COMMIT, S_FETCH, E_FETCH, S_FIND_COORDINATOR, E_FIND_COORDINATOR, S_API_VERSIONS, E_API_VERSIONS, S_METADATA, E_METADATA, S_LEAVE_GROUP, E_LEAVE_GROUP, S_JOIN_GROUP, E_JOIN_GROUP, S_SYNC_GROUP, E_SYNC_GROUP, S_OFFSET_FETCH, E_OFFSET_FETCH, F_PRODUCE_minVersion, F_PRODUCE_maxVersion, F_LIST_OFFSETS_minVersion, F_LIST_OFFSETS_maxVersion, F_HEARTBEAT_minVersion, F_HEARTBEAT_maxVersion, F_OFFSET_COMMIT_minVersion, F_OFFSET_COMMIT_maxVersion, F_FETCH_minVersion, F_FETCH_maxVersion, F_FIND_COORDINATOR_minVersion, F_FIND_COORDINATOR_maxVersion, F_API_VERSIONS_minVersion, F_API_VERSIONS_maxVersion, F_METADATA_minVersion, F_METADATA_maxVersion, F_LEAVE_GROUP_minVersion, F_LEAVE_GROUP_maxVersion, F_JOIN_GROUP_minVersion, F_JOIN_GROUP_maxVersion, F_SYNC_GROUP_minVersion, F_SYNC_GROUP_maxVersion, F_OFFSET_FETCH_minVersion, F_OFFSET_FETCH_maxVersion⟩ := id hS
  obtain ⟨T1, X1, e1, st1⟩ := getS2 X0 hx hZ hown (host := "") (Or.inl (hw _ (List.mem_of_getElem? (i := 19) rfl))) Via.refl e0 S_HEARTBEAT (g := (mkF m 159 #[.val (.int p1), .val (.int p2), .val (.int (8 : Int32)), .unset, .unset, .unset] [])) rfl (hb hby at_159)
  obtain ⟨_, _, ⟨T2, L2, k2, n2⟩, -, X2, ⟨Lc2, hQ2, l2, y2, z2⟩, st2⟩ := Jvm.LawKit.callS X1 hx (y := (⟨"com/example/keelstream/keelstream/ApiKeySupportsPinLaw", "ok", "(Lcom/example/keelstream/keelstream/ApiKey;III)Z"⟩ : MethodName)) hown (mvT hZ (hw _ (List.mem_of_getElem? (i := 4) rfl))) (mvT hZ (hw _ (List.mem_of_getElem? (i := 5) rfl))) (mvT hZ (hw _ (List.mem_of_getElem? (i := 6) rfl))) (mvT hZ (hw _ (List.mem_of_getElem? (i := 7) rfl))) (by decide) (backOf (W := 0) (okAll l Z a0 hw [] a_HEARTBEAT (0 : Int32) (0 : Int32) p2 h0 n0 Z0 ⟨E_HEARTBEAT, F_HEARTBEAT_minVersion, F_HEARTBEAT_maxVersion⟩) hZ (hw _ (List.mem_of_getElem? (i := 7) rfl)) (hw _ (List.mem_of_getElem? (i := 6) rfl)) (by decide) (by decide)) (g := (mkF m 226 #[.val (.int p1), .val (.int p2), .val (.int (8 : Int32)), .val (.ref a_HEARTBEAT), .val (.int (0 : Int32)), .val (.int (0 : Int32))] [(.int p2), (.int (0 : Int32)), (.int (0 : Int32)), (.ref a_HEARTBEAT)])) rfl (by rw [hml]; rfl) (argsL := [(.ref a_HEARTBEAT), (.int (0 : Int32)), (.int (0 : Int32)), (.int p2)]) (rest := []) (lenOf pd_1 rfl) rfl (by show 2 * 0 + _ ≤ _; exact Nat.le_of_eq rfl) (hb hby at_226) (fun _ _ => ⟨rfl, e1, (by decide : 0 + 0 ≤ _), (by decide : 0 + 0 ≤ _)⟩)
  dsimp only [Pt.U, Pt.locs, Pt.cells, Pt.slots] at X2 l2 y2 z2 st2 hQ2
  subst l2 y2 z2
  obtain ⟨rfl, N2q, e2⟩ := hQ2
  have N2 := Fr.app N0 N2q
  obtain ⟨_, _, ⟨T3, L3, k3, n3⟩, -, X3, ⟨Lc3, hQ3, l3, y3, z3⟩, st3⟩ := Jvm.LawKit.callS X2 hx (y := (⟨"com/example/keelstream/keelstream/ApiKeySupportsPinLaw", "ok", "(Lcom/example/keelstream/keelstream/ApiKey;III)Z"⟩ : MethodName)) hown (mvT hZ (hw _ (List.mem_of_getElem? (i := 4) rfl))) (mvT hZ (hw _ (List.mem_of_getElem? (i := 5) rfl))) (mvT hZ (hw _ (List.mem_of_getElem? (i := 6) rfl))) (mvT hZ (hw _ (List.mem_of_getElem? (i := 7) rfl))) (by decide) (backOf (W := 0) (okAll l Z a0 hw [] a_HEARTBEAT (0 : Int32) (0 : Int32) ((0 : Int32) - (1 : Int32)) h0 n0 Z0 ⟨E_HEARTBEAT, F_HEARTBEAT_minVersion, F_HEARTBEAT_maxVersion⟩) hZ (hw _ (List.mem_of_getElem? (i := 7) rfl)) (hw _ (List.mem_of_getElem? (i := 6) rfl)) (by decide) (by decide)) (g := (mkF m 241 #[.val (.int p1), .val (.int p2), .val (.int (8 : Int32)), .val (.ref a_HEARTBEAT), .val (.int (0 : Int32)), .val (.int (0 : Int32))] [(.int ((0 : Int32) - (1 : Int32))), (.int (0 : Int32)), (.int (0 : Int32)), (.ref a_HEARTBEAT)])) rfl (by rw [hml]; rfl) (argsL := [(.ref a_HEARTBEAT), (.int (0 : Int32)), (.int (0 : Int32)), (.int ((0 : Int32) - (1 : Int32)))]) (rest := []) (lenOf pd_1 rfl) rfl (by show 2 * 0 + _ ≤ _; exact Nat.le_of_eq rfl) (hb hby at_241) (fun _ _ => ⟨rfl, e2, (by decide : 0 + 0 ≤ _), (by decide : 0 + 0 ≤ _)⟩)
  dsimp only [Pt.U, Pt.locs, Pt.cells, Pt.slots] at X3 l3 y3 z3 st3 hQ3
  subst l3 y3 z3
  obtain ⟨rfl, N3q, e3⟩ := hQ3
  have N3 := Fr.app N2 N3q
  obtain ⟨_, _, ⟨T4, L4, k4, n4⟩, -, X4, ⟨Lc4, hQ4, l4, y4, z4⟩, st4⟩ := Jvm.LawKit.callS X3 hx (y := (⟨"com/example/keelstream/keelstream/ApiKeySupportsPinLaw", "ok", "(Lcom/example/keelstream/keelstream/ApiKey;III)Z"⟩ : MethodName)) hown (mvT hZ (hw _ (List.mem_of_getElem? (i := 4) rfl))) (mvT hZ (hw _ (List.mem_of_getElem? (i := 5) rfl))) (mvT hZ (hw _ (List.mem_of_getElem? (i := 6) rfl))) (mvT hZ (hw _ (List.mem_of_getElem? (i := 7) rfl))) (by decide) (backOf (W := 0) (okAll l Z a0 hw [] a_HEARTBEAT (0 : Int32) (0 : Int32) (0 : Int32) h0 n0 Z0 ⟨E_HEARTBEAT, F_HEARTBEAT_minVersion, F_HEARTBEAT_maxVersion⟩) hZ (hw _ (List.mem_of_getElem? (i := 7) rfl)) (hw _ (List.mem_of_getElem? (i := 6) rfl)) (by decide) (by decide)) (g := (mkF m 254 #[.val (.int p1), .val (.int p2), .val (.int (8 : Int32)), .val (.ref a_HEARTBEAT), .val (.int (0 : Int32)), .val (.int (0 : Int32))] [(.int (0 : Int32)), (.int (0 : Int32)), (.int (0 : Int32)), (.ref a_HEARTBEAT)])) rfl (by rw [hml]; rfl) (argsL := [(.ref a_HEARTBEAT), (.int (0 : Int32)), (.int (0 : Int32)), (.int (0 : Int32))]) (rest := []) (lenOf pd_1 rfl) rfl (by show 2 * 0 + _ ≤ _; exact Nat.le_of_eq rfl) (hb hby at_254) (fun _ _ => ⟨rfl, e3, (by decide : 0 + 0 ≤ _), (by decide : 0 + 0 ≤ _)⟩)
  dsimp only [Pt.U, Pt.locs, Pt.cells, Pt.slots] at X4 l4 y4 z4 st4 hQ4
  subst l4 y4 z4
  obtain ⟨rfl, N4q, e4⟩ := hQ4
  have N4 := Fr.app N3 N4q
  obtain ⟨_, _, ⟨T5, L5, k5, n5⟩, -, X5, ⟨Lc5, hQ5, l5, y5, z5⟩, st5⟩ := Jvm.LawKit.callS X4 hx (y := (⟨"com/example/keelstream/keelstream/ApiKeySupportsPinLaw", "ok", "(Lcom/example/keelstream/keelstream/ApiKey;III)Z"⟩ : MethodName)) hown (mvT hZ (hw _ (List.mem_of_getElem? (i := 4) rfl))) (mvT hZ (hw _ (List.mem_of_getElem? (i := 5) rfl))) (mvT hZ (hw _ (List.mem_of_getElem? (i := 6) rfl))) (mvT hZ (hw _ (List.mem_of_getElem? (i := 7) rfl))) (by decide) (backOf (W := 0) (okAll l Z a0 hw [] a_HEARTBEAT (0 : Int32) (0 : Int32) (0 : Int32) h0 n0 Z0 ⟨E_HEARTBEAT, F_HEARTBEAT_minVersion, F_HEARTBEAT_maxVersion⟩) hZ (hw _ (List.mem_of_getElem? (i := 7) rfl)) (hw _ (List.mem_of_getElem? (i := 6) rfl)) (by decide) (by decide)) (g := (mkF m 267 #[.val (.int p1), .val (.int p2), .val (.int (8 : Int32)), .val (.ref a_HEARTBEAT), .val (.int (0 : Int32)), .val (.int (0 : Int32))] [(.int (0 : Int32)), (.int (0 : Int32)), (.int (0 : Int32)), (.ref a_HEARTBEAT)])) rfl (by rw [hml]; rfl) (argsL := [(.ref a_HEARTBEAT), (.int (0 : Int32)), (.int (0 : Int32)), (.int (0 : Int32))]) (rest := []) (lenOf pd_1 rfl) rfl (by show 2 * 0 + _ ≤ _; exact Nat.le_of_eq rfl) (hb hby at_267) (fun _ _ => ⟨rfl, e4, (by decide : 0 + 0 ≤ _), (by decide : 0 + 0 ≤ _)⟩)
  dsimp only [Pt.U, Pt.locs, Pt.cells, Pt.slots] at X5 l5 y5 z5 st5 hQ5
  subst l5 y5 z5
  obtain ⟨rfl, N5q, e5⟩ := hQ5
  have N5 := Fr.app N4 N5q
  obtain ⟨_, _, ⟨T6, L6, k6, n6⟩, -, X6, ⟨Lc6, hQ6, l6, y6, z6⟩, st6⟩ := Jvm.LawKit.callS X5 hx (y := (⟨"com/example/keelstream/keelstream/ApiKeySupportsPinLaw", "ok", "(Lcom/example/keelstream/keelstream/ApiKey;III)Z"⟩ : MethodName)) hown (mvT hZ (hw _ (List.mem_of_getElem? (i := 4) rfl))) (mvT hZ (hw _ (List.mem_of_getElem? (i := 5) rfl))) (mvT hZ (hw _ (List.mem_of_getElem? (i := 6) rfl))) (mvT hZ (hw _ (List.mem_of_getElem? (i := 7) rfl))) (by decide) (backOf (W := 0) (okAll l Z a0 hw [] a_HEARTBEAT (0 : Int32) (0 : Int32) ((0 : Int32) + (1 : Int32)) h0 n0 Z0 ⟨E_HEARTBEAT, F_HEARTBEAT_minVersion, F_HEARTBEAT_maxVersion⟩) hZ (hw _ (List.mem_of_getElem? (i := 7) rfl)) (hw _ (List.mem_of_getElem? (i := 6) rfl)) (by decide) (by decide)) (g := (mkF m 282 #[.val (.int p1), .val (.int p2), .val (.int (8 : Int32)), .val (.ref a_HEARTBEAT), .val (.int (0 : Int32)), .val (.int (0 : Int32))] [(.int ((0 : Int32) + (1 : Int32))), (.int (0 : Int32)), (.int (0 : Int32)), (.ref a_HEARTBEAT)])) rfl (by rw [hml]; rfl) (argsL := [(.ref a_HEARTBEAT), (.int (0 : Int32)), (.int (0 : Int32)), (.int ((0 : Int32) + (1 : Int32)))]) (rest := []) (lenOf pd_1 rfl) rfl (by show 2 * 0 + _ ≤ _; exact Nat.le_of_eq rfl) (hb hby at_282) (fun _ _ => ⟨rfl, e5, (by decide : 0 + 0 ≤ _), (by decide : 0 + 0 ≤ _)⟩)
  dsimp only [Pt.U, Pt.locs, Pt.cells, Pt.slots] at X6 l6 y6 z6 st6 hQ6
  subst l6 y6 z6
  obtain ⟨rfl, N6q, e6⟩ := hQ6
  have N6 := Fr.app N5 N6q
  obtain ⟨fs, hr, hrun, hended, hW, hsame⟩ := X6.leave (v := some (.int (1 : Int32))) (fun h => by rw [Bd.returns] at h; cases h)
  refine ⟨_, _, pre0 _ ?_, hrun, hended, _, _, rfl, ?_, ⟨_, rfl⟩, hW, hsame.mono (by decide) (by decide)⟩
  · show Steps p.tables e below (s₁.setTop (mkF m 0 #[.val (.int p1), .val (.int p2), .unset, .unset, .unset, .unset] [])) _
    refine XS.iloadN X0.here hx rfl (hb hby at_0) rfl ?_
    show Steps p.tables e below (s₁.setTop (mkF m 1 #[.val (.int p1), .val (.int p2), .unset, .unset, .unset, .unset] [(.int p1)])) _
    refine X0.ldcInt hx hown (mvT hZ (hw _ (List.mem_of_getElem? (i := 0) rfl))) (g := (mkF m 1 #[.val (.int p1), .val (.int p2), .unset, .unset, .unset, .unset] [(.int p1)])) rfl (hb hby at_1) _ ?_
    show Steps p.tables e below (s₁.setTop (mkF m 3 #[.val (.int p1), .val (.int p2), .unset, .unset, .unset, .unset] [(.int (2147483647 : Int32)), (.int p1)])) _
    refine XS.iand X0.here hx rfl (hb hby at_3) rfl ?_
    show Steps p.tables e below (s₁.setTop (mkF m 4 #[.val (.int p1), .val (.int p2), .unset, .unset, .unset, .unset] [(.int (p1 &&& (2147483647 : Int32)))])) _
    refine XS.bipush X0.here hx rfl (hb hby at_4) ?_
    show Steps p.tables e below (s₁.setTop (mkF m 6 #[.val (.int p1), .val (.int p2), .unset, .unset, .unset, .unset] [(.int (12 : Int32)), (.int (p1 &&& (2147483647 : Int32)))])) _
    refine Jvm.RoadKit.iremM (g := (mkF m 6 #[.val (.int p1), .val (.int p2), .unset, .unset, .unset, .unset] [(.int (12 : Int32)), (.int (p1 &&& (2147483647 : Int32)))])) X0 hx rfl (hb hby at_6) rfl (by decide) ?_
    rw [hi]
    show Steps p.tables e below (s₁.setTop (mkF m 7 #[.val (.int p1), .val (.int p2), .unset, .unset, .unset, .unset] [(.int (8 : Int32))])) _
    refine XS.istoreN X0.here hx rfl (hb hby at_7) rfl (l' := #[.val (.int p1), .val (.int p2), .val (.int (8 : Int32)), .unset, .unset, .unset]) rfl ?_
    show Steps p.tables e below (s₁.setTop (mkF m 8 #[.val (.int p1), .val (.int p2), .val (.int (8 : Int32)), .unset, .unset, .unset] [])) _
    refine XS.iloadN X0.here hx rfl (hb hby at_8) rfl ?_
    show Steps p.tables e below (s₁.setTop (mkF m 9 #[.val (.int p1), .val (.int p2), .val (.int (8 : Int32)), .unset, .unset, .unset] [(.int (8 : Int32))])) _
    refine XS.ifYes X0.here hx rfl (pc0 := 9) (pc' := 25) rfl (hb hby at_9) rfl ((if0 _ _).trans (feq (by decide : ¬ ((8 : Int32) = (0 : Int32)))).2) (by decide) (by decide) ?_
    show Steps p.tables e below (s₁.setTop (mkF m 25 #[.val (.int p1), .val (.int p2), .val (.int (8 : Int32)), .unset, .unset, .unset] [])) _
    refine XS.iloadN X0.here hx rfl (hb hby at_25) rfl ?_
    show Steps p.tables e below (s₁.setTop (mkF m 26 #[.val (.int p1), .val (.int p2), .val (.int (8 : Int32)), .unset, .unset, .unset] [(.int (8 : Int32))])) _
    refine XS.iconst X0.here hx rfl (hb hby at_26) ?_
    show Steps p.tables e below (s₁.setTop (mkF m 27 #[.val (.int p1), .val (.int p2), .val (.int (8 : Int32)), .unset, .unset, .unset] [(.int (1 : Int32)), (.int (8 : Int32))])) _
    refine XS.icmpYes X0.here hx rfl (pc0 := 27) (pc' := 43) rfl (hb hby at_27) rfl (feq (by decide : ¬ ((8 : Int32) = (1 : Int32)))).2 (by decide) (by decide) ?_
    show Steps p.tables e below (s₁.setTop (mkF m 43 #[.val (.int p1), .val (.int p2), .val (.int (8 : Int32)), .unset, .unset, .unset] [])) _
    refine XS.iloadN X0.here hx rfl (hb hby at_43) rfl ?_
    show Steps p.tables e below (s₁.setTop (mkF m 44 #[.val (.int p1), .val (.int p2), .val (.int (8 : Int32)), .unset, .unset, .unset] [(.int (8 : Int32))])) _
    refine XS.iconst X0.here hx rfl (hb hby at_44) ?_
    show Steps p.tables e below (s₁.setTop (mkF m 45 #[.val (.int p1), .val (.int p2), .val (.int (8 : Int32)), .unset, .unset, .unset] [(.int (2 : Int32)), (.int (8 : Int32))])) _
    refine XS.icmpYes X0.here hx rfl (pc0 := 45) (pc' := 61) rfl (hb hby at_45) rfl (feq (by decide : ¬ ((8 : Int32) = (2 : Int32)))).2 (by decide) (by decide) ?_
    show Steps p.tables e below (s₁.setTop (mkF m 61 #[.val (.int p1), .val (.int p2), .val (.int (8 : Int32)), .unset, .unset, .unset] [])) _
    refine XS.iloadN X0.here hx rfl (hb hby at_61) rfl ?_
    show Steps p.tables e below (s₁.setTop (mkF m 62 #[.val (.int p1), .val (.int p2), .val (.int (8 : Int32)), .unset, .unset, .unset] [(.int (8 : Int32))])) _
    refine XS.iconst X0.here hx rfl (hb hby at_62) ?_
    show Steps p.tables e below (s₁.setTop (mkF m 63 #[.val (.int p1), .val (.int p2), .val (.int (8 : Int32)), .unset, .unset, .unset] [(.int (3 : Int32)), (.int (8 : Int32))])) _
    refine XS.icmpYes X0.here hx rfl (pc0 := 63) (pc' := 79) rfl (hb hby at_63) rfl (feq (by decide : ¬ ((8 : Int32) = (3 : Int32)))).2 (by decide) (by decide) ?_
    show Steps p.tables e below (s₁.setTop (mkF m 79 #[.val (.int p1), .val (.int p2), .val (.int (8 : Int32)), .unset, .unset, .unset] [])) _
    refine XS.iloadN X0.here hx rfl (hb hby at_79) rfl ?_
    show Steps p.tables e below (s₁.setTop (mkF m 80 #[.val (.int p1), .val (.int p2), .val (.int (8 : Int32)), .unset, .unset, .unset] [(.int (8 : Int32))])) _
    refine XS.iconst X0.here hx rfl (hb hby at_80) ?_
    show Steps p.tables e below (s₁.setTop (mkF m 81 #[.val (.int p1), .val (.int p2), .val (.int (8 : Int32)), .unset, .unset, .unset] [(.int (4 : Int32)), (.int (8 : Int32))])) _
    refine XS.icmpYes X0.here hx rfl (pc0 := 81) (pc' := 97) rfl (hb hby at_81) rfl (feq (by decide : ¬ ((8 : Int32) = (4 : Int32)))).2 (by decide) (by decide) ?_
    show Steps p.tables e below (s₁.setTop (mkF m 97 #[.val (.int p1), .val (.int p2), .val (.int (8 : Int32)), .unset, .unset, .unset] [])) _
    refine XS.iloadN X0.here hx rfl (hb hby at_97) rfl ?_
    show Steps p.tables e below (s₁.setTop (mkF m 98 #[.val (.int p1), .val (.int p2), .val (.int (8 : Int32)), .unset, .unset, .unset] [(.int (8 : Int32))])) _
    refine XS.iconst X0.here hx rfl (hb hby at_98) ?_
    show Steps p.tables e below (s₁.setTop (mkF m 99 #[.val (.int p1), .val (.int p2), .val (.int (8 : Int32)), .unset, .unset, .unset] [(.int (5 : Int32)), (.int (8 : Int32))])) _
    refine XS.icmpYes X0.here hx rfl (pc0 := 99) (pc' := 115) rfl (hb hby at_99) rfl (feq (by decide : ¬ ((8 : Int32) = (5 : Int32)))).2 (by decide) (by decide) ?_
    show Steps p.tables e below (s₁.setTop (mkF m 115 #[.val (.int p1), .val (.int p2), .val (.int (8 : Int32)), .unset, .unset, .unset] [])) _
    refine XS.iloadN X0.here hx rfl (hb hby at_115) rfl ?_
    show Steps p.tables e below (s₁.setTop (mkF m 116 #[.val (.int p1), .val (.int p2), .val (.int (8 : Int32)), .unset, .unset, .unset] [(.int (8 : Int32))])) _
    refine XS.bipush X0.here hx rfl (hb hby at_116) ?_
    show Steps p.tables e below (s₁.setTop (mkF m 118 #[.val (.int p1), .val (.int p2), .val (.int (8 : Int32)), .unset, .unset, .unset] [(.int (6 : Int32)), (.int (8 : Int32))])) _
    refine XS.icmpYes X0.here hx rfl (pc0 := 118) (pc' := 134) rfl (hb hby at_118) rfl (feq (by decide : ¬ ((8 : Int32) = (6 : Int32)))).2 (by decide) (by decide) ?_
    show Steps p.tables e below (s₁.setTop (mkF m 134 #[.val (.int p1), .val (.int p2), .val (.int (8 : Int32)), .unset, .unset, .unset] [])) _
    refine XS.iloadN X0.here hx rfl (hb hby at_134) rfl ?_
    show Steps p.tables e below (s₁.setTop (mkF m 135 #[.val (.int p1), .val (.int p2), .val (.int (8 : Int32)), .unset, .unset, .unset] [(.int (8 : Int32))])) _
    refine XS.bipush X0.here hx rfl (hb hby at_135) ?_
    show Steps p.tables e below (s₁.setTop (mkF m 137 #[.val (.int p1), .val (.int p2), .val (.int (8 : Int32)), .unset, .unset, .unset] [(.int (7 : Int32)), (.int (8 : Int32))])) _
    refine XS.icmpYes X0.here hx rfl (pc0 := 137) (pc' := 153) rfl (hb hby at_137) rfl (feq (by decide : ¬ ((8 : Int32) = (7 : Int32)))).2 (by decide) (by decide) ?_
    show Steps p.tables e below (s₁.setTop (mkF m 153 #[.val (.int p1), .val (.int p2), .val (.int (8 : Int32)), .unset, .unset, .unset] [])) _
    refine XS.iloadN X0.here hx rfl (hb hby at_153) rfl ?_
    show Steps p.tables e below (s₁.setTop (mkF m 154 #[.val (.int p1), .val (.int p2), .val (.int (8 : Int32)), .unset, .unset, .unset] [(.int (8 : Int32))])) _
    refine XS.bipush X0.here hx rfl (hb hby at_154) ?_
    show Steps p.tables e below (s₁.setTop (mkF m 156 #[.val (.int p1), .val (.int p2), .val (.int (8 : Int32)), .unset, .unset, .unset] [(.int (8 : Int32)), (.int (8 : Int32))])) _
    refine XS.icmpNo X0.here hx rfl (hb hby at_156) rfl (teq (by decide : (8 : Int32) = (8 : Int32))).2 ?_
    show Steps p.tables e below (s₁.setTop (mkF m 159 #[.val (.int p1), .val (.int p2), .val (.int (8 : Int32)), .unset, .unset, .unset] [])) _
    refine st1 _ ?_
    show Steps p.tables e below (T1.setTop (mkF m 162 #[.val (.int p1), .val (.int p2), .val (.int (8 : Int32)), .unset, .unset, .unset] [(.ref a_HEARTBEAT)])) _
    refine XS.astoreN X1.here hx rfl (hb hby at_162) rfl rfl (l' := #[.val (.int p1), .val (.int p2), .val (.int (8 : Int32)), .val (.ref a_HEARTBEAT), .unset, .unset]) rfl ?_
    show Steps p.tables e below (T1.setTop (mkF m 163 #[.val (.int p1), .val (.int p2), .val (.int (8 : Int32)), .val (.ref a_HEARTBEAT), .unset, .unset] [])) _
    refine XS.iconst X1.here hx rfl (hb hby at_163) ?_
    show Steps p.tables e below (T1.setTop (mkF m 164 #[.val (.int p1), .val (.int p2), .val (.int (8 : Int32)), .val (.ref a_HEARTBEAT), .unset, .unset] [(.int (0 : Int32))])) _
    refine XS.istore X1.here hx rfl (hb hby at_164) rfl (l' := #[.val (.int p1), .val (.int p2), .val (.int (8 : Int32)), .val (.ref a_HEARTBEAT), .val (.int (0 : Int32)), .unset]) rfl ?_
    show Steps p.tables e below (T1.setTop (mkF m 166 #[.val (.int p1), .val (.int p2), .val (.int (8 : Int32)), .val (.ref a_HEARTBEAT), .val (.int (0 : Int32)), .unset] [])) _
    refine XS.iconst X1.here hx rfl (hb hby at_166) ?_
    show Steps p.tables e below (T1.setTop (mkF m 167 #[.val (.int p1), .val (.int p2), .val (.int (8 : Int32)), .val (.ref a_HEARTBEAT), .val (.int (0 : Int32)), .unset] [(.int (0 : Int32))])) _
    refine XS.istore X1.here hx rfl (hb hby at_167) rfl (l' := #[.val (.int p1), .val (.int p2), .val (.int (8 : Int32)), .val (.ref a_HEARTBEAT), .val (.int (0 : Int32)), .val (.int (0 : Int32))]) rfl ?_
    show Steps p.tables e below (T1.setTop (mkF m 169 #[.val (.int p1), .val (.int p2), .val (.int (8 : Int32)), .val (.ref a_HEARTBEAT), .val (.int (0 : Int32)), .val (.int (0 : Int32))] [])) _
    refine XS.goto X1.here hx rfl (pc0 := 169) (pc' := 220) rfl (hb hby at_169) (by decide) (by decide) ?_
    show Steps p.tables e below (T1.setTop (mkF m 220 #[.val (.int p1), .val (.int p2), .val (.int (8 : Int32)), .val (.ref a_HEARTBEAT), .val (.int (0 : Int32)), .val (.int (0 : Int32))] [])) _
    refine XS.aloadN X1.here hx rfl (hb hby at_220) rfl rfl ?_
    show Steps p.tables e below (T1.setTop (mkF m 221 #[.val (.int p1), .val (.int p2), .val (.int (8 : Int32)), .val (.ref a_HEARTBEAT), .val (.int (0 : Int32)), .val (.int (0 : Int32))] [(.ref a_HEARTBEAT)])) _
    refine XS.iload X1.here hx rfl (hb hby at_221) rfl ?_
    show Steps p.tables e below (T1.setTop (mkF m 223 #[.val (.int p1), .val (.int p2), .val (.int (8 : Int32)), .val (.ref a_HEARTBEAT), .val (.int (0 : Int32)), .val (.int (0 : Int32))] [(.int (0 : Int32)), (.ref a_HEARTBEAT)])) _
    refine XS.iload X1.here hx rfl (hb hby at_223) rfl ?_
    show Steps p.tables e below (T1.setTop (mkF m 225 #[.val (.int p1), .val (.int p2), .val (.int (8 : Int32)), .val (.ref a_HEARTBEAT), .val (.int (0 : Int32)), .val (.int (0 : Int32))] [(.int (0 : Int32)), (.int (0 : Int32)), (.ref a_HEARTBEAT)])) _
    refine XS.iloadN X1.here hx rfl (hb hby at_225) rfl ?_
    show Steps p.tables e below (T1.setTop (mkF m 226 #[.val (.int p1), .val (.int p2), .val (.int (8 : Int32)), .val (.ref a_HEARTBEAT), .val (.int (0 : Int32)), .val (.int (0 : Int32))] [(.int p2), (.int (0 : Int32)), (.int (0 : Int32)), (.ref a_HEARTBEAT)])) _
    refine st2 _ ?_
    show Steps p.tables e below (T2.setTop (mkF m 229 #[.val (.int p1), .val (.int p2), .val (.int (8 : Int32)), .val (.ref a_HEARTBEAT), .val (.int (0 : Int32)), .val (.int (0 : Int32))] [(.int (1 : Int32))])) _
    refine XS.ifNo X2.here hx rfl (hb hby at_229) rfl ((if0 _ _).trans (feq (by decide : ¬ ((1 : Int32) = (0 : Int32)))).1) ?_
    show Steps p.tables e below (T2.setTop (mkF m 232 #[.val (.int p1), .val (.int p2), .val (.int (8 : Int32)), .val (.ref a_HEARTBEAT), .val (.int (0 : Int32)), .val (.int (0 : Int32))] [])) _
    refine XS.aloadN X2.here hx rfl (hb hby at_232) rfl rfl ?_
    show Steps p.tables e below (T2.setTop (mkF m 233 #[.val (.int p1), .val (.int p2), .val (.int (8 : Int32)), .val (.ref a_HEARTBEAT), .val (.int (0 : Int32)), .val (.int (0 : Int32))] [(.ref a_HEARTBEAT)])) _
    refine XS.iload X2.here hx rfl (hb hby at_233) rfl ?_
    show Steps p.tables e below (T2.setTop (mkF m 235 #[.val (.int p1), .val (.int p2), .val (.int (8 : Int32)), .val (.ref a_HEARTBEAT), .val (.int (0 : Int32)), .val (.int (0 : Int32))] [(.int (0 : Int32)), (.ref a_HEARTBEAT)])) _
    refine XS.iload X2.here hx rfl (hb hby at_235) rfl ?_
    show Steps p.tables e below (T2.setTop (mkF m 237 #[.val (.int p1), .val (.int p2), .val (.int (8 : Int32)), .val (.ref a_HEARTBEAT), .val (.int (0 : Int32)), .val (.int (0 : Int32))] [(.int (0 : Int32)), (.int (0 : Int32)), (.ref a_HEARTBEAT)])) _
    refine XS.iload X2.here hx rfl (hb hby at_237) rfl ?_
    show Steps p.tables e below (T2.setTop (mkF m 239 #[.val (.int p1), .val (.int p2), .val (.int (8 : Int32)), .val (.ref a_HEARTBEAT), .val (.int (0 : Int32)), .val (.int (0 : Int32))] [(.int (0 : Int32)), (.int (0 : Int32)), (.int (0 : Int32)), (.ref a_HEARTBEAT)])) _
    refine XS.iconst X2.here hx rfl (hb hby at_239) ?_
    show Steps p.tables e below (T2.setTop (mkF m 240 #[.val (.int p1), .val (.int p2), .val (.int (8 : Int32)), .val (.ref a_HEARTBEAT), .val (.int (0 : Int32)), .val (.int (0 : Int32))] [(.int (1 : Int32)), (.int (0 : Int32)), (.int (0 : Int32)), (.int (0 : Int32)), (.ref a_HEARTBEAT)])) _
    refine XS.isub X2.here hx rfl (hb hby at_240) rfl ?_
    show Steps p.tables e below (T2.setTop (mkF m 241 #[.val (.int p1), .val (.int p2), .val (.int (8 : Int32)), .val (.ref a_HEARTBEAT), .val (.int (0 : Int32)), .val (.int (0 : Int32))] [(.int ((0 : Int32) - (1 : Int32))), (.int (0 : Int32)), (.int (0 : Int32)), (.ref a_HEARTBEAT)])) _
    refine st3 _ ?_
    show Steps p.tables e below (T3.setTop (mkF m 244 #[.val (.int p1), .val (.int p2), .val (.int (8 : Int32)), .val (.ref a_HEARTBEAT), .val (.int (0 : Int32)), .val (.int (0 : Int32))] [(.int (1 : Int32))])) _
    refine XS.ifNo X3.here hx rfl (hb hby at_244) rfl ((if0 _ _).trans (feq (by decide : ¬ ((1 : Int32) = (0 : Int32)))).1) ?_
    show Steps p.tables e below (T3.setTop (mkF m 247 #[.val (.int p1), .val (.int p2), .val (.int (8 : Int32)), .val (.ref a_HEARTBEAT), .val (.int (0 : Int32)), .val (.int (0 : Int32))] [])) _
    refine XS.aloadN X3.here hx rfl (hb hby at_247) rfl rfl ?_
    show Steps p.tables e below (T3.setTop (mkF m 248 #[.val (.int p1), .val (.int p2), .val (.int (8 : Int32)), .val (.ref a_HEARTBEAT), .val (.int (0 : Int32)), .val (.int (0 : Int32))] [(.ref a_HEARTBEAT)])) _
    refine XS.iload X3.here hx rfl (hb hby at_248) rfl ?_
    show Steps p.tables e below (T3.setTop (mkF m 250 #[.val (.int p1), .val (.int p2), .val (.int (8 : Int32)), .val (.ref a_HEARTBEAT), .val (.int (0 : Int32)), .val (.int (0 : Int32))] [(.int (0 : Int32)), (.ref a_HEARTBEAT)])) _
    refine XS.iload X3.here hx rfl (hb hby at_250) rfl ?_
    show Steps p.tables e below (T3.setTop (mkF m 252 #[.val (.int p1), .val (.int p2), .val (.int (8 : Int32)), .val (.ref a_HEARTBEAT), .val (.int (0 : Int32)), .val (.int (0 : Int32))] [(.int (0 : Int32)), (.int (0 : Int32)), (.ref a_HEARTBEAT)])) _
    refine XS.iload X3.here hx rfl (hb hby at_252) rfl ?_
    show Steps p.tables e below (T3.setTop (mkF m 254 #[.val (.int p1), .val (.int p2), .val (.int (8 : Int32)), .val (.ref a_HEARTBEAT), .val (.int (0 : Int32)), .val (.int (0 : Int32))] [(.int (0 : Int32)), (.int (0 : Int32)), (.int (0 : Int32)), (.ref a_HEARTBEAT)])) _
    refine st4 _ ?_
    show Steps p.tables e below (T4.setTop (mkF m 257 #[.val (.int p1), .val (.int p2), .val (.int (8 : Int32)), .val (.ref a_HEARTBEAT), .val (.int (0 : Int32)), .val (.int (0 : Int32))] [(.int (1 : Int32))])) _
    refine XS.ifNo X4.here hx rfl (hb hby at_257) rfl ((if0 _ _).trans (feq (by decide : ¬ ((1 : Int32) = (0 : Int32)))).1) ?_
    show Steps p.tables e below (T4.setTop (mkF m 260 #[.val (.int p1), .val (.int p2), .val (.int (8 : Int32)), .val (.ref a_HEARTBEAT), .val (.int (0 : Int32)), .val (.int (0 : Int32))] [])) _
    refine XS.aloadN X4.here hx rfl (hb hby at_260) rfl rfl ?_
    show Steps p.tables e below (T4.setTop (mkF m 261 #[.val (.int p1), .val (.int p2), .val (.int (8 : Int32)), .val (.ref a_HEARTBEAT), .val (.int (0 : Int32)), .val (.int (0 : Int32))] [(.ref a_HEARTBEAT)])) _
    refine XS.iload X4.here hx rfl (hb hby at_261) rfl ?_
    show Steps p.tables e below (T4.setTop (mkF m 263 #[.val (.int p1), .val (.int p2), .val (.int (8 : Int32)), .val (.ref a_HEARTBEAT), .val (.int (0 : Int32)), .val (.int (0 : Int32))] [(.int (0 : Int32)), (.ref a_HEARTBEAT)])) _
    refine XS.iload X4.here hx rfl (hb hby at_263) rfl ?_
    show Steps p.tables e below (T4.setTop (mkF m 265 #[.val (.int p1), .val (.int p2), .val (.int (8 : Int32)), .val (.ref a_HEARTBEAT), .val (.int (0 : Int32)), .val (.int (0 : Int32))] [(.int (0 : Int32)), (.int (0 : Int32)), (.ref a_HEARTBEAT)])) _
    refine XS.iload X4.here hx rfl (hb hby at_265) rfl ?_
    show Steps p.tables e below (T4.setTop (mkF m 267 #[.val (.int p1), .val (.int p2), .val (.int (8 : Int32)), .val (.ref a_HEARTBEAT), .val (.int (0 : Int32)), .val (.int (0 : Int32))] [(.int (0 : Int32)), (.int (0 : Int32)), (.int (0 : Int32)), (.ref a_HEARTBEAT)])) _
    refine st5 _ ?_
    show Steps p.tables e below (T5.setTop (mkF m 270 #[.val (.int p1), .val (.int p2), .val (.int (8 : Int32)), .val (.ref a_HEARTBEAT), .val (.int (0 : Int32)), .val (.int (0 : Int32))] [(.int (1 : Int32))])) _
    refine XS.ifNo X5.here hx rfl (hb hby at_270) rfl ((if0 _ _).trans (feq (by decide : ¬ ((1 : Int32) = (0 : Int32)))).1) ?_
    show Steps p.tables e below (T5.setTop (mkF m 273 #[.val (.int p1), .val (.int p2), .val (.int (8 : Int32)), .val (.ref a_HEARTBEAT), .val (.int (0 : Int32)), .val (.int (0 : Int32))] [])) _
    refine XS.aloadN X5.here hx rfl (hb hby at_273) rfl rfl ?_
    show Steps p.tables e below (T5.setTop (mkF m 274 #[.val (.int p1), .val (.int p2), .val (.int (8 : Int32)), .val (.ref a_HEARTBEAT), .val (.int (0 : Int32)), .val (.int (0 : Int32))] [(.ref a_HEARTBEAT)])) _
    refine XS.iload X5.here hx rfl (hb hby at_274) rfl ?_
    show Steps p.tables e below (T5.setTop (mkF m 276 #[.val (.int p1), .val (.int p2), .val (.int (8 : Int32)), .val (.ref a_HEARTBEAT), .val (.int (0 : Int32)), .val (.int (0 : Int32))] [(.int (0 : Int32)), (.ref a_HEARTBEAT)])) _
    refine XS.iload X5.here hx rfl (hb hby at_276) rfl ?_
    show Steps p.tables e below (T5.setTop (mkF m 278 #[.val (.int p1), .val (.int p2), .val (.int (8 : Int32)), .val (.ref a_HEARTBEAT), .val (.int (0 : Int32)), .val (.int (0 : Int32))] [(.int (0 : Int32)), (.int (0 : Int32)), (.ref a_HEARTBEAT)])) _
    refine XS.iload X5.here hx rfl (hb hby at_278) rfl ?_
    show Steps p.tables e below (T5.setTop (mkF m 280 #[.val (.int p1), .val (.int p2), .val (.int (8 : Int32)), .val (.ref a_HEARTBEAT), .val (.int (0 : Int32)), .val (.int (0 : Int32))] [(.int (0 : Int32)), (.int (0 : Int32)), (.int (0 : Int32)), (.ref a_HEARTBEAT)])) _
    refine XS.iconst X5.here hx rfl (hb hby at_280) ?_
    show Steps p.tables e below (T5.setTop (mkF m 281 #[.val (.int p1), .val (.int p2), .val (.int (8 : Int32)), .val (.ref a_HEARTBEAT), .val (.int (0 : Int32)), .val (.int (0 : Int32))] [(.int (1 : Int32)), (.int (0 : Int32)), (.int (0 : Int32)), (.int (0 : Int32)), (.ref a_HEARTBEAT)])) _
    refine XS.iadd X5.here hx rfl (hb hby at_281) rfl ?_
    show Steps p.tables e below (T5.setTop (mkF m 282 #[.val (.int p1), .val (.int p2), .val (.int (8 : Int32)), .val (.ref a_HEARTBEAT), .val (.int (0 : Int32)), .val (.int (0 : Int32))] [(.int ((0 : Int32) + (1 : Int32))), (.int (0 : Int32)), (.int (0 : Int32)), (.ref a_HEARTBEAT)])) _
    refine st6 _ ?_
    show Steps p.tables e below (T6.setTop (mkF m 285 #[.val (.int p1), .val (.int p2), .val (.int (8 : Int32)), .val (.ref a_HEARTBEAT), .val (.int (0 : Int32)), .val (.int (0 : Int32))] [(.int (1 : Int32))])) _
    refine XS.ifNo X6.here hx rfl (hb hby at_285) rfl ((if0 _ _).trans (feq (by decide : ¬ ((1 : Int32) = (0 : Int32)))).1) ?_
    show Steps p.tables e below (T6.setTop (mkF m 288 #[.val (.int p1), .val (.int p2), .val (.int (8 : Int32)), .val (.ref a_HEARTBEAT), .val (.int (0 : Int32)), .val (.int (0 : Int32))] [])) _
    refine XS.iconst X6.here hx rfl (hb hby at_288) ?_
    show Steps p.tables e below (T6.setTop (mkF m 289 #[.val (.int p1), .val (.int p2), .val (.int (8 : Int32)), .val (.ref a_HEARTBEAT), .val (.int (0 : Int32)), .val (.int (0 : Int32))] [(.int (1 : Int32))])) _
    refine XS.goto X6.here hx rfl (pc0 := 289) (pc' := 293) rfl (hb hby at_289) (by decide) (by decide) ?_
    show Steps p.tables e below (T6.setTop (mkF m 293 #[.val (.int p1), .val (.int p2), .val (.int (8 : Int32)), .val (.ref a_HEARTBEAT), .val (.int (0 : Int32)), .val (.int (0 : Int32))] [(.int (1 : Int32))])) _
    exact retN X6 hx (t := .boolean) Bd.returns (by simp) (hb hby at_293) hr
  · exact ⟨rfl, N6⟩
set_option maxRecDepth 65536 in
set_option maxHeartbeats 40000000 in
theorem rm0_16 (l : Launch) (Z : State) (a0 : Array Value) (hw : ∀ d ∈ tables_1, d.before a0 Z = true) (ws : List Jvm.Cond) (a_PRODUCE : Addr) (a_LIST_OFFSETS : Addr) (a_HEARTBEAT : Addr) (a_OFFSET_COMMIT : Addr) (a_FETCH : Addr) (a_FIND_COORDINATOR : Addr) (a_API_VERSIONS : Addr) (a_METADATA : Addr) (a_LEAVE_GROUP : Addr) (a_JOIN_GROUP : Addr) (a_SYNC_GROUP : Addr) (a_OFFSET_FETCH : Addr) (p1 : Int32) (p2 : Int32) (h0 : Heap) (n0 : Nat) (Z0 : n0 ≤ h0.size) (hS : Wd Z h0 a_PRODUCE a_LIST_OFFSETS a_HEARTBEAT a_OFFSET_COMMIT a_FETCH a_FIND_COORDINATOR a_API_VERSIONS a_METADATA a_LEAVE_GROUP a_JOIN_GROUP a_SYNC_GROUP a_OFFSET_FETCH) (hi : ((p1 &&& (2147483647 : Int32)) % (12 : Int32)) = (9 : Int32)) :
    MetFree l x (head1 (Jvm.Cond.code x code maxLocals ret :: ws) room_1) (fun a U => a = #[(.int p1), (.int p2)] ∧ Z.Warmed39 U.vm ∧ U.heap = h0) (fun _ _ _ _ _ => True) (fun _ U o U' => ∃ v L, o = .returned v ∧ Q0 n0 v L ∧ FrameEnd U o U' L room_1.cells room_1.slots) := by
  refine MetFree.of_bodySF (plainFor_of_name pn_com_example_keelstream_keelstream_ApiKeySupportsPinLaw) hisR ?_
  intro p e s m args below meth c s₁ Bd hml0 hP hK
  obtain ⟨rfl, hZ, hh⟩ := hP
  have hx := Bd.exec
  have hby := Bd.bytes
  have hml : c.maxLocals = 6 := hml0
  have hown : s.vm.findClass "com/example/keelstream/keelstream/ApiKeySupportsPinLaw" = some m.cls := findClass_of_methodNamed Bd.named
  have X0 : Stand p l e room_1 s m #[(.int p1), (.int p2)] below meth c s₁ [] 0 0 := Stand.of_body Bd
  have e0 : s₁.heap = h0 := by rw [← hh, Bd.state]; rfl
  have N0 := Fr.nil n0
  have pre0 : ∀ t, Steps p.tables e below (s₁.setTop (mkF m 0 #[.val (.int p1), .val (.int p2), .unset, .unset, .unset, .unset] [])) t → Steps p.tables e below (s₁.setTop (entryFrame m #[(.int p1), (.int p2)] maxLocals)) t := fun t k => castTop (by first | (simp [entryFrame, mkF, argsToLocals, Value.category, maxLocals]; done) | rfl) k
  obtain ⟨S_PRODUCE, E_PRODUCE, S_LIST_OFFSETS, E_LIST_OFFSETS, S_HEARTBEAT, E_HEARTBEAT, S_OFFSET_COMMIT, E_OFFSET_COMMIT, S_FETCH, E_FETCH, S_FIND_COORDINATOR, E_FIND_COORDINATOR, S_API_VERSIONS, E_API_VERSIONS, S_METADATA, E_METADATA, S_LEAVE_GROUP, E_LEAVE_GROUP, S_JOIN_GROUP, E_JOIN_GROUP, S_SYNC_GROUP, E_SYNC_GROUP, S_OFFSET_FETCH, E_OFFSET_FETCH, F_PRODUCE_minVersion, F_PRODUCE_maxVersion, F_LIST_OFFSETS_minVersion, F_LIST_OFFSETS_maxVersion, F_HEARTBEAT_minVersion, F_HEARTBEAT_maxVersion, F_OFFSET_COMMIT_minVersion, F_OFFSET_COMMIT_maxVersion, F_FETCH_minVersion, F_FETCH_maxVersion, F_FIND_COORDINATOR_minVersion, F_FIND_COORDINATOR_maxVersion, F_API_VERSIONS_minVersion, F_API_VERSIONS_maxVersion, F_METADATA_minVersion, F_METADATA_maxVersion, F_LEAVE_GROUP_minVersion, F_LEAVE_GROUP_maxVersion, F_JOIN_GROUP_minVersion, F_JOIN_GROUP_maxVersion, F_SYNC_GROUP_minVersion, F_SYNC_GROUP_maxVersion, F_OFFSET_FETCH_minVersion, F_OFFSET_FETCH_maxVersion⟩ := id hS
  obtain ⟨T1, X1, e1, st1⟩ := getS2 X0 hx hZ hown (host := "") (Or.inl (hw _ (List.mem_of_getElem? (i := 31) rfl))) Via.refl e0 S_LEAVE_GROUP (g := (mkF m 178 #[.val (.int p1), .val (.int p2), .val (.int (9 : Int32)), .unset, .unset, .unset] [])) rfl (hb hby at_178)
  obtain ⟨_, _, ⟨T2, L2, k2, n2⟩, -, X2, ⟨Lc2, hQ2, l2, y2, z2⟩, st2⟩ := Jvm.LawKit.callS X1 hx (y := (⟨"com/example/keelstream/keelstream/ApiKeySupportsPinLaw", "ok", "(Lcom/example/keelstream/keelstream/ApiKey;III)Z"⟩ : MethodName)) hown (mvT hZ (hw _ (List.mem_of_getElem? (i := 4) rfl))) (mvT hZ (hw _ (List.mem_of_getElem? (i := 5) rfl))) (mvT hZ (hw _ (List.mem_of_getElem? (i := 6) rfl))) (mvT hZ (hw _ (List.mem_of_getElem? (i := 7) rfl))) (by decide) (backOf (W := 0) (okAll l Z a0 hw [] a_LEAVE_GROUP (0 : Int32) (0 : Int32) p2 h0 n0 Z0 ⟨E_LEAVE_GROUP, F_LEAVE_GROUP_minVersion, F_LEAVE_GROUP_maxVersion⟩) hZ (hw _ (List.mem_of_getElem? (i := 7) rfl)) (hw _ (List.mem_of_getElem? (i := 6) rfl)) (by decide) (by decide)) (g := (mkF m 226 #[.val (.int p1), .val (.int p2), .val (.int (9 : Int32)), .val (.ref a_LEAVE_GROUP), .val (.int (0 : Int32)), .val (.int (0 : Int32))] [(.int p2), (.int (0 : Int32)), (.int (0 : Int32)), (.ref a_LEAVE_GROUP)])) rfl (by rw [hml]; rfl) (argsL := [(.ref a_LEAVE_GROUP), (.int (0 : Int32)), (.int (0 : Int32)), (.int p2)]) (rest := []) (lenOf pd_1 rfl) rfl (by show 2 * 0 + _ ≤ _; exact Nat.le_of_eq rfl) (hb hby at_226) (fun _ _ => ⟨rfl, e1, (by decide : 0 + 0 ≤ _), (by decide : 0 + 0 ≤ _)⟩)
  dsimp only [Pt.U, Pt.locs, Pt.cells, Pt.slots] at X2 l2 y2 z2 st2 hQ2
  subst l2 y2 z2
  obtain ⟨rfl, N2q, e2⟩ := hQ2
  have N2 := Fr.app N0 N2q
  obtain ⟨_, _, ⟨T3, L3, k3, n3⟩, -, X3, ⟨Lc3, hQ3, l3, y3, z3⟩, st3⟩ := Jvm.LawKit.callS X2 hx (y := (⟨"com/example/keelstream/keelstream/ApiKeySupportsPinLaw", "ok", "(Lcom/example/keelstream/keelstream/ApiKey;III)Z"⟩ : MethodName)) hown (mvT hZ (hw _ (List.mem_of_getElem? (i := 4) rfl))) (mvT hZ (hw _ (List.mem_of_getElem? (i := 5) rfl))) (mvT hZ (hw _ (List.mem_of_getElem? (i := 6) rfl))) (mvT hZ (hw _ (List.mem_of_getElem? (i := 7) rfl))) (by decide) (backOf (W := 0) (okAll l Z a0 hw [] a_LEAVE_GROUP (0 : Int32) (0 : Int32) ((0 : Int32) - (1 : Int32)) h0 n0 Z0 ⟨E_LEAVE_GROUP, F_LEAVE_GROUP_minVersion, F_LEAVE_GROUP_maxVersion⟩) hZ (hw _ (List.mem_of_getElem? (i := 7) rfl)) (hw _ (List.mem_of_getElem? (i := 6) rfl)) (by decide) (by decide)) (g := (mkF m 241 #[.val (.int p1), .val (.int p2), .val (.int (9 : Int32)), .val (.ref a_LEAVE_GROUP), .val (.int (0 : Int32)), .val (.int (0 : Int32))] [(.int ((0 : Int32) - (1 : Int32))), (.int (0 : Int32)), (.int (0 : Int32)), (.ref a_LEAVE_GROUP)])) rfl (by rw [hml]; rfl) (argsL := [(.ref a_LEAVE_GROUP), (.int (0 : Int32)), (.int (0 : Int32)), (.int ((0 : Int32) - (1 : Int32)))]) (rest := []) (lenOf pd_1 rfl) rfl (by show 2 * 0 + _ ≤ _; exact Nat.le_of_eq rfl) (hb hby at_241) (fun _ _ => ⟨rfl, e2, (by decide : 0 + 0 ≤ _), (by decide : 0 + 0 ≤ _)⟩)
  dsimp only [Pt.U, Pt.locs, Pt.cells, Pt.slots] at X3 l3 y3 z3 st3 hQ3
  subst l3 y3 z3
  obtain ⟨rfl, N3q, e3⟩ := hQ3
  have N3 := Fr.app N2 N3q
  obtain ⟨_, _, ⟨T4, L4, k4, n4⟩, -, X4, ⟨Lc4, hQ4, l4, y4, z4⟩, st4⟩ := Jvm.LawKit.callS X3 hx (y := (⟨"com/example/keelstream/keelstream/ApiKeySupportsPinLaw", "ok", "(Lcom/example/keelstream/keelstream/ApiKey;III)Z"⟩ : MethodName)) hown (mvT hZ (hw _ (List.mem_of_getElem? (i := 4) rfl))) (mvT hZ (hw _ (List.mem_of_getElem? (i := 5) rfl))) (mvT hZ (hw _ (List.mem_of_getElem? (i := 6) rfl))) (mvT hZ (hw _ (List.mem_of_getElem? (i := 7) rfl))) (by decide) (backOf (W := 0) (okAll l Z a0 hw [] a_LEAVE_GROUP (0 : Int32) (0 : Int32) (0 : Int32) h0 n0 Z0 ⟨E_LEAVE_GROUP, F_LEAVE_GROUP_minVersion, F_LEAVE_GROUP_maxVersion⟩) hZ (hw _ (List.mem_of_getElem? (i := 7) rfl)) (hw _ (List.mem_of_getElem? (i := 6) rfl)) (by decide) (by decide)) (g := (mkF m 254 #[.val (.int p1), .val (.int p2), .val (.int (9 : Int32)), .val (.ref a_LEAVE_GROUP), .val (.int (0 : Int32)), .val (.int (0 : Int32))] [(.int (0 : Int32)), (.int (0 : Int32)), (.int (0 : Int32)), (.ref a_LEAVE_GROUP)])) rfl (by rw [hml]; rfl) (argsL := [(.ref a_LEAVE_GROUP), (.int (0 : Int32)), (.int (0 : Int32)), (.int (0 : Int32))]) (rest := []) (lenOf pd_1 rfl) rfl (by show 2 * 0 + _ ≤ _; exact Nat.le_of_eq rfl) (hb hby at_254) (fun _ _ => ⟨rfl, e3, (by decide : 0 + 0 ≤ _), (by decide : 0 + 0 ≤ _)⟩)
  dsimp only [Pt.U, Pt.locs, Pt.cells, Pt.slots] at X4 l4 y4 z4 st4 hQ4
  subst l4 y4 z4
  obtain ⟨rfl, N4q, e4⟩ := hQ4
  have N4 := Fr.app N3 N4q
  obtain ⟨_, _, ⟨T5, L5, k5, n5⟩, -, X5, ⟨Lc5, hQ5, l5, y5, z5⟩, st5⟩ := Jvm.LawKit.callS X4 hx (y := (⟨"com/example/keelstream/keelstream/ApiKeySupportsPinLaw", "ok", "(Lcom/example/keelstream/keelstream/ApiKey;III)Z"⟩ : MethodName)) hown (mvT hZ (hw _ (List.mem_of_getElem? (i := 4) rfl))) (mvT hZ (hw _ (List.mem_of_getElem? (i := 5) rfl))) (mvT hZ (hw _ (List.mem_of_getElem? (i := 6) rfl))) (mvT hZ (hw _ (List.mem_of_getElem? (i := 7) rfl))) (by decide) (backOf (W := 0) (okAll l Z a0 hw [] a_LEAVE_GROUP (0 : Int32) (0 : Int32) (0 : Int32) h0 n0 Z0 ⟨E_LEAVE_GROUP, F_LEAVE_GROUP_minVersion, F_LEAVE_GROUP_maxVersion⟩) hZ (hw _ (List.mem_of_getElem? (i := 7) rfl)) (hw _ (List.mem_of_getElem? (i := 6) rfl)) (by decide) (by decide)) (g := (mkF m 267 #[.val (.int p1), .val (.int p2), .val (.int (9 : Int32)), .val (.ref a_LEAVE_GROUP), .val (.int (0 : Int32)), .val (.int (0 : Int32))] [(.int (0 : Int32)), (.int (0 : Int32)), (.int (0 : Int32)), (.ref a_LEAVE_GROUP)])) rfl (by rw [hml]; rfl) (argsL := [(.ref a_LEAVE_GROUP), (.int (0 : Int32)), (.int (0 : Int32)), (.int (0 : Int32))]) (rest := []) (lenOf pd_1 rfl) rfl (by show 2 * 0 + _ ≤ _; exact Nat.le_of_eq rfl) (hb hby at_267) (fun _ _ => ⟨rfl, e4, (by decide : 0 + 0 ≤ _), (by decide : 0 + 0 ≤ _)⟩)
  dsimp only [Pt.U, Pt.locs, Pt.cells, Pt.slots] at X5 l5 y5 z5 st5 hQ5
  subst l5 y5 z5
  obtain ⟨rfl, N5q, e5⟩ := hQ5
  have N5 := Fr.app N4 N5q
  obtain ⟨_, _, ⟨T6, L6, k6, n6⟩, -, X6, ⟨Lc6, hQ6, l6, y6, z6⟩, st6⟩ := Jvm.LawKit.callS X5 hx (y := (⟨"com/example/keelstream/keelstream/ApiKeySupportsPinLaw", "ok", "(Lcom/example/keelstream/keelstream/ApiKey;III)Z"⟩ : MethodName)) hown (mvT hZ (hw _ (List.mem_of_getElem? (i := 4) rfl))) (mvT hZ (hw _ (List.mem_of_getElem? (i := 5) rfl))) (mvT hZ (hw _ (List.mem_of_getElem? (i := 6) rfl))) (mvT hZ (hw _ (List.mem_of_getElem? (i := 7) rfl))) (by decide) (backOf (W := 0) (okAll l Z a0 hw [] a_LEAVE_GROUP (0 : Int32) (0 : Int32) ((0 : Int32) + (1 : Int32)) h0 n0 Z0 ⟨E_LEAVE_GROUP, F_LEAVE_GROUP_minVersion, F_LEAVE_GROUP_maxVersion⟩) hZ (hw _ (List.mem_of_getElem? (i := 7) rfl)) (hw _ (List.mem_of_getElem? (i := 6) rfl)) (by decide) (by decide)) (g := (mkF m 282 #[.val (.int p1), .val (.int p2), .val (.int (9 : Int32)), .val (.ref a_LEAVE_GROUP), .val (.int (0 : Int32)), .val (.int (0 : Int32))] [(.int ((0 : Int32) + (1 : Int32))), (.int (0 : Int32)), (.int (0 : Int32)), (.ref a_LEAVE_GROUP)])) rfl (by rw [hml]; rfl) (argsL := [(.ref a_LEAVE_GROUP), (.int (0 : Int32)), (.int (0 : Int32)), (.int ((0 : Int32) + (1 : Int32)))]) (rest := []) (lenOf pd_1 rfl) rfl (by show 2 * 0 + _ ≤ _; exact Nat.le_of_eq rfl) (hb hby at_282) (fun _ _ => ⟨rfl, e5, (by decide : 0 + 0 ≤ _), (by decide : 0 + 0 ≤ _)⟩)
  dsimp only [Pt.U, Pt.locs, Pt.cells, Pt.slots] at X6 l6 y6 z6 st6 hQ6
  subst l6 y6 z6
  obtain ⟨rfl, N6q, e6⟩ := hQ6
  have N6 := Fr.app N5 N6q
  obtain ⟨fs, hr, hrun, hended, hW, hsame⟩ := X6.leave (v := some (.int (1 : Int32))) (fun h => by rw [Bd.returns] at h; cases h)
  refine ⟨_, _, pre0 _ ?_, hrun, hended, _, _, rfl, ?_, ⟨_, rfl⟩, hW, hsame.mono (by decide) (by decide)⟩
  · show Steps p.tables e below (s₁.setTop (mkF m 0 #[.val (.int p1), .val (.int p2), .unset, .unset, .unset, .unset] [])) _
    refine XS.iloadN X0.here hx rfl (hb hby at_0) rfl ?_
    show Steps p.tables e below (s₁.setTop (mkF m 1 #[.val (.int p1), .val (.int p2), .unset, .unset, .unset, .unset] [(.int p1)])) _
    refine X0.ldcInt hx hown (mvT hZ (hw _ (List.mem_of_getElem? (i := 0) rfl))) (g := (mkF m 1 #[.val (.int p1), .val (.int p2), .unset, .unset, .unset, .unset] [(.int p1)])) rfl (hb hby at_1) _ ?_
    show Steps p.tables e below (s₁.setTop (mkF m 3 #[.val (.int p1), .val (.int p2), .unset, .unset, .unset, .unset] [(.int (2147483647 : Int32)), (.int p1)])) _
    refine XS.iand X0.here hx rfl (hb hby at_3) rfl ?_
    show Steps p.tables e below (s₁.setTop (mkF m 4 #[.val (.int p1), .val (.int p2), .unset, .unset, .unset, .unset] [(.int (p1 &&& (2147483647 : Int32)))])) _
    refine XS.bipush X0.here hx rfl (hb hby at_4) ?_
    show Steps p.tables e below (s₁.setTop (mkF m 6 #[.val (.int p1), .val (.int p2), .unset, .unset, .unset, .unset] [(.int (12 : Int32)), (.int (p1 &&& (2147483647 : Int32)))])) _
    refine Jvm.RoadKit.iremM (g := (mkF m 6 #[.val (.int p1), .val (.int p2), .unset, .unset, .unset, .unset] [(.int (12 : Int32)), (.int (p1 &&& (2147483647 : Int32)))])) X0 hx rfl (hb hby at_6) rfl (by decide) ?_
    rw [hi]
    show Steps p.tables e below (s₁.setTop (mkF m 7 #[.val (.int p1), .val (.int p2), .unset, .unset, .unset, .unset] [(.int (9 : Int32))])) _
    refine XS.istoreN X0.here hx rfl (hb hby at_7) rfl (l' := #[.val (.int p1), .val (.int p2), .val (.int (9 : Int32)), .unset, .unset, .unset]) rfl ?_
    show Steps p.tables e below (s₁.setTop (mkF m 8 #[.val (.int p1), .val (.int p2), .val (.int (9 : Int32)), .unset, .unset, .unset] [])) _
    refine XS.iloadN X0.here hx rfl (hb hby at_8) rfl ?_
    show Steps p.tables e below (s₁.setTop (mkF m 9 #[.val (.int p1), .val (.int p2), .val (.int (9 : Int32)), .unset, .unset, .unset] [(.int (9 : Int32))])) _
    refine XS.ifYes X0.here hx rfl (pc0 := 9) (pc' := 25) rfl (hb hby at_9) rfl ((if0 _ _).trans (feq (by decide : ¬ ((9 : Int32) = (0 : Int32)))).2) (by decide) (by decide) ?_
    show Steps p.tables e below (s₁.setTop (mkF m 25 #[.val (.int p1), .val (.int p2), .val (.int (9 : Int32)), .unset, .unset, .unset] [])) _
    refine XS.iloadN X0.here hx rfl (hb hby at_25) rfl ?_
    show Steps p.tables e below (s₁.setTop (mkF m 26 #[.val (.int p1), .val (.int p2), .val (.int (9 : Int32)), .unset, .unset, .unset] [(.int (9 : Int32))])) _
    refine XS.iconst X0.here hx rfl (hb hby at_26) ?_
    show Steps p.tables e below (s₁.setTop (mkF m 27 #[.val (.int p1), .val (.int p2), .val (.int (9 : Int32)), .unset, .unset, .unset] [(.int (1 : Int32)), (.int (9 : Int32))])) _
    refine XS.icmpYes X0.here hx rfl (pc0 := 27) (pc' := 43) rfl (hb hby at_27) rfl (feq (by decide : ¬ ((9 : Int32) = (1 : Int32)))).2 (by decide) (by decide) ?_
    show Steps p.tables e below (s₁.setTop (mkF m 43 #[.val (.int p1), .val (.int p2), .val (.int (9 : Int32)), .unset, .unset, .unset] [])) _
    refine XS.iloadN X0.here hx rfl (hb hby at_43) rfl ?_
    show Steps p.tables e below (s₁.setTop (mkF m 44 #[.val (.int p1), .val (.int p2), .val (.int (9 : Int32)), .unset, .unset, .unset] [(.int (9 : Int32))])) _
    refine XS.iconst X0.here hx rfl (hb hby at_44) ?_
    show Steps p.tables e below (s₁.setTop (mkF m 45 #[.val (.int p1), .val (.int p2), .val (.int (9 : Int32)), .unset, .unset, .unset] [(.int (2 : Int32)), (.int (9 : Int32))])) _
    refine XS.icmpYes X0.here hx rfl (pc0 := 45) (pc' := 61) rfl (hb hby at_45) rfl (feq (by decide : ¬ ((9 : Int32) = (2 : Int32)))).2 (by decide) (by decide) ?_
    show Steps p.tables e below (s₁.setTop (mkF m 61 #[.val (.int p1), .val (.int p2), .val (.int (9 : Int32)), .unset, .unset, .unset] [])) _
    refine XS.iloadN X0.here hx rfl (hb hby at_61) rfl ?_
    show Steps p.tables e below (s₁.setTop (mkF m 62 #[.val (.int p1), .val (.int p2), .val (.int (9 : Int32)), .unset, .unset, .unset] [(.int (9 : Int32))])) _
    refine XS.iconst X0.here hx rfl (hb hby at_62) ?_
    show Steps p.tables e below (s₁.setTop (mkF m 63 #[.val (.int p1), .val (.int p2), .val (.int (9 : Int32)), .unset, .unset, .unset] [(.int (3 : Int32)), (.int (9 : Int32))])) _
    refine XS.icmpYes X0.here hx rfl (pc0 := 63) (pc' := 79) rfl (hb hby at_63) rfl (feq (by decide : ¬ ((9 : Int32) = (3 : Int32)))).2 (by decide) (by decide) ?_
    show Steps p.tables e below (s₁.setTop (mkF m 79 #[.val (.int p1), .val (.int p2), .val (.int (9 : Int32)), .unset, .unset, .unset] [])) _
    refine XS.iloadN X0.here hx rfl (hb hby at_79) rfl ?_
    show Steps p.tables e below (s₁.setTop (mkF m 80 #[.val (.int p1), .val (.int p2), .val (.int (9 : Int32)), .unset, .unset, .unset] [(.int (9 : Int32))])) _
    refine XS.iconst X0.here hx rfl (hb hby at_80) ?_
    show Steps p.tables e below (s₁.setTop (mkF m 81 #[.val (.int p1), .val (.int p2), .val (.int (9 : Int32)), .unset, .unset, .unset] [(.int (4 : Int32)), (.int (9 : Int32))])) _
    refine XS.icmpYes X0.here hx rfl (pc0 := 81) (pc' := 97) rfl (hb hby at_81) rfl (feq (by decide : ¬ ((9 : Int32) = (4 : Int32)))).2 (by decide) (by decide) ?_
    show Steps p.tables e below (s₁.setTop (mkF m 97 #[.val (.int p1), .val (.int p2), .val (.int (9 : Int32)), .unset, .unset, .unset] [])) _
    refine XS.iloadN X0.here hx rfl (hb hby at_97) rfl ?_
    show Steps p.tables e below (s₁.setTop (mkF m 98 #[.val (.int p1), .val (.int p2), .val (.int (9 : Int32)), .unset, .unset, .unset] [(.int (9 : Int32))])) _
    refine XS.iconst X0.here hx rfl (hb hby at_98) ?_
    show Steps p.tables e below (s₁.setTop (mkF m 99 #[.val (.int p1), .val (.int p2), .val (.int (9 : Int32)), .unset, .unset, .unset] [(.int (5 : Int32)), (.int (9 : Int32))])) _
    refine XS.icmpYes X0.here hx rfl (pc0 := 99) (pc' := 115) rfl (hb hby at_99) rfl (feq (by decide : ¬ ((9 : Int32) = (5 : Int32)))).2 (by decide) (by decide) ?_
    show Steps p.tables e below (s₁.setTop (mkF m 115 #[.val (.int p1), .val (.int p2), .val (.int (9 : Int32)), .unset, .unset, .unset] [])) _
    refine XS.iloadN X0.here hx rfl (hb hby at_115) rfl ?_
    show Steps p.tables e below (s₁.setTop (mkF m 116 #[.val (.int p1), .val (.int p2), .val (.int (9 : Int32)), .unset, .unset, .unset] [(.int (9 : Int32))])) _
    refine XS.bipush X0.here hx rfl (hb hby at_116) ?_
    show Steps p.tables e below (s₁.setTop (mkF m 118 #[.val (.int p1), .val (.int p2), .val (.int (9 : Int32)), .unset, .unset, .unset] [(.int (6 : Int32)), (.int (9 : Int32))])) _
    refine XS.icmpYes X0.here hx rfl (pc0 := 118) (pc' := 134) rfl (hb hby at_118) rfl (feq (by decide : ¬ ((9 : Int32) = (6 : Int32)))).2 (by decide) (by decide) ?_
    show Steps p.tables e below (s₁.setTop (mkF m 134 #[.val (.int p1), .val (.int p2), .val (.int (9 : Int32)), .unset, .unset, .unset] [])) _
    refine XS.iloadN X0.here hx rfl (hb hby at_134) rfl ?_
    show Steps p.tables e below (s₁.setTop (mkF m 135 #[.val (.int p1), .val (.int p2), .val (.int (9 : Int32)), .unset, .unset, .unset] [(.int (9 : Int32))])) _
    refine XS.bipush X0.here hx rfl (hb hby at_135) ?_
    show Steps p.tables e below (s₁.setTop (mkF m 137 #[.val (.int p1), .val (.int p2), .val (.int (9 : Int32)), .unset, .unset, .unset] [(.int (7 : Int32)), (.int (9 : Int32))])) _
    refine XS.icmpYes X0.here hx rfl (pc0 := 137) (pc' := 153) rfl (hb hby at_137) rfl (feq (by decide : ¬ ((9 : Int32) = (7 : Int32)))).2 (by decide) (by decide) ?_
    show Steps p.tables e below (s₁.setTop (mkF m 153 #[.val (.int p1), .val (.int p2), .val (.int (9 : Int32)), .unset, .unset, .unset] [])) _
    refine XS.iloadN X0.here hx rfl (hb hby at_153) rfl ?_
    show Steps p.tables e below (s₁.setTop (mkF m 154 #[.val (.int p1), .val (.int p2), .val (.int (9 : Int32)), .unset, .unset, .unset] [(.int (9 : Int32))])) _
    refine XS.bipush X0.here hx rfl (hb hby at_154) ?_
    show Steps p.tables e below (s₁.setTop (mkF m 156 #[.val (.int p1), .val (.int p2), .val (.int (9 : Int32)), .unset, .unset, .unset] [(.int (8 : Int32)), (.int (9 : Int32))])) _
    refine XS.icmpYes X0.here hx rfl (pc0 := 156) (pc' := 172) rfl (hb hby at_156) rfl (feq (by decide : ¬ ((9 : Int32) = (8 : Int32)))).2 (by decide) (by decide) ?_
    show Steps p.tables e below (s₁.setTop (mkF m 172 #[.val (.int p1), .val (.int p2), .val (.int (9 : Int32)), .unset, .unset, .unset] [])) _
    refine XS.iloadN X0.here hx rfl (hb hby at_172) rfl ?_
    show Steps p.tables e below (s₁.setTop (mkF m 173 #[.val (.int p1), .val (.int p2), .val (.int (9 : Int32)), .unset, .unset, .unset] [(.int (9 : Int32))])) _
    refine XS.bipush X0.here hx rfl (hb hby at_173) ?_
    show Steps p.tables e below (s₁.setTop (mkF m 175 #[.val (.int p1), .val (.int p2), .val (.int (9 : Int32)), .unset, .unset, .unset] [(.int (9 : Int32)), (.int (9 : Int32))])) _
    refine XS.icmpNo X0.here hx rfl (hb hby at_175) rfl (teq (by decide : (9 : Int32) = (9 : Int32))).2 ?_
    show Steps p.tables e below (s₁.setTop (mkF m 178 #[.val (.int p1), .val (.int p2), .val (.int (9 : Int32)), .unset, .unset, .unset] [])) _
    refine st1 _ ?_
    show Steps p.tables e below (T1.setTop (mkF m 181 #[.val (.int p1), .val (.int p2), .val (.int (9 : Int32)), .unset, .unset, .unset] [(.ref a_LEAVE_GROUP)])) _
    refine XS.astoreN X1.here hx rfl (hb hby at_181) rfl rfl (l' := #[.val (.int p1), .val (.int p2), .val (.int (9 : Int32)), .val (.ref a_LEAVE_GROUP), .unset, .unset]) rfl ?_
    show Steps p.tables e below (T1.setTop (mkF m 182 #[.val (.int p1), .val (.int p2), .val (.int (9 : Int32)), .val (.ref a_LEAVE_GROUP), .unset, .unset] [])) _
    refine XS.iconst X1.here hx rfl (hb hby at_182) ?_
    show Steps p.tables e below (T1.setTop (mkF m 183 #[.val (.int p1), .val (.int p2), .val (.int (9 : Int32)), .val (.ref a_LEAVE_GROUP), .unset, .unset] [(.int (0 : Int32))])) _
    refine XS.istore X1.here hx rfl (hb hby at_183) rfl (l' := #[.val (.int p1), .val (.int p2), .val (.int (9 : Int32)), .val (.ref a_LEAVE_GROUP), .val (.int (0 : Int32)), .unset]) rfl ?_
    show Steps p.tables e below (T1.setTop (mkF m 185 #[.val (.int p1), .val (.int p2), .val (.int (9 : Int32)), .val (.ref a_LEAVE_GROUP), .val (.int (0 : Int32)), .unset] [])) _
    refine XS.iconst X1.here hx rfl (hb hby at_185) ?_
    show Steps p.tables e below (T1.setTop (mkF m 186 #[.val (.int p1), .val (.int p2), .val (.int (9 : Int32)), .val (.ref a_LEAVE_GROUP), .val (.int (0 : Int32)), .unset] [(.int (0 : Int32))])) _
    refine XS.istore X1.here hx rfl (hb hby at_186) rfl (l' := #[.val (.int p1), .val (.int p2), .val (.int (9 : Int32)), .val (.ref a_LEAVE_GROUP), .val (.int (0 : Int32)), .val (.int (0 : Int32))]) rfl ?_
    show Steps p.tables e below (T1.setTop (mkF m 188 #[.val (.int p1), .val (.int p2), .val (.int (9 : Int32)), .val (.ref a_LEAVE_GROUP), .val (.int (0 : Int32)), .val (.int (0 : Int32))] [])) _
    refine XS.goto X1.here hx rfl (pc0 := 188) (pc' := 220) rfl (hb hby at_188) (by decide) (by decide) ?_
    show Steps p.tables e below (T1.setTop (mkF m 220 #[.val (.int p1), .val (.int p2), .val (.int (9 : Int32)), .val (.ref a_LEAVE_GROUP), .val (.int (0 : Int32)), .val (.int (0 : Int32))] [])) _
    refine XS.aloadN X1.here hx rfl (hb hby at_220) rfl rfl ?_
    show Steps p.tables e below (T1.setTop (mkF m 221 #[.val (.int p1), .val (.int p2), .val (.int (9 : Int32)), .val (.ref a_LEAVE_GROUP), .val (.int (0 : Int32)), .val (.int (0 : Int32))] [(.ref a_LEAVE_GROUP)])) _
    refine XS.iload X1.here hx rfl (hb hby at_221) rfl ?_
    show Steps p.tables e below (T1.setTop (mkF m 223 #[.val (.int p1), .val (.int p2), .val (.int (9 : Int32)), .val (.ref a_LEAVE_GROUP), .val (.int (0 : Int32)), .val (.int (0 : Int32))] [(.int (0 : Int32)), (.ref a_LEAVE_GROUP)])) _
    refine XS.iload X1.here hx rfl (hb hby at_223) rfl ?_
    show Steps p.tables e below (T1.setTop (mkF m 225 #[.val (.int p1), .val (.int p2), .val (.int (9 : Int32)), .val (.ref a_LEAVE_GROUP), .val (.int (0 : Int32)), .val (.int (0 : Int32))] [(.int (0 : Int32)), (.int (0 : Int32)), (.ref a_LEAVE_GROUP)])) _
    refine XS.iloadN X1.here hx rfl (hb hby at_225) rfl ?_
    show Steps p.tables e below (T1.setTop (mkF m 226 #[.val (.int p1), .val (.int p2), .val (.int (9 : Int32)), .val (.ref a_LEAVE_GROUP), .val (.int (0 : Int32)), .val (.int (0 : Int32))] [(.int p2), (.int (0 : Int32)), (.int (0 : Int32)), (.ref a_LEAVE_GROUP)])) _
    refine st2 _ ?_
    show Steps p.tables e below (T2.setTop (mkF m 229 #[.val (.int p1), .val (.int p2), .val (.int (9 : Int32)), .val (.ref a_LEAVE_GROUP), .val (.int (0 : Int32)), .val (.int (0 : Int32))] [(.int (1 : Int32))])) _
    refine XS.ifNo X2.here hx rfl (hb hby at_229) rfl ((if0 _ _).trans (feq (by decide : ¬ ((1 : Int32) = (0 : Int32)))).1) ?_
    show Steps p.tables e below (T2.setTop (mkF m 232 #[.val (.int p1), .val (.int p2), .val (.int (9 : Int32)), .val (.ref a_LEAVE_GROUP), .val (.int (0 : Int32)), .val (.int (0 : Int32))] [])) _
    refine XS.aloadN X2.here hx rfl (hb hby at_232) rfl rfl ?_
    show Steps p.tables e below (T2.setTop (mkF m 233 #[.val (.int p1), .val (.int p2), .val (.int (9 : Int32)), .val (.ref a_LEAVE_GROUP), .val (.int (0 : Int32)), .val (.int (0 : Int32))] [(.ref a_LEAVE_GROUP)])) _
    refine XS.iload X2.here hx rfl (hb hby at_233) rfl ?_
    show Steps p.tables e below (T2.setTop (mkF m 235 #[.val (.int p1), .val (.int p2), .val (.int (9 : Int32)), .val (.ref a_LEAVE_GROUP), .val (.int (0 : Int32)), .val (.int (0 : Int32))] [(.int (0 : Int32)), (.ref a_LEAVE_GROUP)])) _
    refine XS.iload X2.here hx rfl (hb hby at_235) rfl ?_
    show Steps p.tables e below (T2.setTop (mkF m 237 #[.val (.int p1), .val (.int p2), .val (.int (9 : Int32)), .val (.ref a_LEAVE_GROUP), .val (.int (0 : Int32)), .val (.int (0 : Int32))] [(.int (0 : Int32)), (.int (0 : Int32)), (.ref a_LEAVE_GROUP)])) _
    refine XS.iload X2.here hx rfl (hb hby at_237) rfl ?_
    show Steps p.tables e below (T2.setTop (mkF m 239 #[.val (.int p1), .val (.int p2), .val (.int (9 : Int32)), .val (.ref a_LEAVE_GROUP), .val (.int (0 : Int32)), .val (.int (0 : Int32))] [(.int (0 : Int32)), (.int (0 : Int32)), (.int (0 : Int32)), (.ref a_LEAVE_GROUP)])) _
    refine XS.iconst X2.here hx rfl (hb hby at_239) ?_
    show Steps p.tables e below (T2.setTop (mkF m 240 #[.val (.int p1), .val (.int p2), .val (.int (9 : Int32)), .val (.ref a_LEAVE_GROUP), .val (.int (0 : Int32)), .val (.int (0 : Int32))] [(.int (1 : Int32)), (.int (0 : Int32)), (.int (0 : Int32)), (.int (0 : Int32)), (.ref a_LEAVE_GROUP)])) _
    refine XS.isub X2.here hx rfl (hb hby at_240) rfl ?_
    show Steps p.tables e below (T2.setTop (mkF m 241 #[.val (.int p1), .val (.int p2), .val (.int (9 : Int32)), .val (.ref a_LEAVE_GROUP), .val (.int (0 : Int32)), .val (.int (0 : Int32))] [(.int ((0 : Int32) - (1 : Int32))), (.int (0 : Int32)), (.int (0 : Int32)), (.ref a_LEAVE_GROUP)])) _
    refine st3 _ ?_
    show Steps p.tables e below (T3.setTop (mkF m 244 #[.val (.int p1), .val (.int p2), .val (.int (9 : Int32)), .val (.ref a_LEAVE_GROUP), .val (.int (0 : Int32)), .val (.int (0 : Int32))] [(.int (1 : Int32))])) _
    refine XS.ifNo X3.here hx rfl (hb hby at_244) rfl ((if0 _ _).trans (feq (by decide : ¬ ((1 : Int32) = (0 : Int32)))).1) ?_
    show Steps p.tables e below (T3.setTop (mkF m 247 #[.val (.int p1), .val (.int p2), .val (.int (9 : Int32)), .val (.ref a_LEAVE_GROUP), .val (.int (0 : Int32)), .val (.int (0 : Int32))] [])) _
    refine XS.aloadN X3.here hx rfl (hb hby at_247) rfl rfl ?_
    show Steps p.tables e below (T3.setTop (mkF m 248 #[.val (.int p1), .val (.int p2), .val (.int (9 : Int32)), .val (.ref a_LEAVE_GROUP), .val (.int (0 : Int32)), .val (.int (0 : Int32))] [(.ref a_LEAVE_GROUP)])) _
    refine XS.iload X3.here hx rfl (hb hby at_248) rfl ?_
    show Steps p.tables e below (T3.setTop (mkF m 250 #[.val (.int p1), .val (.int p2), .val (.int (9 : Int32)), .val (.ref a_LEAVE_GROUP), .val (.int (0 : Int32)), .val (.int (0 : Int32))] [(.int (0 : Int32)), (.ref a_LEAVE_GROUP)])) _
    refine XS.iload X3.here hx rfl (hb hby at_250) rfl ?_
    show Steps p.tables e below (T3.setTop (mkF m 252 #[.val (.int p1), .val (.int p2), .val (.int (9 : Int32)), .val (.ref a_LEAVE_GROUP), .val (.int (0 : Int32)), .val (.int (0 : Int32))] [(.int (0 : Int32)), (.int (0 : Int32)), (.ref a_LEAVE_GROUP)])) _
    refine XS.iload X3.here hx rfl (hb hby at_252) rfl ?_
    show Steps p.tables e below (T3.setTop (mkF m 254 #[.val (.int p1), .val (.int p2), .val (.int (9 : Int32)), .val (.ref a_LEAVE_GROUP), .val (.int (0 : Int32)), .val (.int (0 : Int32))] [(.int (0 : Int32)), (.int (0 : Int32)), (.int (0 : Int32)), (.ref a_LEAVE_GROUP)])) _
    refine st4 _ ?_
    show Steps p.tables e below (T4.setTop (mkF m 257 #[.val (.int p1), .val (.int p2), .val (.int (9 : Int32)), .val (.ref a_LEAVE_GROUP), .val (.int (0 : Int32)), .val (.int (0 : Int32))] [(.int (1 : Int32))])) _
    refine XS.ifNo X4.here hx rfl (hb hby at_257) rfl ((if0 _ _).trans (feq (by decide : ¬ ((1 : Int32) = (0 : Int32)))).1) ?_
    show Steps p.tables e below (T4.setTop (mkF m 260 #[.val (.int p1), .val (.int p2), .val (.int (9 : Int32)), .val (.ref a_LEAVE_GROUP), .val (.int (0 : Int32)), .val (.int (0 : Int32))] [])) _
    refine XS.aloadN X4.here hx rfl (hb hby at_260) rfl rfl ?_
    show Steps p.tables e below (T4.setTop (mkF m 261 #[.val (.int p1), .val (.int p2), .val (.int (9 : Int32)), .val (.ref a_LEAVE_GROUP), .val (.int (0 : Int32)), .val (.int (0 : Int32))] [(.ref a_LEAVE_GROUP)])) _
    refine XS.iload X4.here hx rfl (hb hby at_261) rfl ?_
    show Steps p.tables e below (T4.setTop (mkF m 263 #[.val (.int p1), .val (.int p2), .val (.int (9 : Int32)), .val (.ref a_LEAVE_GROUP), .val (.int (0 : Int32)), .val (.int (0 : Int32))] [(.int (0 : Int32)), (.ref a_LEAVE_GROUP)])) _
    refine XS.iload X4.here hx rfl (hb hby at_263) rfl ?_
    show Steps p.tables e below (T4.setTop (mkF m 265 #[.val (.int p1), .val (.int p2), .val (.int (9 : Int32)), .val (.ref a_LEAVE_GROUP), .val (.int (0 : Int32)), .val (.int (0 : Int32))] [(.int (0 : Int32)), (.int (0 : Int32)), (.ref a_LEAVE_GROUP)])) _
    refine XS.iload X4.here hx rfl (hb hby at_265) rfl ?_
    show Steps p.tables e below (T4.setTop (mkF m 267 #[.val (.int p1), .val (.int p2), .val (.int (9 : Int32)), .val (.ref a_LEAVE_GROUP), .val (.int (0 : Int32)), .val (.int (0 : Int32))] [(.int (0 : Int32)), (.int (0 : Int32)), (.int (0 : Int32)), (.ref a_LEAVE_GROUP)])) _
    refine st5 _ ?_
    show Steps p.tables e below (T5.setTop (mkF m 270 #[.val (.int p1), .val (.int p2), .val (.int (9 : Int32)), .val (.ref a_LEAVE_GROUP), .val (.int (0 : Int32)), .val (.int (0 : Int32))] [(.int (1 : Int32))])) _
    refine XS.ifNo X5.here hx rfl (hb hby at_270) rfl ((if0 _ _).trans (feq (by decide : ¬ ((1 : Int32) = (0 : Int32)))).1) ?_
    show Steps p.tables e below (T5.setTop (mkF m 273 #[.val (.int p1), .val (.int p2), .val (.int (9 : Int32)), .val (.ref a_LEAVE_GROUP), .val (.int (0 : Int32)), .val (.int (0 : Int32))] [])) _
    refine XS.aloadN X5.here hx rfl (hb hby at_273) rfl rfl ?_
    show Steps p.tables e below (T5.setTop (mkF m 274 #[.val (.int p1), .val (.int p2), .val (.int (9 : Int32)), .val (.ref a_LEAVE_GROUP), .val (.int (0 : Int32)), .val (.int (0 : Int32))] [(.ref a_LEAVE_GROUP)])) _
    refine XS.iload X5.here hx rfl (hb hby at_274) rfl ?_
    show Steps p.tables e below (T5.setTop (mkF m 276 #[.val (.int p1), .val (.int p2), .val (.int (9 : Int32)), .val (.ref a_LEAVE_GROUP), .val (.int (0 : Int32)), .val (.int (0 : Int32))] [(.int (0 : Int32)), (.ref a_LEAVE_GROUP)])) _
    refine XS.iload X5.here hx rfl (hb hby at_276) rfl ?_
    show Steps p.tables e below (T5.setTop (mkF m 278 #[.val (.int p1), .val (.int p2), .val (.int (9 : Int32)), .val (.ref a_LEAVE_GROUP), .val (.int (0 : Int32)), .val (.int (0 : Int32))] [(.int (0 : Int32)), (.int (0 : Int32)), (.ref a_LEAVE_GROUP)])) _
    refine XS.iload X5.here hx rfl (hb hby at_278) rfl ?_
    show Steps p.tables e below (T5.setTop (mkF m 280 #[.val (.int p1), .val (.int p2), .val (.int (9 : Int32)), .val (.ref a_LEAVE_GROUP), .val (.int (0 : Int32)), .val (.int (0 : Int32))] [(.int (0 : Int32)), (.int (0 : Int32)), (.int (0 : Int32)), (.ref a_LEAVE_GROUP)])) _
    refine XS.iconst X5.here hx rfl (hb hby at_280) ?_
    show Steps p.tables e below (T5.setTop (mkF m 281 #[.val (.int p1), .val (.int p2), .val (.int (9 : Int32)), .val (.ref a_LEAVE_GROUP), .val (.int (0 : Int32)), .val (.int (0 : Int32))] [(.int (1 : Int32)), (.int (0 : Int32)), (.int (0 : Int32)), (.int (0 : Int32)), (.ref a_LEAVE_GROUP)])) _
    refine XS.iadd X5.here hx rfl (hb hby at_281) rfl ?_
    show Steps p.tables e below (T5.setTop (mkF m 282 #[.val (.int p1), .val (.int p2), .val (.int (9 : Int32)), .val (.ref a_LEAVE_GROUP), .val (.int (0 : Int32)), .val (.int (0 : Int32))] [(.int ((0 : Int32) + (1 : Int32))), (.int (0 : Int32)), (.int (0 : Int32)), (.ref a_LEAVE_GROUP)])) _
    refine st6 _ ?_
    show Steps p.tables e below (T6.setTop (mkF m 285 #[.val (.int p1), .val (.int p2), .val (.int (9 : Int32)), .val (.ref a_LEAVE_GROUP), .val (.int (0 : Int32)), .val (.int (0 : Int32))] [(.int (1 : Int32))])) _
    refine XS.ifNo X6.here hx rfl (hb hby at_285) rfl ((if0 _ _).trans (feq (by decide : ¬ ((1 : Int32) = (0 : Int32)))).1) ?_
    show Steps p.tables e below (T6.setTop (mkF m 288 #[.val (.int p1), .val (.int p2), .val (.int (9 : Int32)), .val (.ref a_LEAVE_GROUP), .val (.int (0 : Int32)), .val (.int (0 : Int32))] [])) _
    refine XS.iconst X6.here hx rfl (hb hby at_288) ?_
    show Steps p.tables e below (T6.setTop (mkF m 289 #[.val (.int p1), .val (.int p2), .val (.int (9 : Int32)), .val (.ref a_LEAVE_GROUP), .val (.int (0 : Int32)), .val (.int (0 : Int32))] [(.int (1 : Int32))])) _
    refine XS.goto X6.here hx rfl (pc0 := 289) (pc' := 293) rfl (hb hby at_289) (by decide) (by decide) ?_
    show Steps p.tables e below (T6.setTop (mkF m 293 #[.val (.int p1), .val (.int p2), .val (.int (9 : Int32)), .val (.ref a_LEAVE_GROUP), .val (.int (0 : Int32)), .val (.int (0 : Int32))] [(.int (1 : Int32))])) _
    exact retN X6 hx (t := .boolean) Bd.returns (by simp) (hb hby at_293) hr
  · exact ⟨rfl, N6⟩
set_option maxRecDepth 65536 in
set_option maxHeartbeats 40000000 in
theorem rm0_17 (l : Launch) (Z : State) (a0 : Array Value) (hw : ∀ d ∈ tables_1, d.before a0 Z = true) (ws : List Jvm.Cond) (a_PRODUCE : Addr) (a_LIST_OFFSETS : Addr) (a_HEARTBEAT : Addr) (a_OFFSET_COMMIT : Addr) (a_FETCH : Addr) (a_FIND_COORDINATOR : Addr) (a_API_VERSIONS : Addr) (a_METADATA : Addr) (a_LEAVE_GROUP : Addr) (a_JOIN_GROUP : Addr) (a_SYNC_GROUP : Addr) (a_OFFSET_FETCH : Addr) (p1 : Int32) (p2 : Int32) (h0 : Heap) (n0 : Nat) (Z0 : n0 ≤ h0.size) (hS : Wd Z h0 a_PRODUCE a_LIST_OFFSETS a_HEARTBEAT a_OFFSET_COMMIT a_FETCH a_FIND_COORDINATOR a_API_VERSIONS a_METADATA a_LEAVE_GROUP a_JOIN_GROUP a_SYNC_GROUP a_OFFSET_FETCH) (hi : ((p1 &&& (2147483647 : Int32)) % (12 : Int32)) = (10 : Int32)) :
    MetFree l x (head1 (Jvm.Cond.code x code maxLocals ret :: ws) room_1) (fun a U => a = #[(.int p1), (.int p2)] ∧ Z.Warmed39 U.vm ∧ U.heap = h0) (fun _ _ _ _ _ => True) (fun _ U o U' => ∃ v L, o = .returned v ∧ Q0 n0 v L ∧ FrameEnd U o U' L room_1.cells room_1.slots) := by
  refine MetFree.of_bodySF (plainFor_of_name pn_com_example_keelstream_keelstream_ApiKeySupportsPinLaw) hisR ?_
  intro p e s m args below meth c s₁ Bd hml0 hP hK
  obtain ⟨rfl, hZ, hh⟩ := hP
  have hx := Bd.exec
  have hby := Bd.bytes
  have hml : c.maxLocals = 6 := hml0
  have hown : s.vm.findClass "com/example/keelstream/keelstream/ApiKeySupportsPinLaw" = some m.cls := findClass_of_methodNamed Bd.named
  have X0 : Stand p l e room_1 s m #[(.int p1), (.int p2)] below meth c s₁ [] 0 0 := Stand.of_body Bd
  have e0 : s₁.heap = h0 := by rw [← hh, Bd.state]; rfl
  have N0 := Fr.nil n0
  have pre0 : ∀ t, Steps p.tables e below (s₁.setTop (mkF m 0 #[.val (.int p1), .val (.int p2), .unset, .unset, .unset, .unset] [])) t → Steps p.tables e below (s₁.setTop (entryFrame m #[(.int p1), (.int p2)] maxLocals)) t := fun t k => castTop (by first | (simp [entryFrame, mkF, argsToLocals, Value.category, maxLocals]; done) | rfl) k
  obtain ⟨S_PRODUCE, E_PRODUCE, S_LIST_OFFSETS, E_LIST_OFFSETS, S_HEARTBEAT, E_HEARTBEAT, S_OFFSET_COMMIT, E_OFFSET_COMMIT, S_FETCH, E_FETCH, S_FIND_COORDINATOR, E_FIND_COORDINATOR, S_API_VERSIONS, E_API_VERSIONS, S_METADATA, E_METADATA, S_LEAVE_GROUP, E_LEAVE_GROUP, S_JOIN_GROUP, E_JOIN_GROUP, S_SYNC_GROUP, E_SYNC_GROUP, S_OFFSET_FETCH, E_OFFSET_FETCH, F_PRODUCE_minVersion, F_PRODUCE_maxVersion, F_LIST_OFFSETS_minVersion, F_LIST_OFFSETS_maxVersion, F_HEARTBEAT_minVersion, F_HEARTBEAT_maxVersion, F_OFFSET_COMMIT_minVersion, F_OFFSET_COMMIT_maxVersion, F_FETCH_minVersion, F_FETCH_maxVersion, F_FIND_COORDINATOR_minVersion, F_FIND_COORDINATOR_maxVersion, F_API_VERSIONS_minVersion, F_API_VERSIONS_maxVersion, F_METADATA_minVersion, F_METADATA_maxVersion, F_LEAVE_GROUP_minVersion, F_LEAVE_GROUP_maxVersion, F_JOIN_GROUP_minVersion, F_JOIN_GROUP_maxVersion, F_SYNC_GROUP_minVersion, F_SYNC_GROUP_maxVersion, F_OFFSET_FETCH_minVersion, F_OFFSET_FETCH_maxVersion⟩ := id hS
  obtain ⟨T1, X1, e1, st1⟩ := getS2 X0 hx hZ hown (host := "") (Or.inl (hw _ (List.mem_of_getElem? (i := 35) rfl))) Via.refl e0 S_SYNC_GROUP (g := (mkF m 197 #[.val (.int p1), .val (.int p2), .val (.int (10 : Int32)), .unset, .unset, .unset] [])) rfl (hb hby at_197)
  obtain ⟨_, _, ⟨T2, L2, k2, n2⟩, -, X2, ⟨Lc2, hQ2, l2, y2, z2⟩, st2⟩ := Jvm.LawKit.callS X1 hx (y := (⟨"com/example/keelstream/keelstream/ApiKeySupportsPinLaw", "ok", "(Lcom/example/keelstream/keelstream/ApiKey;III)Z"⟩ : MethodName)) hown (mvT hZ (hw _ (List.mem_of_getElem? (i := 4) rfl))) (mvT hZ (hw _ (List.mem_of_getElem? (i := 5) rfl))) (mvT hZ (hw _ (List.mem_of_getElem? (i := 6) rfl))) (mvT hZ (hw _ (List.mem_of_getElem? (i := 7) rfl))) (by decide) (backOf (W := 0) (okAll l Z a0 hw [] a_SYNC_GROUP (0 : Int32) (0 : Int32) p2 h0 n0 Z0 ⟨E_SYNC_GROUP, F_SYNC_GROUP_minVersion, F_SYNC_GROUP_maxVersion⟩) hZ (hw _ (List.mem_of_getElem? (i := 7) rfl)) (hw _ (List.mem_of_getElem? (i := 6) rfl)) (by decide) (by decide)) (g := (mkF m 226 #[.val (.int p1), .val (.int p2), .val (.int (10 : Int32)), .val (.ref a_SYNC_GROUP), .val (.int (0 : Int32)), .val (.int (0 : Int32))] [(.int p2), (.int (0 : Int32)), (.int (0 : Int32)), (.ref a_SYNC_GROUP)])) rfl (by rw [hml]; rfl) (argsL := [(.ref a_SYNC_GROUP), (.int (0 : Int32)), (.int (0 : Int32)), (.int p2)]) (rest := []) (lenOf pd_1 rfl) rfl (by show 2 * 0 + _ ≤ _; exact Nat.le_of_eq rfl) (hb hby at_226) (fun _ _ => ⟨rfl, e1, (by decide : 0 + 0 ≤ _), (by decide : 0 + 0 ≤ _)⟩)
  dsimp only [Pt.U, Pt.locs, Pt.cells, Pt.slots] at X2 l2 y2 z2 st2 hQ2
  subst l2 y2 z2
  obtain ⟨rfl, N2q, e2⟩ := hQ2
  have N2 := Fr.app N0 N2q
  obtain ⟨_, _, ⟨T3, L3, k3, n3⟩, -, X3, ⟨Lc3, hQ3, l3, y3, z3⟩, st3⟩ := Jvm.LawKit.callS X2 hx (y := (⟨"com/example/keelstream/keelstream/ApiKeySupportsPinLaw", "ok", "(Lcom/example/keelstream/keelstream/ApiKey;III)Z"⟩ : MethodName)) hown (mvT hZ (hw _ (List.mem_of_getElem? (i := 4) rfl))) (mvT hZ (hw _ (List.mem_of_getElem? (i := 5) rfl))) (mvT hZ (hw _ (List.mem_of_getElem? (i := 6) rfl))) (mvT hZ (hw _ (List.mem_of_getElem? (i := 7) rfl))) (by decide) (backOf (W := 0) (okAll l Z a0 hw [] a_SYNC_GROUP (0 : Int32) (0 : Int32) ((0 : Int32) - (1 : Int32)) h0 n0 Z0 ⟨E_SYNC_GROUP, F_SYNC_GROUP_minVersion, F_SYNC_GROUP_maxVersion⟩) hZ (hw _ (List.mem_of_getElem? (i := 7) rfl)) (hw _ (List.mem_of_getElem? (i := 6) rfl)) (by decide) (by decide)) (g := (mkF m 241 #[.val (.int p1), .val (.int p2), .val (.int (10 : Int32)), .val (.ref a_SYNC_GROUP), .val (.int (0 : Int32)), .val (.int (0 : Int32))] [(.int ((0 : Int32) - (1 : Int32))), (.int (0 : Int32)), (.int (0 : Int32)), (.ref a_SYNC_GROUP)])) rfl (by rw [hml]; rfl) (argsL := [(.ref a_SYNC_GROUP), (.int (0 : Int32)), (.int (0 : Int32)), (.int ((0 : Int32) - (1 : Int32)))]) (rest := []) (lenOf pd_1 rfl) rfl (by show 2 * 0 + _ ≤ _; exact Nat.le_of_eq rfl) (hb hby at_241) (fun _ _ => ⟨rfl, e2, (by decide : 0 + 0 ≤ _), (by decide : 0 + 0 ≤ _)⟩)
  dsimp only [Pt.U, Pt.locs, Pt.cells, Pt.slots] at X3 l3 y3 z3 st3 hQ3
  subst l3 y3 z3
  obtain ⟨rfl, N3q, e3⟩ := hQ3
  have N3 := Fr.app N2 N3q
  obtain ⟨_, _, ⟨T4, L4, k4, n4⟩, -, X4, ⟨Lc4, hQ4, l4, y4, z4⟩, st4⟩ := Jvm.LawKit.callS X3 hx (y := (⟨"com/example/keelstream/keelstream/ApiKeySupportsPinLaw", "ok", "(Lcom/example/keelstream/keelstream/ApiKey;III)Z"⟩ : MethodName)) hown (mvT hZ (hw _ (List.mem_of_getElem? (i := 4) rfl))) (mvT hZ (hw _ (List.mem_of_getElem? (i := 5) rfl))) (mvT hZ (hw _ (List.mem_of_getElem? (i := 6) rfl))) (mvT hZ (hw _ (List.mem_of_getElem? (i := 7) rfl))) (by decide) (backOf (W := 0) (okAll l Z a0 hw [] a_SYNC_GROUP (0 : Int32) (0 : Int32) (0 : Int32) h0 n0 Z0 ⟨E_SYNC_GROUP, F_SYNC_GROUP_minVersion, F_SYNC_GROUP_maxVersion⟩) hZ (hw _ (List.mem_of_getElem? (i := 7) rfl)) (hw _ (List.mem_of_getElem? (i := 6) rfl)) (by decide) (by decide)) (g := (mkF m 254 #[.val (.int p1), .val (.int p2), .val (.int (10 : Int32)), .val (.ref a_SYNC_GROUP), .val (.int (0 : Int32)), .val (.int (0 : Int32))] [(.int (0 : Int32)), (.int (0 : Int32)), (.int (0 : Int32)), (.ref a_SYNC_GROUP)])) rfl (by rw [hml]; rfl) (argsL := [(.ref a_SYNC_GROUP), (.int (0 : Int32)), (.int (0 : Int32)), (.int (0 : Int32))]) (rest := []) (lenOf pd_1 rfl) rfl (by show 2 * 0 + _ ≤ _; exact Nat.le_of_eq rfl) (hb hby at_254) (fun _ _ => ⟨rfl, e3, (by decide : 0 + 0 ≤ _), (by decide : 0 + 0 ≤ _)⟩)
  dsimp only [Pt.U, Pt.locs, Pt.cells, Pt.slots] at X4 l4 y4 z4 st4 hQ4
  subst l4 y4 z4
  obtain ⟨rfl, N4q, e4⟩ := hQ4
  have N4 := Fr.app N3 N4q
  obtain ⟨_, _, ⟨T5, L5, k5, n5⟩, -, X5, ⟨Lc5, hQ5, l5, y5, z5⟩, st5⟩ := Jvm.LawKit.callS X4 hx (y := (⟨"com/example/keelstream/keelstream/ApiKeySupportsPinLaw", "ok", "(Lcom/example/keelstream/keelstream/ApiKey;III)Z"⟩ : MethodName)) hown (mvT hZ (hw _ (List.mem_of_getElem? (i := 4) rfl))) (mvT hZ (hw _ (List.mem_of_getElem? (i := 5) rfl))) (mvT hZ (hw _ (List.mem_of_getElem? (i := 6) rfl))) (mvT hZ (hw _ (List.mem_of_getElem? (i := 7) rfl))) (by decide) (backOf (W := 0) (okAll l Z a0 hw [] a_SYNC_GROUP (0 : Int32) (0 : Int32) (0 : Int32) h0 n0 Z0 ⟨E_SYNC_GROUP, F_SYNC_GROUP_minVersion, F_SYNC_GROUP_maxVersion⟩) hZ (hw _ (List.mem_of_getElem? (i := 7) rfl)) (hw _ (List.mem_of_getElem? (i := 6) rfl)) (by decide) (by decide)) (g := (mkF m 267 #[.val (.int p1), .val (.int p2), .val (.int (10 : Int32)), .val (.ref a_SYNC_GROUP), .val (.int (0 : Int32)), .val (.int (0 : Int32))] [(.int (0 : Int32)), (.int (0 : Int32)), (.int (0 : Int32)), (.ref a_SYNC_GROUP)])) rfl (by rw [hml]; rfl) (argsL := [(.ref a_SYNC_GROUP), (.int (0 : Int32)), (.int (0 : Int32)), (.int (0 : Int32))]) (rest := []) (lenOf pd_1 rfl) rfl (by show 2 * 0 + _ ≤ _; exact Nat.le_of_eq rfl) (hb hby at_267) (fun _ _ => ⟨rfl, e4, (by decide : 0 + 0 ≤ _), (by decide : 0 + 0 ≤ _)⟩)
  dsimp only [Pt.U, Pt.locs, Pt.cells, Pt.slots] at X5 l5 y5 z5 st5 hQ5
  subst l5 y5 z5
  obtain ⟨rfl, N5q, e5⟩ := hQ5
  have N5 := Fr.app N4 N5q
  obtain ⟨_, _, ⟨T6, L6, k6, n6⟩, -, X6, ⟨Lc6, hQ6, l6, y6, z6⟩, st6⟩ := Jvm.LawKit.callS X5 hx (y := (⟨"com/example/keelstream/keelstream/ApiKeySupportsPinLaw", "ok", "(Lcom/example/keelstream/keelstream/ApiKey;III)Z"⟩ : MethodName)) hown (mvT hZ (hw _ (List.mem_of_getElem? (i := 4) rfl))) (mvT hZ (hw _ (List.mem_of_getElem? (i := 5) rfl))) (mvT hZ (hw _ (List.mem_of_getElem? (i := 6) rfl))) (mvT hZ (hw _ (List.mem_of_getElem? (i := 7) rfl))) (by decide) (backOf (W := 0) (okAll l Z a0 hw [] a_SYNC_GROUP (0 : Int32) (0 : Int32) ((0 : Int32) + (1 : Int32)) h0 n0 Z0 ⟨E_SYNC_GROUP, F_SYNC_GROUP_minVersion, F_SYNC_GROUP_maxVersion⟩) hZ (hw _ (List.mem_of_getElem? (i := 7) rfl)) (hw _ (List.mem_of_getElem? (i := 6) rfl)) (by decide) (by decide)) (g := (mkF m 282 #[.val (.int p1), .val (.int p2), .val (.int (10 : Int32)), .val (.ref a_SYNC_GROUP), .val (.int (0 : Int32)), .val (.int (0 : Int32))] [(.int ((0 : Int32) + (1 : Int32))), (.int (0 : Int32)), (.int (0 : Int32)), (.ref a_SYNC_GROUP)])) rfl (by rw [hml]; rfl) (argsL := [(.ref a_SYNC_GROUP), (.int (0 : Int32)), (.int (0 : Int32)), (.int ((0 : Int32) + (1 : Int32)))]) (rest := []) (lenOf pd_1 rfl) rfl (by show 2 * 0 + _ ≤ _; exact Nat.le_of_eq rfl) (hb hby at_282) (fun _ _ => ⟨rfl, e5, (by decide : 0 + 0 ≤ _), (by decide : 0 + 0 ≤ _)⟩)
  dsimp only [Pt.U, Pt.locs, Pt.cells, Pt.slots] at X6 l6 y6 z6 st6 hQ6
  subst l6 y6 z6
  obtain ⟨rfl, N6q, e6⟩ := hQ6
  have N6 := Fr.app N5 N6q
  obtain ⟨fs, hr, hrun, hended, hW, hsame⟩ := X6.leave (v := some (.int (1 : Int32))) (fun h => by rw [Bd.returns] at h; cases h)
  refine ⟨_, _, pre0 _ ?_, hrun, hended, _, _, rfl, ?_, ⟨_, rfl⟩, hW, hsame.mono (by decide) (by decide)⟩
  · show Steps p.tables e below (s₁.setTop (mkF m 0 #[.val (.int p1), .val (.int p2), .unset, .unset, .unset, .unset] [])) _
    refine XS.iloadN X0.here hx rfl (hb hby at_0) rfl ?_
    show Steps p.tables e below (s₁.setTop (mkF m 1 #[.val (.int p1), .val (.int p2), .unset, .unset, .unset, .unset] [(.int p1)])) _
    refine X0.ldcInt hx hown (mvT hZ (hw _ (List.mem_of_getElem? (i := 0) rfl))) (g := (mkF m 1 #[.val (.int p1), .val (.int p2), .unset, .unset, .unset, .unset] [(.int p1)])) rfl (hb hby at_1) _ ?_
    show Steps p.tables e below (s₁.setTop (mkF m 3 #[.val (.int p1), .val (.int p2), .unset, .unset, .unset, .unset] [(.int (2147483647 : Int32)), (.int p1)])) _
    refine XS.iand X0.here hx rfl (hb hby at_3) rfl ?_
    show Steps p.tables e below (s₁.setTop (mkF m 4 #[.val (.int p1), .val (.int p2), .unset, .unset, .unset, .unset] [(.int (p1 &&& (2147483647 : Int32)))])) _
    refine XS.bipush X0.here hx rfl (hb hby at_4) ?_
    show Steps p.tables e below (s₁.setTop (mkF m 6 #[.val (.int p1), .val (.int p2), .unset, .unset, .unset, .unset] [(.int (12 : Int32)), (.int (p1 &&& (2147483647 : Int32)))])) _
    refine Jvm.RoadKit.iremM (g := (mkF m 6 #[.val (.int p1), .val (.int p2), .unset, .unset, .unset, .unset] [(.int (12 : Int32)), (.int (p1 &&& (2147483647 : Int32)))])) X0 hx rfl (hb hby at_6) rfl (by decide) ?_
    rw [hi]
    show Steps p.tables e below (s₁.setTop (mkF m 7 #[.val (.int p1), .val (.int p2), .unset, .unset, .unset, .unset] [(.int (10 : Int32))])) _
    refine XS.istoreN X0.here hx rfl (hb hby at_7) rfl (l' := #[.val (.int p1), .val (.int p2), .val (.int (10 : Int32)), .unset, .unset, .unset]) rfl ?_
    show Steps p.tables e below (s₁.setTop (mkF m 8 #[.val (.int p1), .val (.int p2), .val (.int (10 : Int32)), .unset, .unset, .unset] [])) _
    refine XS.iloadN X0.here hx rfl (hb hby at_8) rfl ?_
    show Steps p.tables e below (s₁.setTop (mkF m 9 #[.val (.int p1), .val (.int p2), .val (.int (10 : Int32)), .unset, .unset, .unset] [(.int (10 : Int32))])) _
    refine XS.ifYes X0.here hx rfl (pc0 := 9) (pc' := 25) rfl (hb hby at_9) rfl ((if0 _ _).trans (feq (by decide : ¬ ((10 : Int32) = (0 : Int32)))).2) (by decide) (by decide) ?_
    show Steps p.tables e below (s₁.setTop (mkF m 25 #[.val (.int p1), .val (.int p2), .val (.int (10 : Int32)), .unset, .unset, .unset] [])) _
    refine XS.iloadN X0.here hx rfl (hb hby at_25) rfl ?_
    show Steps p.tables e below (s₁.setTop (mkF m 26 #[.val (.int p1), .val (.int p2), .val (.int (10 : Int32)), .unset, .unset, .unset] [(.int (10 : Int32))])) _
    refine XS.iconst X0.here hx rfl (hb hby at_26) ?_
    show Steps p.tables e below (s₁.setTop (mkF m 27 #[.val (.int p1), .val (.int p2), .val (.int (10 : Int32)), .unset, .unset, .unset] [(.int (1 : Int32)), (.int (10 : Int32))])) _
    refine XS.icmpYes X0.here hx rfl (pc0 := 27) (pc' := 43) rfl (hb hby at_27) rfl (feq (by decide : ¬ ((10 : Int32) = (1 : Int32)))).2 (by decide) (by decide) ?_
    show Steps p.tables e below (s₁.setTop (mkF m 43 #[.val (.int p1), .val (.int p2), .val (.int (10 : Int32)), .unset, .unset, .unset] [])) _
    refine XS.iloadN X0.here hx rfl (hb hby at_43) rfl ?_
    show Steps p.tables e below (s₁.setTop (mkF m 44 #[.val (.int p1), .val (.int p2), .val (.int (10 : Int32)), .unset, .unset, .unset] [(.int (10 : Int32))])) _
    refine XS.iconst X0.here hx rfl (hb hby at_44) ?_
    show Steps p.tables e below (s₁.setTop (mkF m 45 #[.val (.int p1), .val (.int p2), .val (.int (10 : Int32)), .unset, .unset, .unset] [(.int (2 : Int32)), (.int (10 : Int32))])) _
    refine XS.icmpYes X0.here hx rfl (pc0 := 45) (pc' := 61) rfl (hb hby at_45) rfl (feq (by decide : ¬ ((10 : Int32) = (2 : Int32)))).2 (by decide) (by decide) ?_
    show Steps p.tables e below (s₁.setTop (mkF m 61 #[.val (.int p1), .val (.int p2), .val (.int (10 : Int32)), .unset, .unset, .unset] [])) _
    refine XS.iloadN X0.here hx rfl (hb hby at_61) rfl ?_
    show Steps p.tables e below (s₁.setTop (mkF m 62 #[.val (.int p1), .val (.int p2), .val (.int (10 : Int32)), .unset, .unset, .unset] [(.int (10 : Int32))])) _
    refine XS.iconst X0.here hx rfl (hb hby at_62) ?_
    show Steps p.tables e below (s₁.setTop (mkF m 63 #[.val (.int p1), .val (.int p2), .val (.int (10 : Int32)), .unset, .unset, .unset] [(.int (3 : Int32)), (.int (10 : Int32))])) _
    refine XS.icmpYes X0.here hx rfl (pc0 := 63) (pc' := 79) rfl (hb hby at_63) rfl (feq (by decide : ¬ ((10 : Int32) = (3 : Int32)))).2 (by decide) (by decide) ?_
    show Steps p.tables e below (s₁.setTop (mkF m 79 #[.val (.int p1), .val (.int p2), .val (.int (10 : Int32)), .unset, .unset, .unset] [])) _
    refine XS.iloadN X0.here hx rfl (hb hby at_79) rfl ?_
    show Steps p.tables e below (s₁.setTop (mkF m 80 #[.val (.int p1), .val (.int p2), .val (.int (10 : Int32)), .unset, .unset, .unset] [(.int (10 : Int32))])) _
    refine XS.iconst X0.here hx rfl (hb hby at_80) ?_
    show Steps p.tables e below (s₁.setTop (mkF m 81 #[.val (.int p1), .val (.int p2), .val (.int (10 : Int32)), .unset, .unset, .unset] [(.int (4 : Int32)), (.int (10 : Int32))])) _
    refine XS.icmpYes X0.here hx rfl (pc0 := 81) (pc' := 97) rfl (hb hby at_81) rfl (feq (by decide : ¬ ((10 : Int32) = (4 : Int32)))).2 (by decide) (by decide) ?_
    show Steps p.tables e below (s₁.setTop (mkF m 97 #[.val (.int p1), .val (.int p2), .val (.int (10 : Int32)), .unset, .unset, .unset] [])) _
    refine XS.iloadN X0.here hx rfl (hb hby at_97) rfl ?_
    show Steps p.tables e below (s₁.setTop (mkF m 98 #[.val (.int p1), .val (.int p2), .val (.int (10 : Int32)), .unset, .unset, .unset] [(.int (10 : Int32))])) _
    refine XS.iconst X0.here hx rfl (hb hby at_98) ?_
    show Steps p.tables e below (s₁.setTop (mkF m 99 #[.val (.int p1), .val (.int p2), .val (.int (10 : Int32)), .unset, .unset, .unset] [(.int (5 : Int32)), (.int (10 : Int32))])) _
    refine XS.icmpYes X0.here hx rfl (pc0 := 99) (pc' := 115) rfl (hb hby at_99) rfl (feq (by decide : ¬ ((10 : Int32) = (5 : Int32)))).2 (by decide) (by decide) ?_
    show Steps p.tables e below (s₁.setTop (mkF m 115 #[.val (.int p1), .val (.int p2), .val (.int (10 : Int32)), .unset, .unset, .unset] [])) _
    refine XS.iloadN X0.here hx rfl (hb hby at_115) rfl ?_
    show Steps p.tables e below (s₁.setTop (mkF m 116 #[.val (.int p1), .val (.int p2), .val (.int (10 : Int32)), .unset, .unset, .unset] [(.int (10 : Int32))])) _
    refine XS.bipush X0.here hx rfl (hb hby at_116) ?_
    show Steps p.tables e below (s₁.setTop (mkF m 118 #[.val (.int p1), .val (.int p2), .val (.int (10 : Int32)), .unset, .unset, .unset] [(.int (6 : Int32)), (.int (10 : Int32))])) _
    refine XS.icmpYes X0.here hx rfl (pc0 := 118) (pc' := 134) rfl (hb hby at_118) rfl (feq (by decide : ¬ ((10 : Int32) = (6 : Int32)))).2 (by decide) (by decide) ?_
    show Steps p.tables e below (s₁.setTop (mkF m 134 #[.val (.int p1), .val (.int p2), .val (.int (10 : Int32)), .unset, .unset, .unset] [])) _
    refine XS.iloadN X0.here hx rfl (hb hby at_134) rfl ?_
    show Steps p.tables e below (s₁.setTop (mkF m 135 #[.val (.int p1), .val (.int p2), .val (.int (10 : Int32)), .unset, .unset, .unset] [(.int (10 : Int32))])) _
    refine XS.bipush X0.here hx rfl (hb hby at_135) ?_
    show Steps p.tables e below (s₁.setTop (mkF m 137 #[.val (.int p1), .val (.int p2), .val (.int (10 : Int32)), .unset, .unset, .unset] [(.int (7 : Int32)), (.int (10 : Int32))])) _
    refine XS.icmpYes X0.here hx rfl (pc0 := 137) (pc' := 153) rfl (hb hby at_137) rfl (feq (by decide : ¬ ((10 : Int32) = (7 : Int32)))).2 (by decide) (by decide) ?_
    show Steps p.tables e below (s₁.setTop (mkF m 153 #[.val (.int p1), .val (.int p2), .val (.int (10 : Int32)), .unset, .unset, .unset] [])) _
    refine XS.iloadN X0.here hx rfl (hb hby at_153) rfl ?_
    show Steps p.tables e below (s₁.setTop (mkF m 154 #[.val (.int p1), .val (.int p2), .val (.int (10 : Int32)), .unset, .unset, .unset] [(.int (10 : Int32))])) _
    refine XS.bipush X0.here hx rfl (hb hby at_154) ?_
    show Steps p.tables e below (s₁.setTop (mkF m 156 #[.val (.int p1), .val (.int p2), .val (.int (10 : Int32)), .unset, .unset, .unset] [(.int (8 : Int32)), (.int (10 : Int32))])) _
    refine XS.icmpYes X0.here hx rfl (pc0 := 156) (pc' := 172) rfl (hb hby at_156) rfl (feq (by decide : ¬ ((10 : Int32) = (8 : Int32)))).2 (by decide) (by decide) ?_
    show Steps p.tables e below (s₁.setTop (mkF m 172 #[.val (.int p1), .val (.int p2), .val (.int (10 : Int32)), .unset, .unset, .unset] [])) _
    refine XS.iloadN X0.here hx rfl (hb hby at_172) rfl ?_
    show Steps p.tables e below (s₁.setTop (mkF m 173 #[.val (.int p1), .val (.int p2), .val (.int (10 : Int32)), .unset, .unset, .unset] [(.int (10 : Int32))])) _
    refine XS.bipush X0.here hx rfl (hb hby at_173) ?_
    show Steps p.tables e below (s₁.setTop (mkF m 175 #[.val (.int p1), .val (.int p2), .val (.int (10 : Int32)), .unset, .unset, .unset] [(.int (9 : Int32)), (.int (10 : Int32))])) _
    refine XS.icmpYes X0.here hx rfl (pc0 := 175) (pc' := 191) rfl (hb hby at_175) rfl (feq (by decide : ¬ ((10 : Int32) = (9 : Int32)))).2 (by decide) (by decide) ?_
    show Steps p.tables e below (s₁.setTop (mkF m 191 #[.val (.int p1), .val (.int p2), .val (.int (10 : Int32)), .unset, .unset, .unset] [])) _
    refine XS.iloadN X0.here hx rfl (hb hby at_191) rfl ?_
    show Steps p.tables e below (s₁.setTop (mkF m 192 #[.val (.int p1), .val (.int p2), .val (.int (10 : Int32)), .unset, .unset, .unset] [(.int (10 : Int32))])) _
    refine XS.bipush X0.here hx rfl (hb hby at_192) ?_
    show Steps p.tables e below (s₁.setTop (mkF m 194 #[.val (.int p1), .val (.int p2), .val (.int (10 : Int32)), .unset, .unset, .unset] [(.int (10 : Int32)), (.int (10 : Int32))])) _
    refine XS.icmpNo X0.here hx rfl (hb hby at_194) rfl (teq (by decide : (10 : Int32) = (10 : Int32))).2 ?_
    show Steps p.tables e below (s₁.setTop (mkF m 197 #[.val (.int p1), .val (.int p2), .val (.int (10 : Int32)), .unset, .unset, .unset] [])) _
    refine st1 _ ?_
    show Steps p.tables e below (T1.setTop (mkF m 200 #[.val (.int p1), .val (.int p2), .val (.int (10 : Int32)), .unset, .unset, .unset] [(.ref a_SYNC_GROUP)])) _
    refine XS.astoreN X1.here hx rfl (hb hby at_200) rfl rfl (l' := #[.val (.int p1), .val (.int p2), .val (.int (10 : Int32)), .val (.ref a_SYNC_GROUP), .unset, .unset]) rfl ?_
    show Steps p.tables e below (T1.setTop (mkF m 201 #[.val (.int p1), .val (.int p2), .val (.int (10 : Int32)), .val (.ref a_SYNC_GROUP), .unset, .unset] [])) _
    refine XS.iconst X1.here hx rfl (hb hby at_201) ?_
    show Steps p.tables e below (T1.setTop (mkF m 202 #[.val (.int p1), .val (.int p2), .val (.int (10 : Int32)), .val (.ref a_SYNC_GROUP), .unset, .unset] [(.int (0 : Int32))])) _
    refine XS.istore X1.here hx rfl (hb hby at_202) rfl (l' := #[.val (.int p1), .val (.int p2), .val (.int (10 : Int32)), .val (.ref a_SYNC_GROUP), .val (.int (0 : Int32)), .unset]) rfl ?_
    show Steps p.tables e below (T1.setTop (mkF m 204 #[.val (.int p1), .val (.int p2), .val (.int (10 : Int32)), .val (.ref a_SYNC_GROUP), .val (.int (0 : Int32)), .unset] [])) _
    refine XS.iconst X1.here hx rfl (hb hby at_204) ?_
    show Steps p.tables e below (T1.setTop (mkF m 205 #[.val (.int p1), .val (.int p2), .val (.int (10 : Int32)), .val (.ref a_SYNC_GROUP), .val (.int (0 : Int32)), .unset] [(.int (0 : Int32))])) _
    refine XS.istore X1.here hx rfl (hb hby at_205) rfl (l' := #[.val (.int p1), .val (.int p2), .val (.int (10 : Int32)), .val (.ref a_SYNC_GROUP), .val (.int (0 : Int32)), .val (.int (0 : Int32))]) rfl ?_
    show Steps p.tables e below (T1.setTop (mkF m 207 #[.val (.int p1), .val (.int p2), .val (.int (10 : Int32)), .val (.ref a_SYNC_GROUP), .val (.int (0 : Int32)), .val (.int (0 : Int32))] [])) _
    refine XS.goto X1.here hx rfl (pc0 := 207) (pc' := 220) rfl (hb hby at_207) (by decide) (by decide) ?_
    show Steps p.tables e below (T1.setTop (mkF m 220 #[.val (.int p1), .val (.int p2), .val (.int (10 : Int32)), .val (.ref a_SYNC_GROUP), .val (.int (0 : Int32)), .val (.int (0 : Int32))] [])) _
    refine XS.aloadN X1.here hx rfl (hb hby at_220) rfl rfl ?_
    show Steps p.tables e below (T1.setTop (mkF m 221 #[.val (.int p1), .val (.int p2), .val (.int (10 : Int32)), .val (.ref a_SYNC_GROUP), .val (.int (0 : Int32)), .val (.int (0 : Int32))] [(.ref a_SYNC_GROUP)])) _
    refine XS.iload X1.here hx rfl (hb hby at_221) rfl ?_
    show Steps p.tables e below (T1.setTop (mkF m 223 #[.val (.int p1), .val (.int p2), .val (.int (10 : Int32)), .val (.ref a_SYNC_GROUP), .val (.int (0 : Int32)), .val (.int (0 : Int32))] [(.int (0 : Int32)), (.ref a_SYNC_GROUP)])) _
    refine XS.iload X1.here hx rfl (hb hby at_223) rfl ?_
    show Steps p.tables e below (T1.setTop (mkF m 225 #[.val (.int p1), .val (.int p2), .val (.int (10 : Int32)), .val (.ref a_SYNC_GROUP), .val (.int (0 : Int32)), .val (.int (0 : Int32))] [(.int (0 : Int32)), (.int (0 : Int32)), (.ref a_SYNC_GROUP)])) _
    refine XS.iloadN X1.here hx rfl (hb hby at_225) rfl ?_
    show Steps p.tables e below (T1.setTop (mkF m 226 #[.val (.int p1), .val (.int p2), .val (.int (10 : Int32)), .val (.ref a_SYNC_GROUP), .val (.int (0 : Int32)), .val (.int (0 : Int32))] [(.int p2), (.int (0 : Int32)), (.int (0 : Int32)), (.ref a_SYNC_GROUP)])) _
    refine st2 _ ?_
    show Steps p.tables e below (T2.setTop (mkF m 229 #[.val (.int p1), .val (.int p2), .val (.int (10 : Int32)), .val (.ref a_SYNC_GROUP), .val (.int (0 : Int32)), .val (.int (0 : Int32))] [(.int (1 : Int32))])) _
    refine XS.ifNo X2.here hx rfl (hb hby at_229) rfl ((if0 _ _).trans (feq (by decide : ¬ ((1 : Int32) = (0 : Int32)))).1) ?_
    show Steps p.tables e below (T2.setTop (mkF m 232 #[.val (.int p1), .val (.int p2), .val (.int (10 : Int32)), .val (.ref a_SYNC_GROUP), .val (.int (0 : Int32)), .val (.int (0 : Int32))] [])) _
    refine XS.aloadN X2.here hx rfl (hb hby at_232) rfl rfl ?_
    show Steps p.tables e below (T2.setTop (mkF m 233 #[.val (.int p1), .val (.int p2), .val (.int (10 : Int32)), .val (.ref a_SYNC_GROUP), .val (.int (0 : Int32)), .val (.int (0 : Int32))] [(.ref a_SYNC_GROUP)])) _
    refine XS.iload X2.here hx rfl (hb hby at_233) rfl ?_
    show Steps p.tables e below (T2.setTop (mkF m 235 #[.val (.int p1), .val (.int p2), .val (.int (10 : Int32)), .val (.ref a_SYNC_GROUP), .val (.int (0 : Int32)), .val (.int (0 : Int32))] [(.int (0 : Int32)), (.ref a_SYNC_GROUP)])) _
    refine XS.iload X2.here hx rfl (hb hby at_235) rfl ?_
    show Steps p.tables e below (T2.setTop (mkF m 237 #[.val (.int p1), .val (.int p2), .val (.int (10 : Int32)), .val (.ref a_SYNC_GROUP), .val (.int (0 : Int32)), .val (.int (0 : Int32))] [(.int (0 : Int32)), (.int (0 : Int32)), (.ref a_SYNC_GROUP)])) _
    refine XS.iload X2.here hx rfl (hb hby at_237) rfl ?_
    show Steps p.tables e below (T2.setTop (mkF m 239 #[.val (.int p1), .val (.int p2), .val (.int (10 : Int32)), .val (.ref a_SYNC_GROUP), .val (.int (0 : Int32)), .val (.int (0 : Int32))] [(.int (0 : Int32)), (.int (0 : Int32)), (.int (0 : Int32)), (.ref a_SYNC_GROUP)])) _
    refine XS.iconst X2.here hx rfl (hb hby at_239) ?_
    show Steps p.tables e below (T2.setTop (mkF m 240 #[.val (.int p1), .val (.int p2), .val (.int (10 : Int32)), .val (.ref a_SYNC_GROUP), .val (.int (0 : Int32)), .val (.int (0 : Int32))] [(.int (1 : Int32)), (.int (0 : Int32)), (.int (0 : Int32)), (.int (0 : Int32)), (.ref a_SYNC_GROUP)])) _
    refine XS.isub X2.here hx rfl (hb hby at_240) rfl ?_
    show Steps p.tables e below (T2.setTop (mkF m 241 #[.val (.int p1), .val (.int p2), .val (.int (10 : Int32)), .val (.ref a_SYNC_GROUP), .val (.int (0 : Int32)), .val (.int (0 : Int32))] [(.int ((0 : Int32) - (1 : Int32))), (.int (0 : Int32)), (.int (0 : Int32)), (.ref a_SYNC_GROUP)])) _
    refine st3 _ ?_
    show Steps p.tables e below (T3.setTop (mkF m 244 #[.val (.int p1), .val (.int p2), .val (.int (10 : Int32)), .val (.ref a_SYNC_GROUP), .val (.int (0 : Int32)), .val (.int (0 : Int32))] [(.int (1 : Int32))])) _
    refine XS.ifNo X3.here hx rfl (hb hby at_244) rfl ((if0 _ _).trans (feq (by decide : ¬ ((1 : Int32) = (0 : Int32)))).1) ?_
    show Steps p.tables e below (T3.setTop (mkF m 247 #[.val (.int p1), .val (.int p2), .val (.int (10 : Int32)), .val (.ref a_SYNC_GROUP), .val (.int (0 : Int32)), .val (.int (0 : Int32))] [])) _
    refine XS.aloadN X3.here hx rfl (hb hby at_247) rfl rfl ?_
    show Steps p.tables e below (T3.setTop (mkF m 248 #[.val (.int p1), .val (.int p2), .val (.int (10 : Int32)), .val (.ref a_SYNC_GROUP), .val (.int (0 : Int32)), .val (.int (0 : Int32))] [(.ref a_SYNC_GROUP)])) _
    refine XS.iload X3.here hx rfl (hb hby at_248) rfl ?_
    show Steps p.tables e below (T3.setTop (mkF m 250 #[.val (.int p1), .val (.int p2), .val (.int (10 : Int32)), .val (.ref a_SYNC_GROUP), .val (.int (0 : Int32)), .val (.int (0 : Int32))] [(.int (0 : Int32)), (.ref a_SYNC_GROUP)])) _
    refine XS.iload X3.here hx rfl (hb hby at_250) rfl ?_
    show Steps p.tables e below (T3.setTop (mkF m 252 #[.val (.int p1), .val (.int p2), .val (.int (10 : Int32)), .val (.ref a_SYNC_GROUP), .val (.int (0 : Int32)), .val (.int (0 : Int32))] [(.int (0 : Int32)), (.int (0 : Int32)), (.ref a_SYNC_GROUP)])) _
    refine XS.iload X3.here hx rfl (hb hby at_252) rfl ?_
    show Steps p.tables e below (T3.setTop (mkF m 254 #[.val (.int p1), .val (.int p2), .val (.int (10 : Int32)), .val (.ref a_SYNC_GROUP), .val (.int (0 : Int32)), .val (.int (0 : Int32))] [(.int (0 : Int32)), (.int (0 : Int32)), (.int (0 : Int32)), (.ref a_SYNC_GROUP)])) _
    refine st4 _ ?_
    show Steps p.tables e below (T4.setTop (mkF m 257 #[.val (.int p1), .val (.int p2), .val (.int (10 : Int32)), .val (.ref a_SYNC_GROUP), .val (.int (0 : Int32)), .val (.int (0 : Int32))] [(.int (1 : Int32))])) _
    refine XS.ifNo X4.here hx rfl (hb hby at_257) rfl ((if0 _ _).trans (feq (by decide : ¬ ((1 : Int32) = (0 : Int32)))).1) ?_
    show Steps p.tables e below (T4.setTop (mkF m 260 #[.val (.int p1), .val (.int p2), .val (.int (10 : Int32)), .val (.ref a_SYNC_GROUP), .val (.int (0 : Int32)), .val (.int (0 : Int32))] [])) _
    refine XS.aloadN X4.here hx rfl (hb hby at_260) rfl rfl ?_
    show Steps p.tables e below (T4.setTop (mkF m 261 #[.val (.int p1), .val (.int p2), .val (.int (10 : Int32)), .val (.ref a_SYNC_GROUP), .val (.int (0 : Int32)), .val (.int (0 : Int32))] [(.ref a_SYNC_GROUP)])) _
    refine XS.iload X4.here hx rfl (hb hby at_261) rfl ?_
    show Steps p.tables e below (T4.setTop (mkF m 263 #[.val (.int p1), .val (.int p2), .val (.int (10 : Int32)), .val (.ref a_SYNC_GROUP), .val (.int (0 : Int32)), .val (.int (0 : Int32))] [(.int (0 : Int32)), (.ref a_SYNC_GROUP)])) _
    refine XS.iload X4.here hx rfl (hb hby at_263) rfl ?_
    show Steps p.tables e below (T4.setTop (mkF m 265 #[.val (.int p1), .val (.int p2), .val (.int (10 : Int32)), .val (.ref a_SYNC_GROUP), .val (.int (0 : Int32)), .val (.int (0 : Int32))] [(.int (0 : Int32)), (.int (0 : Int32)), (.ref a_SYNC_GROUP)])) _
    refine XS.iload X4.here hx rfl (hb hby at_265) rfl ?_
    show Steps p.tables e below (T4.setTop (mkF m 267 #[.val (.int p1), .val (.int p2), .val (.int (10 : Int32)), .val (.ref a_SYNC_GROUP), .val (.int (0 : Int32)), .val (.int (0 : Int32))] [(.int (0 : Int32)), (.int (0 : Int32)), (.int (0 : Int32)), (.ref a_SYNC_GROUP)])) _
    refine st5 _ ?_
    show Steps p.tables e below (T5.setTop (mkF m 270 #[.val (.int p1), .val (.int p2), .val (.int (10 : Int32)), .val (.ref a_SYNC_GROUP), .val (.int (0 : Int32)), .val (.int (0 : Int32))] [(.int (1 : Int32))])) _
    refine XS.ifNo X5.here hx rfl (hb hby at_270) rfl ((if0 _ _).trans (feq (by decide : ¬ ((1 : Int32) = (0 : Int32)))).1) ?_
    show Steps p.tables e below (T5.setTop (mkF m 273 #[.val (.int p1), .val (.int p2), .val (.int (10 : Int32)), .val (.ref a_SYNC_GROUP), .val (.int (0 : Int32)), .val (.int (0 : Int32))] [])) _
    refine XS.aloadN X5.here hx rfl (hb hby at_273) rfl rfl ?_
    show Steps p.tables e below (T5.setTop (mkF m 274 #[.val (.int p1), .val (.int p2), .val (.int (10 : Int32)), .val (.ref a_SYNC_GROUP), .val (.int (0 : Int32)), .val (.int (0 : Int32))] [(.ref a_SYNC_GROUP)])) _
    refine XS.iload X5.here hx rfl (hb hby at_274) rfl ?_
    show Steps p.tables e below (T5.setTop (mkF m 276 #[.val (.int p1), .val (.int p2), .val (.int (10 : Int32)), .val (.ref a_SYNC_GROUP), .val (.int (0 : Int32)), .val (.int (0 : Int32))] [(.int (0 : Int32)), (.ref a_SYNC_GROUP)])) _
    refine XS.iload X5.here hx rfl (hb hby at_276) rfl ?_
    show Steps p.tables e below (T5.setTop (mkF m 278 #[.val (.int p1), .val (.int p2), .val (.int (10 : Int32)), .val (.ref a_SYNC_GROUP), .val (.int (0 : Int32)), .val (.int (0 : Int32))] [(.int (0 : Int32)), (.int (0 : Int32)), (.ref a_SYNC_GROUP)])) _
    refine XS.iload X5.here hx rfl (hb hby at_278) rfl ?_
    show Steps p.tables e below (T5.setTop (mkF m 280 #[.val (.int p1), .val (.int p2), .val (.int (10 : Int32)), .val (.ref a_SYNC_GROUP), .val (.int (0 : Int32)), .val (.int (0 : Int32))] [(.int (0 : Int32)), (.int (0 : Int32)), (.int (0 : Int32)), (.ref a_SYNC_GROUP)])) _
    refine XS.iconst X5.here hx rfl (hb hby at_280) ?_
    show Steps p.tables e below (T5.setTop (mkF m 281 #[.val (.int p1), .val (.int p2), .val (.int (10 : Int32)), .val (.ref a_SYNC_GROUP), .val (.int (0 : Int32)), .val (.int (0 : Int32))] [(.int (1 : Int32)), (.int (0 : Int32)), (.int (0 : Int32)), (.int (0 : Int32)), (.ref a_SYNC_GROUP)])) _
    refine XS.iadd X5.here hx rfl (hb hby at_281) rfl ?_
    show Steps p.tables e below (T5.setTop (mkF m 282 #[.val (.int p1), .val (.int p2), .val (.int (10 : Int32)), .val (.ref a_SYNC_GROUP), .val (.int (0 : Int32)), .val (.int (0 : Int32))] [(.int ((0 : Int32) + (1 : Int32))), (.int (0 : Int32)), (.int (0 : Int32)), (.ref a_SYNC_GROUP)])) _
    refine st6 _ ?_
    show Steps p.tables e below (T6.setTop (mkF m 285 #[.val (.int p1), .val (.int p2), .val (.int (10 : Int32)), .val (.ref a_SYNC_GROUP), .val (.int (0 : Int32)), .val (.int (0 : Int32))] [(.int (1 : Int32))])) _
    refine XS.ifNo X6.here hx rfl (hb hby at_285) rfl ((if0 _ _).trans (feq (by decide : ¬ ((1 : Int32) = (0 : Int32)))).1) ?_
    show Steps p.tables e below (T6.setTop (mkF m 288 #[.val (.int p1), .val (.int p2), .val (.int (10 : Int32)), .val (.ref a_SYNC_GROUP), .val (.int (0 : Int32)), .val (.int (0 : Int32))] [])) _
    refine XS.iconst X6.here hx rfl (hb hby at_288) ?_
    show Steps p.tables e below (T6.setTop (mkF m 289 #[.val (.int p1), .val (.int p2), .val (.int (10 : Int32)), .val (.ref a_SYNC_GROUP), .val (.int (0 : Int32)), .val (.int (0 : Int32))] [(.int (1 : Int32))])) _
    refine XS.goto X6.here hx rfl (pc0 := 289) (pc' := 293) rfl (hb hby at_289) (by decide) (by decide) ?_
    show Steps p.tables e below (T6.setTop (mkF m 293 #[.val (.int p1), .val (.int p2), .val (.int (10 : Int32)), .val (.ref a_SYNC_GROUP), .val (.int (0 : Int32)), .val (.int (0 : Int32))] [(.int (1 : Int32))])) _
    exact retN X6 hx (t := .boolean) Bd.returns (by simp) (hb hby at_293) hr
  · exact ⟨rfl, N6⟩
set_option maxRecDepth 65536 in
set_option maxHeartbeats 40000000 in
theorem rm0_18 (l : Launch) (Z : State) (a0 : Array Value) (hw : ∀ d ∈ tables_1, d.before a0 Z = true) (ws : List Jvm.Cond) (a_PRODUCE : Addr) (a_LIST_OFFSETS : Addr) (a_HEARTBEAT : Addr) (a_OFFSET_COMMIT : Addr) (a_FETCH : Addr) (a_FIND_COORDINATOR : Addr) (a_API_VERSIONS : Addr) (a_METADATA : Addr) (a_LEAVE_GROUP : Addr) (a_JOIN_GROUP : Addr) (a_SYNC_GROUP : Addr) (a_OFFSET_FETCH : Addr) (p1 : Int32) (p2 : Int32) (h0 : Heap) (n0 : Nat) (Z0 : n0 ≤ h0.size) (hS : Wd Z h0 a_PRODUCE a_LIST_OFFSETS a_HEARTBEAT a_OFFSET_COMMIT a_FETCH a_FIND_COORDINATOR a_API_VERSIONS a_METADATA a_LEAVE_GROUP a_JOIN_GROUP a_SYNC_GROUP a_OFFSET_FETCH) (hi : ((p1 &&& (2147483647 : Int32)) % (12 : Int32)) = (11 : Int32)) :
    MetFree l x (head1 (Jvm.Cond.code x code maxLocals ret :: ws) room_1) (fun a U => a = #[(.int p1), (.int p2)] ∧ Z.Warmed39 U.vm ∧ U.heap = h0) (fun _ _ _ _ _ => True) (fun _ U o U' => ∃ v L, o = .returned v ∧ Q0 n0 v L ∧ FrameEnd U o U' L room_1.cells room_1.slots) := by
  refine MetFree.of_bodySF (plainFor_of_name pn_com_example_keelstream_keelstream_ApiKeySupportsPinLaw) hisR ?_
  intro p e s m args below meth c s₁ Bd hml0 hP hK
  obtain ⟨rfl, hZ, hh⟩ := hP
  have hx := Bd.exec
  have hby := Bd.bytes
  have hml : c.maxLocals = 6 := hml0
  have hown : s.vm.findClass "com/example/keelstream/keelstream/ApiKeySupportsPinLaw" = some m.cls := findClass_of_methodNamed Bd.named
  have X0 : Stand p l e room_1 s m #[(.int p1), (.int p2)] below meth c s₁ [] 0 0 := Stand.of_body Bd
  have e0 : s₁.heap = h0 := by rw [← hh, Bd.state]; rfl
  have N0 := Fr.nil n0
  have pre0 : ∀ t, Steps p.tables e below (s₁.setTop (mkF m 0 #[.val (.int p1), .val (.int p2), .unset, .unset, .unset, .unset] [])) t → Steps p.tables e below (s₁.setTop (entryFrame m #[(.int p1), (.int p2)] maxLocals)) t := fun t k => castTop (by first | (simp [entryFrame, mkF, argsToLocals, Value.category, maxLocals]; done) | rfl) k
  obtain ⟨S_PRODUCE, E_PRODUCE, S_LIST_OFFSETS, E_LIST_OFFSETS, S_HEARTBEAT, E_HEARTBEAT, S_OFFSET_COMMIT, E_OFFSET_COMMIT, S_FETCH, E_FETCH, S_FIND_COORDINATOR, E_FIND_COORDINATOR, S_API_VERSIONS, E_API_VERSIONS, S_METADATA, E_METADATA, S_LEAVE_GROUP, E_LEAVE_GROUP, S_JOIN_GROUP, E_JOIN_GROUP, S_SYNC_GROUP, E_SYNC_GROUP, S_OFFSET_FETCH, E_OFFSET_FETCH, F_PRODUCE_minVersion, F_PRODUCE_maxVersion, F_LIST_OFFSETS_minVersion, F_LIST_OFFSETS_maxVersion, F_HEARTBEAT_minVersion, F_HEARTBEAT_maxVersion, F_OFFSET_COMMIT_minVersion, F_OFFSET_COMMIT_maxVersion, F_FETCH_minVersion, F_FETCH_maxVersion, F_FIND_COORDINATOR_minVersion, F_FIND_COORDINATOR_maxVersion, F_API_VERSIONS_minVersion, F_API_VERSIONS_maxVersion, F_METADATA_minVersion, F_METADATA_maxVersion, F_LEAVE_GROUP_minVersion, F_LEAVE_GROUP_maxVersion, F_JOIN_GROUP_minVersion, F_JOIN_GROUP_maxVersion, F_SYNC_GROUP_minVersion, F_SYNC_GROUP_maxVersion, F_OFFSET_FETCH_minVersion, F_OFFSET_FETCH_maxVersion⟩ := id hS
  obtain ⟨T1, X1, e1, st1⟩ := getS2 X0 hx hZ hown (host := "") (Or.inl (hw _ (List.mem_of_getElem? (i := 27) rfl))) Via.refl e0 S_API_VERSIONS (g := (mkF m 210 #[.val (.int p1), .val (.int p2), .val (.int (11 : Int32)), .unset, .unset, .unset] [])) rfl (hb hby at_210)
  obtain ⟨_, _, ⟨T2, L2, k2, n2⟩, -, X2, ⟨Lc2, hQ2, l2, y2, z2⟩, st2⟩ := Jvm.LawKit.callS X1 hx (y := (⟨"com/example/keelstream/keelstream/ApiKeySupportsPinLaw", "ok", "(Lcom/example/keelstream/keelstream/ApiKey;III)Z"⟩ : MethodName)) hown (mvT hZ (hw _ (List.mem_of_getElem? (i := 4) rfl))) (mvT hZ (hw _ (List.mem_of_getElem? (i := 5) rfl))) (mvT hZ (hw _ (List.mem_of_getElem? (i := 6) rfl))) (mvT hZ (hw _ (List.mem_of_getElem? (i := 7) rfl))) (by decide) (backOf (W := 0) (okAll l Z a0 hw [] a_API_VERSIONS (0 : Int32) (3 : Int32) p2 h0 n0 Z0 ⟨E_API_VERSIONS, F_API_VERSIONS_minVersion, F_API_VERSIONS_maxVersion⟩) hZ (hw _ (List.mem_of_getElem? (i := 7) rfl)) (hw _ (List.mem_of_getElem? (i := 6) rfl)) (by decide) (by decide)) (g := (mkF m 226 #[.val (.int p1), .val (.int p2), .val (.int (11 : Int32)), .val (.ref a_API_VERSIONS), .val (.int (0 : Int32)), .val (.int (3 : Int32))] [(.int p2), (.int (3 : Int32)), (.int (0 : Int32)), (.ref a_API_VERSIONS)])) rfl (by rw [hml]; rfl) (argsL := [(.ref a_API_VERSIONS), (.int (0 : Int32)), (.int (3 : Int32)), (.int p2)]) (rest := []) (lenOf pd_1 rfl) rfl (by show 2 * 0 + _ ≤ _; exact Nat.le_of_eq rfl) (hb hby at_226) (fun _ _ => ⟨rfl, e1, (by decide : 0 + 0 ≤ _), (by decide : 0 + 0 ≤ _)⟩)
  dsimp only [Pt.U, Pt.locs, Pt.cells, Pt.slots] at X2 l2 y2 z2 st2 hQ2
  subst l2 y2 z2
  obtain ⟨rfl, N2q, e2⟩ := hQ2
  have N2 := Fr.app N0 N2q
  obtain ⟨_, _, ⟨T3, L3, k3, n3⟩, -, X3, ⟨Lc3, hQ3, l3, y3, z3⟩, st3⟩ := Jvm.LawKit.callS X2 hx (y := (⟨"com/example/keelstream/keelstream/ApiKeySupportsPinLaw", "ok", "(Lcom/example/keelstream/keelstream/ApiKey;III)Z"⟩ : MethodName)) hown (mvT hZ (hw _ (List.mem_of_getElem? (i := 4) rfl))) (mvT hZ (hw _ (List.mem_of_getElem? (i := 5) rfl))) (mvT hZ (hw _ (List.mem_of_getElem? (i := 6) rfl))) (mvT hZ (hw _ (List.mem_of_getElem? (i := 7) rfl))) (by decide) (backOf (W := 0) (okAll l Z a0 hw [] a_API_VERSIONS (0 : Int32) (3 : Int32) ((0 : Int32) - (1 : Int32)) h0 n0 Z0 ⟨E_API_VERSIONS, F_API_VERSIONS_minVersion, F_API_VERSIONS_maxVersion⟩) hZ (hw _ (List.mem_of_getElem? (i := 7) rfl)) (hw _ (List.mem_of_getElem? (i := 6) rfl)) (by decide) (by decide)) (g := (mkF m 241 #[.val (.int p1), .val (.int p2), .val (.int (11 : Int32)), .val (.ref a_API_VERSIONS), .val (.int (0 : Int32)), .val (.int (3 : Int32))] [(.int ((0 : Int32) - (1 : Int32))), (.int (3 : Int32)), (.int (0 : Int32)), (.ref a_API_VERSIONS)])) rfl (by rw [hml]; rfl) (argsL := [(.ref a_API_VERSIONS), (.int (0 : Int32)), (.int (3 : Int32)), (.int ((0 : Int32) - (1 : Int32)))]) (rest := []) (lenOf pd_1 rfl) rfl (by show 2 * 0 + _ ≤ _; exact Nat.le_of_eq rfl) (hb hby at_241) (fun _ _ => ⟨rfl, e2, (by decide : 0 + 0 ≤ _), (by decide : 0 + 0 ≤ _)⟩)
  dsimp only [Pt.U, Pt.locs, Pt.cells, Pt.slots] at X3 l3 y3 z3 st3 hQ3
  subst l3 y3 z3
  obtain ⟨rfl, N3q, e3⟩ := hQ3
  have N3 := Fr.app N2 N3q
  obtain ⟨_, _, ⟨T4, L4, k4, n4⟩, -, X4, ⟨Lc4, hQ4, l4, y4, z4⟩, st4⟩ := Jvm.LawKit.callS X3 hx (y := (⟨"com/example/keelstream/keelstream/ApiKeySupportsPinLaw", "ok", "(Lcom/example/keelstream/keelstream/ApiKey;III)Z"⟩ : MethodName)) hown (mvT hZ (hw _ (List.mem_of_getElem? (i := 4) rfl))) (mvT hZ (hw _ (List.mem_of_getElem? (i := 5) rfl))) (mvT hZ (hw _ (List.mem_of_getElem? (i := 6) rfl))) (mvT hZ (hw _ (List.mem_of_getElem? (i := 7) rfl))) (by decide) (backOf (W := 0) (okAll l Z a0 hw [] a_API_VERSIONS (0 : Int32) (3 : Int32) (0 : Int32) h0 n0 Z0 ⟨E_API_VERSIONS, F_API_VERSIONS_minVersion, F_API_VERSIONS_maxVersion⟩) hZ (hw _ (List.mem_of_getElem? (i := 7) rfl)) (hw _ (List.mem_of_getElem? (i := 6) rfl)) (by decide) (by decide)) (g := (mkF m 254 #[.val (.int p1), .val (.int p2), .val (.int (11 : Int32)), .val (.ref a_API_VERSIONS), .val (.int (0 : Int32)), .val (.int (3 : Int32))] [(.int (0 : Int32)), (.int (3 : Int32)), (.int (0 : Int32)), (.ref a_API_VERSIONS)])) rfl (by rw [hml]; rfl) (argsL := [(.ref a_API_VERSIONS), (.int (0 : Int32)), (.int (3 : Int32)), (.int (0 : Int32))]) (rest := []) (lenOf pd_1 rfl) rfl (by show 2 * 0 + _ ≤ _; exact Nat.le_of_eq rfl) (hb hby at_254) (fun _ _ => ⟨rfl, e3, (by decide : 0 + 0 ≤ _), (by decide : 0 + 0 ≤ _)⟩)
  dsimp only [Pt.U, Pt.locs, Pt.cells, Pt.slots] at X4 l4 y4 z4 st4 hQ4
  subst l4 y4 z4
  obtain ⟨rfl, N4q, e4⟩ := hQ4
  have N4 := Fr.app N3 N4q
  obtain ⟨_, _, ⟨T5, L5, k5, n5⟩, -, X5, ⟨Lc5, hQ5, l5, y5, z5⟩, st5⟩ := Jvm.LawKit.callS X4 hx (y := (⟨"com/example/keelstream/keelstream/ApiKeySupportsPinLaw", "ok", "(Lcom/example/keelstream/keelstream/ApiKey;III)Z"⟩ : MethodName)) hown (mvT hZ (hw _ (List.mem_of_getElem? (i := 4) rfl))) (mvT hZ (hw _ (List.mem_of_getElem? (i := 5) rfl))) (mvT hZ (hw _ (List.mem_of_getElem? (i := 6) rfl))) (mvT hZ (hw _ (List.mem_of_getElem? (i := 7) rfl))) (by decide) (backOf (W := 0) (okAll l Z a0 hw [] a_API_VERSIONS (0 : Int32) (3 : Int32) (3 : Int32) h0 n0 Z0 ⟨E_API_VERSIONS, F_API_VERSIONS_minVersion, F_API_VERSIONS_maxVersion⟩) hZ (hw _ (List.mem_of_getElem? (i := 7) rfl)) (hw _ (List.mem_of_getElem? (i := 6) rfl)) (by decide) (by decide)) (g := (mkF m 267 #[.val (.int p1), .val (.int p2), .val (.int (11 : Int32)), .val (.ref a_API_VERSIONS), .val (.int (0 : Int32)), .val (.int (3 : Int32))] [(.int (3 : Int32)), (.int (3 : Int32)), (.int (0 : Int32)), (.ref a_API_VERSIONS)])) rfl (by rw [hml]; rfl) (argsL := [(.ref a_API_VERSIONS), (.int (0 : Int32)), (.int (3 : Int32)), (.int (3 : Int32))]) (rest := []) (lenOf pd_1 rfl) rfl (by show 2 * 0 + _ ≤ _; exact Nat.le_of_eq rfl) (hb hby at_267) (fun _ _ => ⟨rfl, e4, (by decide : 0 + 0 ≤ _), (by decide : 0 + 0 ≤ _)⟩)
  dsimp only [Pt.U, Pt.locs, Pt.cells, Pt.slots] at X5 l5 y5 z5 st5 hQ5
  subst l5 y5 z5
  obtain ⟨rfl, N5q, e5⟩ := hQ5
  have N5 := Fr.app N4 N5q
  obtain ⟨_, _, ⟨T6, L6, k6, n6⟩, -, X6, ⟨Lc6, hQ6, l6, y6, z6⟩, st6⟩ := Jvm.LawKit.callS X5 hx (y := (⟨"com/example/keelstream/keelstream/ApiKeySupportsPinLaw", "ok", "(Lcom/example/keelstream/keelstream/ApiKey;III)Z"⟩ : MethodName)) hown (mvT hZ (hw _ (List.mem_of_getElem? (i := 4) rfl))) (mvT hZ (hw _ (List.mem_of_getElem? (i := 5) rfl))) (mvT hZ (hw _ (List.mem_of_getElem? (i := 6) rfl))) (mvT hZ (hw _ (List.mem_of_getElem? (i := 7) rfl))) (by decide) (backOf (W := 0) (okAll l Z a0 hw [] a_API_VERSIONS (0 : Int32) (3 : Int32) ((3 : Int32) + (1 : Int32)) h0 n0 Z0 ⟨E_API_VERSIONS, F_API_VERSIONS_minVersion, F_API_VERSIONS_maxVersion⟩) hZ (hw _ (List.mem_of_getElem? (i := 7) rfl)) (hw _ (List.mem_of_getElem? (i := 6) rfl)) (by decide) (by decide)) (g := (mkF m 282 #[.val (.int p1), .val (.int p2), .val (.int (11 : Int32)), .val (.ref a_API_VERSIONS), .val (.int (0 : Int32)), .val (.int (3 : Int32))] [(.int ((3 : Int32) + (1 : Int32))), (.int (3 : Int32)), (.int (0 : Int32)), (.ref a_API_VERSIONS)])) rfl (by rw [hml]; rfl) (argsL := [(.ref a_API_VERSIONS), (.int (0 : Int32)), (.int (3 : Int32)), (.int ((3 : Int32) + (1 : Int32)))]) (rest := []) (lenOf pd_1 rfl) rfl (by show 2 * 0 + _ ≤ _; exact Nat.le_of_eq rfl) (hb hby at_282) (fun _ _ => ⟨rfl, e5, (by decide : 0 + 0 ≤ _), (by decide : 0 + 0 ≤ _)⟩)
  dsimp only [Pt.U, Pt.locs, Pt.cells, Pt.slots] at X6 l6 y6 z6 st6 hQ6
  subst l6 y6 z6
  obtain ⟨rfl, N6q, e6⟩ := hQ6
  have N6 := Fr.app N5 N6q
  obtain ⟨fs, hr, hrun, hended, hW, hsame⟩ := X6.leave (v := some (.int (1 : Int32))) (fun h => by rw [Bd.returns] at h; cases h)
  refine ⟨_, _, pre0 _ ?_, hrun, hended, _, _, rfl, ?_, ⟨_, rfl⟩, hW, hsame.mono (by decide) (by decide)⟩
  · show Steps p.tables e below (s₁.setTop (mkF m 0 #[.val (.int p1), .val (.int p2), .unset, .unset, .unset, .unset] [])) _
    refine XS.iloadN X0.here hx rfl (hb hby at_0) rfl ?_
    show Steps p.tables e below (s₁.setTop (mkF m 1 #[.val (.int p1), .val (.int p2), .unset, .unset, .unset, .unset] [(.int p1)])) _
    refine X0.ldcInt hx hown (mvT hZ (hw _ (List.mem_of_getElem? (i := 0) rfl))) (g := (mkF m 1 #[.val (.int p1), .val (.int p2), .unset, .unset, .unset, .unset] [(.int p1)])) rfl (hb hby at_1) _ ?_
    show Steps p.tables e below (s₁.setTop (mkF m 3 #[.val (.int p1), .val (.int p2), .unset, .unset, .unset, .unset] [(.int (2147483647 : Int32)), (.int p1)])) _
    refine XS.iand X0.here hx rfl (hb hby at_3) rfl ?_
    show Steps p.tables e below (s₁.setTop (mkF m 4 #[.val (.int p1), .val (.int p2), .unset, .unset, .unset, .unset] [(.int (p1 &&& (2147483647 : Int32)))])) _
    refine XS.bipush X0.here hx rfl (hb hby at_4) ?_
    show Steps p.tables e below (s₁.setTop (mkF m 6 #[.val (.int p1), .val (.int p2), .unset, .unset, .unset, .unset] [(.int (12 : Int32)), (.int (p1 &&& (2147483647 : Int32)))])) _
    refine Jvm.RoadKit.iremM (g := (mkF m 6 #[.val (.int p1), .val (.int p2), .unset, .unset, .unset, .unset] [(.int (12 : Int32)), (.int (p1 &&& (2147483647 : Int32)))])) X0 hx rfl (hb hby at_6) rfl (by decide) ?_
    rw [hi]
    show Steps p.tables e below (s₁.setTop (mkF m 7 #[.val (.int p1), .val (.int p2), .unset, .unset, .unset, .unset] [(.int (11 : Int32))])) _
    refine XS.istoreN X0.here hx rfl (hb hby at_7) rfl (l' := #[.val (.int p1), .val (.int p2), .val (.int (11 : Int32)), .unset, .unset, .unset]) rfl ?_
    show Steps p.tables e below (s₁.setTop (mkF m 8 #[.val (.int p1), .val (.int p2), .val (.int (11 : Int32)), .unset, .unset, .unset] [])) _
    refine XS.iloadN X0.here hx rfl (hb hby at_8) rfl ?_
    show Steps p.tables e below (s₁.setTop (mkF m 9 #[.val (.int p1), .val (.int p2), .val (.int (11 : Int32)), .unset, .unset, .unset] [(.int (11 : Int32))])) _
    refine XS.ifYes X0.here hx rfl (pc0 := 9) (pc' := 25) rfl (hb hby at_9) rfl ((if0 _ _).trans (feq (by decide : ¬ ((11 : Int32) = (0 : Int32)))).2) (by decide) (by decide) ?_
    show Steps p.tables e below (s₁.setTop (mkF m 25 #[.val (.int p1), .val (.int p2), .val (.int (11 : Int32)), .unset, .unset, .unset] [])) _
    refine XS.iloadN X0.here hx rfl (hb hby at_25) rfl ?_
    show Steps p.tables e below (s₁.setTop (mkF m 26 #[.val (.int p1), .val (.int p2), .val (.int (11 : Int32)), .unset, .unset, .unset] [(.int (11 : Int32))])) _
    refine XS.iconst X0.here hx rfl (hb hby at_26) ?_
    show Steps p.tables e below (s₁.setTop (mkF m 27 #[.val (.int p1), .val (.int p2), .val (.int (11 : Int32)), .unset, .unset, .unset] [(.int (1 : Int32)), (.int (11 : Int32))])) _
    refine XS.icmpYes X0.here hx rfl (pc0 := 27) (pc' := 43) rfl (hb hby at_27) rfl (feq (by decide : ¬ ((11 : Int32) = (1 : Int32)))).2 (by decide) (by decide) ?_
    show Steps p.tables e below (s₁.setTop (mkF m 43 #[.val (.int p1), .val (.int p2), .val (.int (11 : Int32)), .unset, .unset, .unset] [])) _
    refine XS.iloadN X0.here hx rfl (hb hby at_43) rfl ?_
    show Steps p.tables e below (s₁.setTop (mkF m 44 #[.val (.int p1), .val (.int p2), .val (.int (11 : Int32)), .unset, .unset, .unset] [(.int (11 : Int32))])) _
    refine XS.iconst X0.here hx rfl (hb hby at_44) ?_
    show Steps p.tables e below (s₁.setTop (mkF m 45 #[.val (.int p1), .val (.int p2), .val (.int (11 : Int32)), .unset, .unset, .unset] [(.int (2 : Int32)), (.int (11 : Int32))])) _
    refine XS.icmpYes X0.here hx rfl (pc0 := 45) (pc' := 61) rfl (hb hby at_45) rfl (feq (by decide : ¬ ((11 : Int32) = (2 : Int32)))).2 (by decide) (by decide) ?_
    show Steps p.tables e below (s₁.setTop (mkF m 61 #[.val (.int p1), .val (.int p2), .val (.int (11 : Int32)), .unset, .unset, .unset] [])) _
    refine XS.iloadN X0.here hx rfl (hb hby at_61) rfl ?_
    show Steps p.tables e below (s₁.setTop (mkF m 62 #[.val (.int p1), .val (.int p2), .val (.int (11 : Int32)), .unset, .unset, .unset] [(.int (11 : Int32))])) _
    refine XS.iconst X0.here hx rfl (hb hby at_62) ?_
    show Steps p.tables e below (s₁.setTop (mkF m 63 #[.val (.int p1), .val (.int p2), .val (.int (11 : Int32)), .unset, .unset, .unset] [(.int (3 : Int32)), (.int (11 : Int32))])) _
    refine XS.icmpYes X0.here hx rfl (pc0 := 63) (pc' := 79) rfl (hb hby at_63) rfl (feq (by decide : ¬ ((11 : Int32) = (3 : Int32)))).2 (by decide) (by decide) ?_
    show Steps p.tables e below (s₁.setTop (mkF m 79 #[.val (.int p1), .val (.int p2), .val (.int (11 : Int32)), .unset, .unset, .unset] [])) _
    refine XS.iloadN X0.here hx rfl (hb hby at_79) rfl ?_
    show Steps p.tables e below (s₁.setTop (mkF m 80 #[.val (.int p1), .val (.int p2), .val (.int (11 : Int32)), .unset, .unset, .unset] [(.int (11 : Int32))])) _
    refine XS.iconst X0.here hx rfl (hb hby at_80) ?_
    show Steps p.tables e below (s₁.setTop (mkF m 81 #[.val (.int p1), .val (.int p2), .val (.int (11 : Int32)), .unset, .unset, .unset] [(.int (4 : Int32)), (.int (11 : Int32))])) _
    refine XS.icmpYes X0.here hx rfl (pc0 := 81) (pc' := 97) rfl (hb hby at_81) rfl (feq (by decide : ¬ ((11 : Int32) = (4 : Int32)))).2 (by decide) (by decide) ?_
    show Steps p.tables e below (s₁.setTop (mkF m 97 #[.val (.int p1), .val (.int p2), .val (.int (11 : Int32)), .unset, .unset, .unset] [])) _
    refine XS.iloadN X0.here hx rfl (hb hby at_97) rfl ?_
    show Steps p.tables e below (s₁.setTop (mkF m 98 #[.val (.int p1), .val (.int p2), .val (.int (11 : Int32)), .unset, .unset, .unset] [(.int (11 : Int32))])) _
    refine XS.iconst X0.here hx rfl (hb hby at_98) ?_
    show Steps p.tables e below (s₁.setTop (mkF m 99 #[.val (.int p1), .val (.int p2), .val (.int (11 : Int32)), .unset, .unset, .unset] [(.int (5 : Int32)), (.int (11 : Int32))])) _
    refine XS.icmpYes X0.here hx rfl (pc0 := 99) (pc' := 115) rfl (hb hby at_99) rfl (feq (by decide : ¬ ((11 : Int32) = (5 : Int32)))).2 (by decide) (by decide) ?_
    show Steps p.tables e below (s₁.setTop (mkF m 115 #[.val (.int p1), .val (.int p2), .val (.int (11 : Int32)), .unset, .unset, .unset] [])) _
    refine XS.iloadN X0.here hx rfl (hb hby at_115) rfl ?_
    show Steps p.tables e below (s₁.setTop (mkF m 116 #[.val (.int p1), .val (.int p2), .val (.int (11 : Int32)), .unset, .unset, .unset] [(.int (11 : Int32))])) _
    refine XS.bipush X0.here hx rfl (hb hby at_116) ?_
    show Steps p.tables e below (s₁.setTop (mkF m 118 #[.val (.int p1), .val (.int p2), .val (.int (11 : Int32)), .unset, .unset, .unset] [(.int (6 : Int32)), (.int (11 : Int32))])) _
    refine XS.icmpYes X0.here hx rfl (pc0 := 118) (pc' := 134) rfl (hb hby at_118) rfl (feq (by decide : ¬ ((11 : Int32) = (6 : Int32)))).2 (by decide) (by decide) ?_
    show Steps p.tables e below (s₁.setTop (mkF m 134 #[.val (.int p1), .val (.int p2), .val (.int (11 : Int32)), .unset, .unset, .unset] [])) _
    refine XS.iloadN X0.here hx rfl (hb hby at_134) rfl ?_
    show Steps p.tables e below (s₁.setTop (mkF m 135 #[.val (.int p1), .val (.int p2), .val (.int (11 : Int32)), .unset, .unset, .unset] [(.int (11 : Int32))])) _
    refine XS.bipush X0.here hx rfl (hb hby at_135) ?_
    show Steps p.tables e below (s₁.setTop (mkF m 137 #[.val (.int p1), .val (.int p2), .val (.int (11 : Int32)), .unset, .unset, .unset] [(.int (7 : Int32)), (.int (11 : Int32))])) _
    refine XS.icmpYes X0.here hx rfl (pc0 := 137) (pc' := 153) rfl (hb hby at_137) rfl (feq (by decide : ¬ ((11 : Int32) = (7 : Int32)))).2 (by decide) (by decide) ?_
    show Steps p.tables e below (s₁.setTop (mkF m 153 #[.val (.int p1), .val (.int p2), .val (.int (11 : Int32)), .unset, .unset, .unset] [])) _
    refine XS.iloadN X0.here hx rfl (hb hby at_153) rfl ?_
    show Steps p.tables e below (s₁.setTop (mkF m 154 #[.val (.int p1), .val (.int p2), .val (.int (11 : Int32)), .unset, .unset, .unset] [(.int (11 : Int32))])) _
    refine XS.bipush X0.here hx rfl (hb hby at_154) ?_
    show Steps p.tables e below (s₁.setTop (mkF m 156 #[.val (.int p1), .val (.int p2), .val (.int (11 : Int32)), .unset, .unset, .unset] [(.int (8 : Int32)), (.int (11 : Int32))])) _
    refine XS.icmpYes X0.here hx rfl (pc0 := 156) (pc' := 172) rfl (hb hby at_156) rfl (feq (by decide : ¬ ((11 : Int32) = (8 : Int32)))).2 (by decide) (by decide) ?_
    show Steps p.tables e below (s₁.setTop (mkF m 172 #[.val (.int p1), .val (.int p2), .val (.int (11 : Int32)), .unset, .unset, .unset] [])) _
    refine XS.iloadN X0.here hx rfl (hb hby at_172) rfl ?_
    show Steps p.tables e below (s₁.setTop (mkF m 173 #[.val (.int p1), .val (.int p2), .val (.int (11 : Int32)), .unset, .unset, .unset] [(.int (11 : Int32))])) _
    refine XS.bipush X0.here hx rfl (hb hby at_173) ?_
    show Steps p.tables e below (s₁.setTop (mkF m 175 #[.val (.int p1), .val (.int p2), .val (.int (11 : Int32)), .unset, .unset, .unset] [(.int (9 : Int32)), (.int (11 : Int32))])) _
    refine XS.icmpYes X0.here hx rfl (pc0 := 175) (pc' := 191) rfl (hb hby at_175) rfl (feq (by decide : ¬ ((11 : Int32) = (9 : Int32)))).2 (by decide) (by decide) ?_
    show Steps p.tables e below (s₁.setTop (mkF m 191 #[.val (.int p1), .val (.int p2), .val (.int (11 : Int32)), .unset, .unset, .unset] [])) _
    refine XS.iloadN X0.here hx rfl (hb hby at_191) rfl ?_
    show Steps p.tables e below (s₁.setTop (mkF m 192 #[.val (.int p1), .val (.int p2), .val (.int (11 : Int32)), .unset, .unset, .unset] [(.int (11 : Int32))])) _
    refine XS.bipush X0.here hx rfl (hb hby at_192) ?_
    show Steps p.tables e below (s₁.setTop (mkF m 194 #[.val (.int p1), .val (.int p2), .val (.int (11 : Int32)), .unset, .unset, .unset] [(.int (10 : Int32)), (.int (11 : Int32))])) _
    refine XS.icmpYes X0.here hx rfl (pc0 := 194) (pc' := 210) rfl (hb hby at_194) rfl (feq (by decide : ¬ ((11 : Int32) = (10 : Int32)))).2 (by decide) (by decide) ?_
    show Steps p.tables e below (s₁.setTop (mkF m 210 #[.val (.int p1), .val (.int p2), .val (.int (11 : Int32)), .unset, .unset, .unset] [])) _
    refine st1 _ ?_
    show Steps p.tables e below (T1.setTop (mkF m 213 #[.val (.int p1), .val (.int p2), .val (.int (11 : Int32)), .unset, .unset, .unset] [(.ref a_API_VERSIONS)])) _
    refine XS.astoreN X1.here hx rfl (hb hby at_213) rfl rfl (l' := #[.val (.int p1), .val (.int p2), .val (.int (11 : Int32)), .val (.ref a_API_VERSIONS), .unset, .unset]) rfl ?_
    show Steps p.tables e below (T1.setTop (mkF m 214 #[.val (.int p1), .val (.int p2), .val (.int (11 : Int32)), .val (.ref a_API_VERSIONS), .unset, .unset] [])) _
    refine XS.iconst X1.here hx rfl (hb hby at_214) ?_
    show Steps p.tables e below (T1.setTop (mkF m 215 #[.val (.int p1), .val (.int p2), .val (.int (11 : Int32)), .val (.ref a_API_VERSIONS), .unset, .unset] [(.int (0 : Int32))])) _
    refine XS.istore X1.here hx rfl (hb hby at_215) rfl (l' := #[.val (.int p1), .val (.int p2), .val (.int (11 : Int32)), .val (.ref a_API_VERSIONS), .val (.int (0 : Int32)), .unset]) rfl ?_
    show Steps p.tables e below (T1.setTop (mkF m 217 #[.val (.int p1), .val (.int p2), .val (.int (11 : Int32)), .val (.ref a_API_VERSIONS), .val (.int (0 : Int32)), .unset] [])) _
    refine XS.iconst X1.here hx rfl (hb hby at_217) ?_
    show Steps p.tables e below (T1.setTop (mkF m 218 #[.val (.int p1), .val (.int p2), .val (.int (11 : Int32)), .val (.ref a_API_VERSIONS), .val (.int (0 : Int32)), .unset] [(.int (3 : Int32))])) _
    refine XS.istore X1.here hx rfl (hb hby at_218) rfl (l' := #[.val (.int p1), .val (.int p2), .val (.int (11 : Int32)), .val (.ref a_API_VERSIONS), .val (.int (0 : Int32)), .val (.int (3 : Int32))]) rfl ?_
    show Steps p.tables e below (T1.setTop (mkF m 220 #[.val (.int p1), .val (.int p2), .val (.int (11 : Int32)), .val (.ref a_API_VERSIONS), .val (.int (0 : Int32)), .val (.int (3 : Int32))] [])) _
    refine XS.aloadN X1.here hx rfl (hb hby at_220) rfl rfl ?_
    show Steps p.tables e below (T1.setTop (mkF m 221 #[.val (.int p1), .val (.int p2), .val (.int (11 : Int32)), .val (.ref a_API_VERSIONS), .val (.int (0 : Int32)), .val (.int (3 : Int32))] [(.ref a_API_VERSIONS)])) _
    refine XS.iload X1.here hx rfl (hb hby at_221) rfl ?_
    show Steps p.tables e below (T1.setTop (mkF m 223 #[.val (.int p1), .val (.int p2), .val (.int (11 : Int32)), .val (.ref a_API_VERSIONS), .val (.int (0 : Int32)), .val (.int (3 : Int32))] [(.int (0 : Int32)), (.ref a_API_VERSIONS)])) _
    refine XS.iload X1.here hx rfl (hb hby at_223) rfl ?_
    show Steps p.tables e below (T1.setTop (mkF m 225 #[.val (.int p1), .val (.int p2), .val (.int (11 : Int32)), .val (.ref a_API_VERSIONS), .val (.int (0 : Int32)), .val (.int (3 : Int32))] [(.int (3 : Int32)), (.int (0 : Int32)), (.ref a_API_VERSIONS)])) _
    refine XS.iloadN X1.here hx rfl (hb hby at_225) rfl ?_
    show Steps p.tables e below (T1.setTop (mkF m 226 #[.val (.int p1), .val (.int p2), .val (.int (11 : Int32)), .val (.ref a_API_VERSIONS), .val (.int (0 : Int32)), .val (.int (3 : Int32))] [(.int p2), (.int (3 : Int32)), (.int (0 : Int32)), (.ref a_API_VERSIONS)])) _
    refine st2 _ ?_
    show Steps p.tables e below (T2.setTop (mkF m 229 #[.val (.int p1), .val (.int p2), .val (.int (11 : Int32)), .val (.ref a_API_VERSIONS), .val (.int (0 : Int32)), .val (.int (3 : Int32))] [(.int (1 : Int32))])) _
    refine XS.ifNo X2.here hx rfl (hb hby at_229) rfl ((if0 _ _).trans (feq (by decide : ¬ ((1 : Int32) = (0 : Int32)))).1) ?_
    show Steps p.tables e below (T2.setTop (mkF m 232 #[.val (.int p1), .val (.int p2), .val (.int (11 : Int32)), .val (.ref a_API_VERSIONS), .val (.int (0 : Int32)), .val (.int (3 : Int32))] [])) _
    refine XS.aloadN X2.here hx rfl (hb hby at_232) rfl rfl ?_
    show Steps p.tables e below (T2.setTop (mkF m 233 #[.val (.int p1), .val (.int p2), .val (.int (11 : Int32)), .val (.ref a_API_VERSIONS), .val (.int (0 : Int32)), .val (.int (3 : Int32))] [(.ref a_API_VERSIONS)])) _
    refine XS.iload X2.here hx rfl (hb hby at_233) rfl ?_
    show Steps p.tables e below (T2.setTop (mkF m 235 #[.val (.int p1), .val (.int p2), .val (.int (11 : Int32)), .val (.ref a_API_VERSIONS), .val (.int (0 : Int32)), .val (.int (3 : Int32))] [(.int (0 : Int32)), (.ref a_API_VERSIONS)])) _
    refine XS.iload X2.here hx rfl (hb hby at_235) rfl ?_
    show Steps p.tables e below (T2.setTop (mkF m 237 #[.val (.int p1), .val (.int p2), .val (.int (11 : Int32)), .val (.ref a_API_VERSIONS), .val (.int (0 : Int32)), .val (.int (3 : Int32))] [(.int (3 : Int32)), (.int (0 : Int32)), (.ref a_API_VERSIONS)])) _
    refine XS.iload X2.here hx rfl (hb hby at_237) rfl ?_
    show Steps p.tables e below (T2.setTop (mkF m 239 #[.val (.int p1), .val (.int p2), .val (.int (11 : Int32)), .val (.ref a_API_VERSIONS), .val (.int (0 : Int32)), .val (.int (3 : Int32))] [(.int (0 : Int32)), (.int (3 : Int32)), (.int (0 : Int32)), (.ref a_API_VERSIONS)])) _
    refine XS.iconst X2.here hx rfl (hb hby at_239) ?_
    show Steps p.tables e below (T2.setTop (mkF m 240 #[.val (.int p1), .val (.int p2), .val (.int (11 : Int32)), .val (.ref a_API_VERSIONS), .val (.int (0 : Int32)), .val (.int (3 : Int32))] [(.int (1 : Int32)), (.int (0 : Int32)), (.int (3 : Int32)), (.int (0 : Int32)), (.ref a_API_VERSIONS)])) _
    refine XS.isub X2.here hx rfl (hb hby at_240) rfl ?_
    show Steps p.tables e below (T2.setTop (mkF m 241 #[.val (.int p1), .val (.int p2), .val (.int (11 : Int32)), .val (.ref a_API_VERSIONS), .val (.int (0 : Int32)), .val (.int (3 : Int32))] [(.int ((0 : Int32) - (1 : Int32))), (.int (3 : Int32)), (.int (0 : Int32)), (.ref a_API_VERSIONS)])) _
    refine st3 _ ?_
    show Steps p.tables e below (T3.setTop (mkF m 244 #[.val (.int p1), .val (.int p2), .val (.int (11 : Int32)), .val (.ref a_API_VERSIONS), .val (.int (0 : Int32)), .val (.int (3 : Int32))] [(.int (1 : Int32))])) _
    refine XS.ifNo X3.here hx rfl (hb hby at_244) rfl ((if0 _ _).trans (feq (by decide : ¬ ((1 : Int32) = (0 : Int32)))).1) ?_
    show Steps p.tables e below (T3.setTop (mkF m 247 #[.val (.int p1), .val (.int p2), .val (.int (11 : Int32)), .val (.ref a_API_VERSIONS), .val (.int (0 : Int32)), .val (.int (3 : Int32))] [])) _
    refine XS.aloadN X3.here hx rfl (hb hby at_247) rfl rfl ?_
    show Steps p.tables e below (T3.setTop (mkF m 248 #[.val (.int p1), .val (.int p2), .val (.int (11 : Int32)), .val (.ref a_API_VERSIONS), .val (.int (0 : Int32)), .val (.int (3 : Int32))] [(.ref a_API_VERSIONS)])) _
    refine XS.iload X3.here hx rfl (hb hby at_248) rfl ?_
    show Steps p.tables e below (T3.setTop (mkF m 250 #[.val (.int p1), .val (.int p2), .val (.int (11 : Int32)), .val (.ref a_API_VERSIONS), .val (.int (0 : Int32)), .val (.int (3 : Int32))] [(.int (0 : Int32)), (.ref a_API_VERSIONS)])) _
    refine XS.iload X3.here hx rfl (hb hby at_250) rfl ?_
    show Steps p.tables e below (T3.setTop (mkF m 252 #[.val (.int p1), .val (.int p2), .val (.int (11 : Int32)), .val (.ref a_API_VERSIONS), .val (.int (0 : Int32)), .val (.int (3 : Int32))] [(.int (3 : Int32)), (.int (0 : Int32)), (.ref a_API_VERSIONS)])) _
    refine XS.iload X3.here hx rfl (hb hby at_252) rfl ?_
    show Steps p.tables e below (T3.setTop (mkF m 254 #[.val (.int p1), .val (.int p2), .val (.int (11 : Int32)), .val (.ref a_API_VERSIONS), .val (.int (0 : Int32)), .val (.int (3 : Int32))] [(.int (0 : Int32)), (.int (3 : Int32)), (.int (0 : Int32)), (.ref a_API_VERSIONS)])) _
    refine st4 _ ?_
    show Steps p.tables e below (T4.setTop (mkF m 257 #[.val (.int p1), .val (.int p2), .val (.int (11 : Int32)), .val (.ref a_API_VERSIONS), .val (.int (0 : Int32)), .val (.int (3 : Int32))] [(.int (1 : Int32))])) _
    refine XS.ifNo X4.here hx rfl (hb hby at_257) rfl ((if0 _ _).trans (feq (by decide : ¬ ((1 : Int32) = (0 : Int32)))).1) ?_
    show Steps p.tables e below (T4.setTop (mkF m 260 #[.val (.int p1), .val (.int p2), .val (.int (11 : Int32)), .val (.ref a_API_VERSIONS), .val (.int (0 : Int32)), .val (.int (3 : Int32))] [])) _
    refine XS.aloadN X4.here hx rfl (hb hby at_260) rfl rfl ?_
    show Steps p.tables e below (T4.setTop (mkF m 261 #[.val (.int p1), .val (.int p2), .val (.int (11 : Int32)), .val (.ref a_API_VERSIONS), .val (.int (0 : Int32)), .val (.int (3 : Int32))] [(.ref a_API_VERSIONS)])) _
    refine XS.iload X4.here hx rfl (hb hby at_261) rfl ?_
    show Steps p.tables e below (T4.setTop (mkF m 263 #[.val (.int p1), .val (.int p2), .val (.int (11 : Int32)), .val (.ref a_API_VERSIONS), .val (.int (0 : Int32)), .val (.int (3 : Int32))] [(.int (0 : Int32)), (.ref a_API_VERSIONS)])) _
    refine XS.iload X4.here hx rfl (hb hby at_263) rfl ?_
    show Steps p.tables e below (T4.setTop (mkF m 265 #[.val (.int p1), .val (.int p2), .val (.int (11 : Int32)), .val (.ref a_API_VERSIONS), .val (.int (0 : Int32)), .val (.int (3 : Int32))] [(.int (3 : Int32)), (.int (0 : Int32)), (.ref a_API_VERSIONS)])) _
    refine XS.iload X4.here hx rfl (hb hby at_265) rfl ?_
    show Steps p.tables e below (T4.setTop (mkF m 267 #[.val (.int p1), .val (.int p2), .val (.int (11 : Int32)), .val (.ref a_API_VERSIONS), .val (.int (0 : Int32)), .val (.int (3 : Int32))] [(.int (3 : Int32)), (.int (3 : Int32)), (.int (0 : Int32)), (.ref a_API_VERSIONS)])) _
    refine st5 _ ?_
    show Steps p.tables e below (T5.setTop (mkF m 270 #[.val (.int p1), .val (.int p2), .val (.int (11 : Int32)), .val (.ref a_API_VERSIONS), .val (.int (0 : Int32)), .val (.int (3 : Int32))] [(.int (1 : Int32))])) _
    refine XS.ifNo X5.here hx rfl (hb hby at_270) rfl ((if0 _ _).trans (feq (by decide : ¬ ((1 : Int32) = (0 : Int32)))).1) ?_
    show Steps p.tables e below (T5.setTop (mkF m 273 #[.val (.int p1), .val (.int p2), .val (.int (11 : Int32)), .val (.ref a_API_VERSIONS), .val (.int (0 : Int32)), .val (.int (3 : Int32))] [])) _
    refine XS.aloadN X5.here hx rfl (hb hby at_273) rfl rfl ?_
    show Steps p.tables e below (T5.setTop (mkF m 274 #[.val (.int p1), .val (.int p2), .val (.int (11 : Int32)), .val (.ref a_API_VERSIONS), .val (.int (0 : Int32)), .val (.int (3 : Int32))] [(.ref a_API_VERSIONS)])) _
    refine XS.iload X5.here hx rfl (hb hby at_274) rfl ?_
    show Steps p.tables e below (T5.setTop (mkF m 276 #[.val (.int p1), .val (.int p2), .val (.int (11 : Int32)), .val (.ref a_API_VERSIONS), .val (.int (0 : Int32)), .val (.int (3 : Int32))] [(.int (0 : Int32)), (.ref a_API_VERSIONS)])) _
    refine XS.iload X5.here hx rfl (hb hby at_276) rfl ?_
    show Steps p.tables e below (T5.setTop (mkF m 278 #[.val (.int p1), .val (.int p2), .val (.int (11 : Int32)), .val (.ref a_API_VERSIONS), .val (.int (0 : Int32)), .val (.int (3 : Int32))] [(.int (3 : Int32)), (.int (0 : Int32)), (.ref a_API_VERSIONS)])) _
    refine XS.iload X5.here hx rfl (hb hby at_278) rfl ?_
    show Steps p.tables e below (T5.setTop (mkF m 280 #[.val (.int p1), .val (.int p2), .val (.int (11 : Int32)), .val (.ref a_API_VERSIONS), .val (.int (0 : Int32)), .val (.int (3 : Int32))] [(.int (3 : Int32)), (.int (3 : Int32)), (.int (0 : Int32)), (.ref a_API_VERSIONS)])) _
    refine XS.iconst X5.here hx rfl (hb hby at_280) ?_
    show Steps p.tables e below (T5.setTop (mkF m 281 #[.val (.int p1), .val (.int p2), .val (.int (11 : Int32)), .val (.ref a_API_VERSIONS), .val (.int (0 : Int32)), .val (.int (3 : Int32))] [(.int (1 : Int32)), (.int (3 : Int32)), (.int (3 : Int32)), (.int (0 : Int32)), (.ref a_API_VERSIONS)])) _
    refine XS.iadd X5.here hx rfl (hb hby at_281) rfl ?_
    show Steps p.tables e below (T5.setTop (mkF m 282 #[.val (.int p1), .val (.int p2), .val (.int (11 : Int32)), .val (.ref a_API_VERSIONS), .val (.int (0 : Int32)), .val (.int (3 : Int32))] [(.int ((3 : Int32) + (1 : Int32))), (.int (3 : Int32)), (.int (0 : Int32)), (.ref a_API_VERSIONS)])) _
    refine st6 _ ?_
    show Steps p.tables e below (T6.setTop (mkF m 285 #[.val (.int p1), .val (.int p2), .val (.int (11 : Int32)), .val (.ref a_API_VERSIONS), .val (.int (0 : Int32)), .val (.int (3 : Int32))] [(.int (1 : Int32))])) _
    refine XS.ifNo X6.here hx rfl (hb hby at_285) rfl ((if0 _ _).trans (feq (by decide : ¬ ((1 : Int32) = (0 : Int32)))).1) ?_
    show Steps p.tables e below (T6.setTop (mkF m 288 #[.val (.int p1), .val (.int p2), .val (.int (11 : Int32)), .val (.ref a_API_VERSIONS), .val (.int (0 : Int32)), .val (.int (3 : Int32))] [])) _
    refine XS.iconst X6.here hx rfl (hb hby at_288) ?_
    show Steps p.tables e below (T6.setTop (mkF m 289 #[.val (.int p1), .val (.int p2), .val (.int (11 : Int32)), .val (.ref a_API_VERSIONS), .val (.int (0 : Int32)), .val (.int (3 : Int32))] [(.int (1 : Int32))])) _
    refine XS.goto X6.here hx rfl (pc0 := 289) (pc' := 293) rfl (hb hby at_289) (by decide) (by decide) ?_
    show Steps p.tables e below (T6.setTop (mkF m 293 #[.val (.int p1), .val (.int p2), .val (.int (11 : Int32)), .val (.ref a_API_VERSIONS), .val (.int (0 : Int32)), .val (.int (3 : Int32))] [(.int (1 : Int32))])) _
    exact retN X6 hx (t := .boolean) Bd.returns (by simp) (hb hby at_293) hr
  · exact ⟨rfl, N6⟩
theorem own_split (p : Int32) : ((p &&& (2147483647 : Int32)) % (12 : Int32)) = 0 ∨ ((p &&& (2147483647 : Int32)) % (12 : Int32)) = 1 ∨ ((p &&& (2147483647 : Int32)) % (12 : Int32)) = 2 ∨ ((p &&& (2147483647 : Int32)) % (12 : Int32)) = 3 ∨ ((p &&& (2147483647 : Int32)) % (12 : Int32)) = 4 ∨ ((p &&& (2147483647 : Int32)) % (12 : Int32)) = 5 ∨ ((p &&& (2147483647 : Int32)) % (12 : Int32)) = 6 ∨ ((p &&& (2147483647 : Int32)) % (12 : Int32)) = 7 ∨ ((p &&& (2147483647 : Int32)) % (12 : Int32)) = 8 ∨ ((p &&& (2147483647 : Int32)) % (12 : Int32)) = 9 ∨ ((p &&& (2147483647 : Int32)) % (12 : Int32)) = 10 ∨ ((p &&& (2147483647 : Int32)) % (12 : Int32)) = 11 := by
  have e := Jvm.Kit.i32_mask p 2147483647 (k := 31) (by decide) (by decide)
  have e0 : (0 : Int32).toInt = 0 := rfl
  have e1 : (1 : Int32).toInt = 1 := rfl
  have e2 : (2 : Int32).toInt = 2 := rfl
  have e3 : (3 : Int32).toInt = 3 := rfl
  have e4 : (4 : Int32).toInt = 4 := rfl
  have e5 : (5 : Int32).toInt = 5 := rfl
  have e6 : (6 : Int32).toInt = 6 := rfl
  have e7 : (7 : Int32).toInt = 7 := rfl
  have e8 : (8 : Int32).toInt = 8 := rfl
  have e9 : (9 : Int32).toInt = 9 := rfl
  have e10 : (10 : Int32).toInt = 10 := rfl
  have e11 : (11 : Int32).toInt = 11 := rfl
  have e12 : (12 : Int32).toInt = 12 := rfl
  have f := Jvm.Kit.i32_rem_nonneg (x := p &&& 2147483647) (y := 12) (by omega)
  simp only [← Int32.toInt_inj, f, e0, e1, e2, e3, e4, e5, e6, e7, e8, e9, e10, e11, e12]
  omega
theorem rmAll (l : Launch) (Z : State) (a0 : Array Value) (hw : ∀ d ∈ tables_1, d.before a0 Z = true) (ws : List Jvm.Cond) (a_PRODUCE : Addr) (a_LIST_OFFSETS : Addr) (a_HEARTBEAT : Addr) (a_OFFSET_COMMIT : Addr) (a_FETCH : Addr) (a_FIND_COORDINATOR : Addr) (a_API_VERSIONS : Addr) (a_METADATA : Addr) (a_LEAVE_GROUP : Addr) (a_JOIN_GROUP : Addr) (a_SYNC_GROUP : Addr) (a_OFFSET_FETCH : Addr) (p1 : Int32) (p2 : Int32) (h0 : Heap) (n0 : Nat) (Z0 : n0 ≤ h0.size) (hS : Wd Z h0 a_PRODUCE a_LIST_OFFSETS a_HEARTBEAT a_OFFSET_COMMIT a_FETCH a_FIND_COORDINATOR a_API_VERSIONS a_METADATA a_LEAVE_GROUP a_JOIN_GROUP a_SYNC_GROUP a_OFFSET_FETCH) :
    MetFree l x (head1 (Jvm.Cond.code x code maxLocals ret :: ws) room_1) (fun a U => a = #[(.int p1), (.int p2)] ∧ Z.Warmed39 U.vm ∧ U.heap = h0) (fun _ _ _ _ _ => True) (fun _ U o U' => ∃ v L, o = .returned v ∧ Q0 n0 v L ∧ FrameEnd U o U' L room_1.cells room_1.slots) := by
  rcases own_split p1 with hi | hi | hi | hi | hi | hi | hi | hi | hi | hi | hi | hi
  · exact rm0_7 l Z a0 hw ws a_PRODUCE a_LIST_OFFSETS a_HEARTBEAT a_OFFSET_COMMIT a_FETCH a_FIND_COORDINATOR a_API_VERSIONS a_METADATA a_LEAVE_GROUP a_JOIN_GROUP a_SYNC_GROUP a_OFFSET_FETCH p1 p2 h0 n0 Z0 hS hi
  · exact rm0_8 l Z a0 hw ws a_PRODUCE a_LIST_OFFSETS a_HEARTBEAT a_OFFSET_COMMIT a_FETCH a_FIND_COORDINATOR a_API_VERSIONS a_METADATA a_LEAVE_GROUP a_JOIN_GROUP a_SYNC_GROUP a_OFFSET_FETCH p1 p2 h0 n0 Z0 hS hi
  · exact rm0_9 l Z a0 hw ws a_PRODUCE a_LIST_OFFSETS a_HEARTBEAT a_OFFSET_COMMIT a_FETCH a_FIND_COORDINATOR a_API_VERSIONS a_METADATA a_LEAVE_GROUP a_JOIN_GROUP a_SYNC_GROUP a_OFFSET_FETCH p1 p2 h0 n0 Z0 hS hi
  · exact rm0_10 l Z a0 hw ws a_PRODUCE a_LIST_OFFSETS a_HEARTBEAT a_OFFSET_COMMIT a_FETCH a_FIND_COORDINATOR a_API_VERSIONS a_METADATA a_LEAVE_GROUP a_JOIN_GROUP a_SYNC_GROUP a_OFFSET_FETCH p1 p2 h0 n0 Z0 hS hi
  · exact rm0_11 l Z a0 hw ws a_PRODUCE a_LIST_OFFSETS a_HEARTBEAT a_OFFSET_COMMIT a_FETCH a_FIND_COORDINATOR a_API_VERSIONS a_METADATA a_LEAVE_GROUP a_JOIN_GROUP a_SYNC_GROUP a_OFFSET_FETCH p1 p2 h0 n0 Z0 hS hi
  · exact rm0_12 l Z a0 hw ws a_PRODUCE a_LIST_OFFSETS a_HEARTBEAT a_OFFSET_COMMIT a_FETCH a_FIND_COORDINATOR a_API_VERSIONS a_METADATA a_LEAVE_GROUP a_JOIN_GROUP a_SYNC_GROUP a_OFFSET_FETCH p1 p2 h0 n0 Z0 hS hi
  · exact rm0_13 l Z a0 hw ws a_PRODUCE a_LIST_OFFSETS a_HEARTBEAT a_OFFSET_COMMIT a_FETCH a_FIND_COORDINATOR a_API_VERSIONS a_METADATA a_LEAVE_GROUP a_JOIN_GROUP a_SYNC_GROUP a_OFFSET_FETCH p1 p2 h0 n0 Z0 hS hi
  · exact rm0_14 l Z a0 hw ws a_PRODUCE a_LIST_OFFSETS a_HEARTBEAT a_OFFSET_COMMIT a_FETCH a_FIND_COORDINATOR a_API_VERSIONS a_METADATA a_LEAVE_GROUP a_JOIN_GROUP a_SYNC_GROUP a_OFFSET_FETCH p1 p2 h0 n0 Z0 hS hi
  · exact rm0_15 l Z a0 hw ws a_PRODUCE a_LIST_OFFSETS a_HEARTBEAT a_OFFSET_COMMIT a_FETCH a_FIND_COORDINATOR a_API_VERSIONS a_METADATA a_LEAVE_GROUP a_JOIN_GROUP a_SYNC_GROUP a_OFFSET_FETCH p1 p2 h0 n0 Z0 hS hi
  · exact rm0_16 l Z a0 hw ws a_PRODUCE a_LIST_OFFSETS a_HEARTBEAT a_OFFSET_COMMIT a_FETCH a_FIND_COORDINATOR a_API_VERSIONS a_METADATA a_LEAVE_GROUP a_JOIN_GROUP a_SYNC_GROUP a_OFFSET_FETCH p1 p2 h0 n0 Z0 hS hi
  · exact rm0_17 l Z a0 hw ws a_PRODUCE a_LIST_OFFSETS a_HEARTBEAT a_OFFSET_COMMIT a_FETCH a_FIND_COORDINATOR a_API_VERSIONS a_METADATA a_LEAVE_GROUP a_JOIN_GROUP a_SYNC_GROUP a_OFFSET_FETCH p1 p2 h0 n0 Z0 hS hi
  · exact rm0_18 l Z a0 hw ws a_PRODUCE a_LIST_OFFSETS a_HEARTBEAT a_OFFSET_COMMIT a_FETCH a_FIND_COORDINATOR a_API_VERSIONS a_METADATA a_LEAVE_GROUP a_JOIN_GROUP a_SYNC_GROUP a_OFFSET_FETCH p1 p2 h0 n0 Z0 hS hi
set_option maxRecDepth 65536 in
set_option maxHeartbeats 40000000 in
theorem comes_1 {Post : Tables → Env → Array Value → State → Outcome → State → Prop} (hpost : ∀ tb e args s v u, (limb_1_1.after args s (.returned v) u = true ∧ limb_1_2.after args s (.returned v) u = true ∧ True) → FrameEnd s (.returned v) u (Jvm.fieldLocs frame_1_writes args s ++ Jvm.arrayLocs frame_1_arrays args s ++ Jvm.staticLocs frame_1_statics s) 0 0 → Post tb e args s (.returned v) u) :
    ArmFor flags0 classFile x code maxLocals ret World_1 tables_1 room_1 Calls_1 rest_1 Pre_1 Post := by
  intro l hfl _ _ p e ha hc hk s m args below hf hA hF happ hP
  obtain ⟨hcalls, hrest, hpre⟩ := hP
  obtain ⟨-, -, -, hnamed, -, -, -, hat⟩ := (Spec.applies_iff hf).mp happ
  obtain ⟨hg, hn⟩ := and_e (Cond.before_iff.mp (show (Jvm.Cond.and given_1 narrow_1).before args s = true from hpre))
  obtain ⟨hg0, hgr0⟩ := and_e hg
  obtain ⟨hg1, hgr1⟩ := and_e hgr0
  obtain ⟨w0, w1, rfl⟩ : ∃ w0 w1 : Value, args = #[w0, w1] := by
    have hs : args.size = 2 := by simpa [Cond.value, given_1] using hg0
    obtain ⟨L⟩ := args
    match L, hs with
    | [w0, w1], _ => exact ⟨w0, w1, rfl⟩
  have hw := fun d (hd : d ∈ tables_1) => atoms_spec (ws := Jvm.Cond.code x code maxLocals ret :: tables_1) hat d (List.mem_cons_of_mem _ hd)
  obtain ⟨i0, ei0⟩ := is_v hg1
  obtain rfl : w0 = (.int i0) := Option.some.inj ei0
  obtain ⟨i1, ei1⟩ := is_v hgr1
  obtain rfl : w1 = (.int i1) := Option.some.inj ei1
  obtain ⟨hn0, hr0⟩ := and_e hn
  obtain ⟨hn1, hr1⟩ := and_e hr0
  obtain ⟨hn2, hr2⟩ := and_e hr1
  obtain ⟨hn3, hr3⟩ := and_e hr2
  obtain ⟨hn4, hr4⟩ := and_e hr3
  obtain ⟨hn5, hr5⟩ := and_e hr4
  obtain ⟨hn6, hr6⟩ := and_e hr5
  obtain ⟨hn7, hr7⟩ := and_e hr6
  obtain ⟨hn8, hr8⟩ := and_e hr7
  obtain ⟨hn9, hr9⟩ := and_e hr8
  obtain ⟨hn10, hr10⟩ := and_e hr9
  obtain ⟨hn11, hr11⟩ := and_e hr10
  obtain ⟨hn12, hr12⟩ := and_e hr11
  obtain ⟨hn13, hr13⟩ := and_e hr12
  obtain ⟨hn14, hr14⟩ := and_e hr13
  obtain ⟨hn15, hr15⟩ := and_e hr14
  obtain ⟨hn16, hr16⟩ := and_e hr15
  obtain ⟨hn17, hr17⟩ := and_e hr16
  obtain ⟨hn18, hr18⟩ := and_e hr17
  obtain ⟨hn19, hr19⟩ := and_e hr18
  obtain ⟨hn20, hr20⟩ := and_e hr19
  obtain ⟨hn21, hr21⟩ := and_e hr20
  obtain ⟨hn22, hr22⟩ := and_e hr21
  obtain ⟨hn23, hr23⟩ := and_e hr22
  obtain ⟨hn24, hr24⟩ := and_e hr23
  obtain ⟨hn25, hr25⟩ := and_e hr24
  obtain ⟨hn26, hr26⟩ := and_e hr25
  obtain ⟨hn27, hr27⟩ := and_e hr26
  obtain ⟨hn28, hr28⟩ := and_e hr27
  obtain ⟨hn29, hr29⟩ := and_e hr28
  obtain ⟨hn30, hr30⟩ := and_e hr29
  obtain ⟨hn31, hr31⟩ := and_e hr30
  obtain ⟨hn32, hr32⟩ := and_e hr31
  obtain ⟨hn33, hr33⟩ := and_e hr32
  obtain ⟨hn34, hr34⟩ := and_e hr33
  obtain ⟨a_PRODUCE, ev_PRODUCE⟩ := exa_v hn0
  have S_PRODUCE : Sta s s.heap "com/example/keelstream/keelstream/ApiKey" "PRODUCE" "Lcom/example/keelstream/keelstream/ApiKey;" (.ref a_PRODUCE) := Sta.start ev_PRODUCE (Or.inr ⟨(hw _ (List.mem_of_getElem? (i := 2) rfl)), (hw _ (List.mem_of_getElem? (i := 3) rfl))⟩)
  have E_PRODUCE : Exa s s.heap a_PRODUCE "com/example/keelstream/keelstream/ApiKey" := Exa.start ev_PRODUCE hn0
  obtain ⟨a_LIST_OFFSETS, ev_LIST_OFFSETS⟩ := exa_v hn3
  have S_LIST_OFFSETS : Sta s s.heap "com/example/keelstream/keelstream/ApiKey" "LIST_OFFSETS" "Lcom/example/keelstream/keelstream/ApiKey;" (.ref a_LIST_OFFSETS) := Sta.start ev_LIST_OFFSETS (Or.inr ⟨(hw _ (List.mem_of_getElem? (i := 2) rfl)), (hw _ (List.mem_of_getElem? (i := 18) rfl))⟩)
  have E_LIST_OFFSETS : Exa s s.heap a_LIST_OFFSETS "com/example/keelstream/keelstream/ApiKey" := Exa.start ev_LIST_OFFSETS hn3
  obtain ⟨a_HEARTBEAT, ev_HEARTBEAT⟩ := exa_v hn6
  have S_HEARTBEAT : Sta s s.heap "com/example/keelstream/keelstream/ApiKey" "HEARTBEAT" "Lcom/example/keelstream/keelstream/ApiKey;" (.ref a_HEARTBEAT) := Sta.start ev_HEARTBEAT (Or.inr ⟨(hw _ (List.mem_of_getElem? (i := 2) rfl)), (hw _ (List.mem_of_getElem? (i := 20) rfl))⟩)
  have E_HEARTBEAT : Exa s s.heap a_HEARTBEAT "com/example/keelstream/keelstream/ApiKey" := Exa.start ev_HEARTBEAT hn6
  obtain ⟨a_OFFSET_COMMIT, ev_OFFSET_COMMIT⟩ := exa_v hn9
  have S_OFFSET_COMMIT : Sta s s.heap "com/example/keelstream/keelstream/ApiKey" "OFFSET_COMMIT" "Lcom/example/keelstream/keelstream/ApiKey;" (.ref a_OFFSET_COMMIT) := Sta.start ev_OFFSET_COMMIT (Or.inr ⟨(hw _ (List.mem_of_getElem? (i := 2) rfl)), (hw _ (List.mem_of_getElem? (i := 22) rfl))⟩)
  have E_OFFSET_COMMIT : Exa s s.heap a_OFFSET_COMMIT "com/example/keelstream/keelstream/ApiKey" := Exa.start ev_OFFSET_COMMIT hn9
  obtain ⟨a_FETCH, ev_FETCH⟩ := exa_v hn12
  have S_FETCH : Sta s s.heap "com/example/keelstream/keelstream/ApiKey" "FETCH" "Lcom/example/keelstream/keelstream/ApiKey;" (.ref a_FETCH) := Sta.start ev_FETCH (Or.inr ⟨(hw _ (List.mem_of_getElem? (i := 2) rfl)), (hw _ (List.mem_of_getElem? (i := 24) rfl))⟩)
  have E_FETCH : Exa s s.heap a_FETCH "com/example/keelstream/keelstream/ApiKey" := Exa.start ev_FETCH hn12
  obtain ⟨a_FIND_COORDINATOR, ev_FIND_COORDINATOR⟩ := exa_v hn15
  have S_FIND_COORDINATOR : Sta s s.heap "com/example/keelstream/keelstream/ApiKey" "FIND_COORDINATOR" "Lcom/example/keelstream/keelstream/ApiKey;" (.ref a_FIND_COORDINATOR) := Sta.start ev_FIND_COORDINATOR (Or.inr ⟨(hw _ (List.mem_of_getElem? (i := 2) rfl)), (hw _ (List.mem_of_getElem? (i := 26) rfl))⟩)
  have E_FIND_COORDINATOR : Exa s s.heap a_FIND_COORDINATOR "com/example/keelstream/keelstream/ApiKey" := Exa.start ev_FIND_COORDINATOR hn15
  obtain ⟨a_API_VERSIONS, ev_API_VERSIONS⟩ := exa_v hn18
  have S_API_VERSIONS : Sta s s.heap "com/example/keelstream/keelstream/ApiKey" "API_VERSIONS" "Lcom/example/keelstream/keelstream/ApiKey;" (.ref a_API_VERSIONS) := Sta.start ev_API_VERSIONS (Or.inr ⟨(hw _ (List.mem_of_getElem? (i := 2) rfl)), (hw _ (List.mem_of_getElem? (i := 28) rfl))⟩)
  have E_API_VERSIONS : Exa s s.heap a_API_VERSIONS "com/example/keelstream/keelstream/ApiKey" := Exa.start ev_API_VERSIONS hn18
  obtain ⟨a_METADATA, ev_METADATA⟩ := exa_v hn21
  have S_METADATA : Sta s s.heap "com/example/keelstream/keelstream/ApiKey" "METADATA" "Lcom/example/keelstream/keelstream/ApiKey;" (.ref a_METADATA) := Sta.start ev_METADATA (Or.inr ⟨(hw _ (List.mem_of_getElem? (i := 2) rfl)), (hw _ (List.mem_of_getElem? (i := 30) rfl))⟩)
  have E_METADATA : Exa s s.heap a_METADATA "com/example/keelstream/keelstream/ApiKey" := Exa.start ev_METADATA hn21
  obtain ⟨a_LEAVE_GROUP, ev_LEAVE_GROUP⟩ := exa_v hn24
  have S_LEAVE_GROUP : Sta s s.heap "com/example/keelstream/keelstream/ApiKey" "LEAVE_GROUP" "Lcom/example/keelstream/keelstream/ApiKey;" (.ref a_LEAVE_GROUP) := Sta.start ev_LEAVE_GROUP (Or.inr ⟨(hw _ (List.mem_of_getElem? (i := 2) rfl)), (hw _ (List.mem_of_getElem? (i := 32) rfl))⟩)
  have E_LEAVE_GROUP : Exa s s.heap a_LEAVE_GROUP "com/example/keelstream/keelstream/ApiKey" := Exa.start ev_LEAVE_GROUP hn24
  obtain ⟨a_JOIN_GROUP, ev_JOIN_GROUP⟩ := exa_v hn27
  have S_JOIN_GROUP : Sta s s.heap "com/example/keelstream/keelstream/ApiKey" "JOIN_GROUP" "Lcom/example/keelstream/keelstream/ApiKey;" (.ref a_JOIN_GROUP) := Sta.start ev_JOIN_GROUP (Or.inr ⟨(hw _ (List.mem_of_getElem? (i := 2) rfl)), (hw _ (List.mem_of_getElem? (i := 34) rfl))⟩)
  have E_JOIN_GROUP : Exa s s.heap a_JOIN_GROUP "com/example/keelstream/keelstream/ApiKey" := Exa.start ev_JOIN_GROUP hn27
  obtain ⟨a_SYNC_GROUP, ev_SYNC_GROUP⟩ := exa_v hn30
  have S_SYNC_GROUP : Sta s s.heap "com/example/keelstream/keelstream/ApiKey" "SYNC_GROUP" "Lcom/example/keelstream/keelstream/ApiKey;" (.ref a_SYNC_GROUP) := Sta.start ev_SYNC_GROUP (Or.inr ⟨(hw _ (List.mem_of_getElem? (i := 2) rfl)), (hw _ (List.mem_of_getElem? (i := 36) rfl))⟩)
  have E_SYNC_GROUP : Exa s s.heap a_SYNC_GROUP "com/example/keelstream/keelstream/ApiKey" := Exa.start ev_SYNC_GROUP hn30
  obtain ⟨a_OFFSET_FETCH, ev_OFFSET_FETCH⟩ := exa_v hn33
  have S_OFFSET_FETCH : Sta s s.heap "com/example/keelstream/keelstream/ApiKey" "OFFSET_FETCH" "Lcom/example/keelstream/keelstream/ApiKey;" (.ref a_OFFSET_FETCH) := Sta.start ev_OFFSET_FETCH (Or.inr ⟨(hw _ (List.mem_of_getElem? (i := 2) rfl)), (hw _ (List.mem_of_getElem? (i := 38) rfl))⟩)
  have E_OFFSET_FETCH : Exa s s.heap a_OFFSET_FETCH "com/example/keelstream/keelstream/ApiKey" := Exa.start ev_OFFSET_FETCH hn33
  have F_PRODUCE_minVersion : Fld s s.heap a_PRODUCE "com/example/keelstream/keelstream/ApiKey" "minVersion" "S" (.int (3 : Int32)) := own_fldI ev_PRODUCE hn1
  have F_PRODUCE_maxVersion : Fld s s.heap a_PRODUCE "com/example/keelstream/keelstream/ApiKey" "maxVersion" "S" (.int (3 : Int32)) := own_fldI ev_PRODUCE hn2
  have F_LIST_OFFSETS_minVersion : Fld s s.heap a_LIST_OFFSETS "com/example/keelstream/keelstream/ApiKey" "minVersion" "S" (.int (1 : Int32)) := own_fldI ev_LIST_OFFSETS hn4
  have F_LIST_OFFSETS_maxVersion : Fld s s.heap a_LIST_OFFSETS "com/example/keelstream/keelstream/ApiKey" "maxVersion" "S" (.int (1 : Int32)) := own_fldI ev_LIST_OFFSETS hn5
  have F_HEARTBEAT_minVersion : Fld s s.heap a_HEARTBEAT "com/example/keelstream/keelstream/ApiKey" "minVersion" "S" (.int (0 : Int32)) := own_fldI ev_HEARTBEAT hn7
  have F_HEARTBEAT_maxVersion : Fld s s.heap a_HEARTBEAT "com/example/keelstream/keelstream/ApiKey" "maxVersion" "S" (.int (0 : Int32)) := own_fldI ev_HEARTBEAT hn8
  have F_OFFSET_COMMIT_minVersion : Fld s s.heap a_OFFSET_COMMIT "com/example/keelstream/keelstream/ApiKey" "minVersion" "S" (.int (2 : Int32)) := own_fldI ev_OFFSET_COMMIT hn10
  have F_OFFSET_COMMIT_maxVersion : Fld s s.heap a_OFFSET_COMMIT "com/example/keelstream/keelstream/ApiKey" "maxVersion" "S" (.int (2 : Int32)) := own_fldI ev_OFFSET_COMMIT hn11
  have F_FETCH_minVersion : Fld s s.heap a_FETCH "com/example/keelstream/keelstream/ApiKey" "minVersion" "S" (.int (4 : Int32)) := own_fldI ev_FETCH hn13
  have F_FETCH_maxVersion : Fld s s.heap a_FETCH "com/example/keelstream/keelstream/ApiKey" "maxVersion" "S" (.int (4 : Int32)) := own_fldI ev_FETCH hn14
  have F_FIND_COORDINATOR_minVersion : Fld s s.heap a_FIND_COORDINATOR "com/example/keelstream/keelstream/ApiKey" "minVersion" "S" (.int (0 : Int32)) := own_fldI ev_FIND_COORDINATOR hn16
  have F_FIND_COORDINATOR_maxVersion : Fld s s.heap a_FIND_COORDINATOR "com/example/keelstream/keelstream/ApiKey" "maxVersion" "S" (.int (1 : Int32)) := own_fldI ev_FIND_COORDINATOR hn17
  have F_API_VERSIONS_minVersion : Fld s s.heap a_API_VERSIONS "com/example/keelstream/keelstream/ApiKey" "minVersion" "S" (.int (0 : Int32)) := own_fldI ev_API_VERSIONS hn19
  have F_API_VERSIONS_maxVersion : Fld s s.heap a_API_VERSIONS "com/example/keelstream/keelstream/ApiKey" "maxVersion" "S" (.int (3 : Int32)) := own_fldI ev_API_VERSIONS hn20
  have F_METADATA_minVersion : Fld s s.heap a_METADATA "com/example/keelstream/keelstream/ApiKey" "minVersion" "S" (.int (0 : Int32)) := own_fldI ev_METADATA hn22
  have F_METADATA_maxVersion : Fld s s.heap a_METADATA "com/example/keelstream/keelstream/ApiKey" "maxVersion" "S" (.int (1 : Int32)) := own_fldI ev_METADATA hn23
  have F_LEAVE_GROUP_minVersion : Fld s s.heap a_LEAVE_GROUP "com/example/keelstream/keelstream/ApiKey" "minVersion" "S" (.int (0 : Int32)) := own_fldI ev_LEAVE_GROUP hn25
  have F_LEAVE_GROUP_maxVersion : Fld s s.heap a_LEAVE_GROUP "com/example/keelstream/keelstream/ApiKey" "maxVersion" "S" (.int (0 : Int32)) := own_fldI ev_LEAVE_GROUP hn26
  have F_JOIN_GROUP_minVersion : Fld s s.heap a_JOIN_GROUP "com/example/keelstream/keelstream/ApiKey" "minVersion" "S" (.int (0 : Int32)) := own_fldI ev_JOIN_GROUP hn28
  have F_JOIN_GROUP_maxVersion : Fld s s.heap a_JOIN_GROUP "com/example/keelstream/keelstream/ApiKey" "maxVersion" "S" (.int (1 : Int32)) := own_fldI ev_JOIN_GROUP hn29
  have F_SYNC_GROUP_minVersion : Fld s s.heap a_SYNC_GROUP "com/example/keelstream/keelstream/ApiKey" "minVersion" "S" (.int (0 : Int32)) := own_fldI ev_SYNC_GROUP hn31
  have F_SYNC_GROUP_maxVersion : Fld s s.heap a_SYNC_GROUP "com/example/keelstream/keelstream/ApiKey" "maxVersion" "S" (.int (0 : Int32)) := own_fldI ev_SYNC_GROUP hn32
  have F_OFFSET_FETCH_minVersion : Fld s s.heap a_OFFSET_FETCH "com/example/keelstream/keelstream/ApiKey" "minVersion" "S" (.int (1 : Int32)) := own_fldI ev_OFFSET_FETCH hn34
  have F_OFFSET_FETCH_maxVersion : Fld s s.heap a_OFFSET_FETCH "com/example/keelstream/keelstream/ApiKey" "maxVersion" "S" (.int (1 : Int32)) := own_fldI ev_OFFSET_FETCH hr34
  have hS : Wd s s.heap a_PRODUCE a_LIST_OFFSETS a_HEARTBEAT a_OFFSET_COMMIT a_FETCH a_FIND_COORDINATOR a_API_VERSIONS a_METADATA a_LEAVE_GROUP a_JOIN_GROUP a_SYNC_GROUP a_OFFSET_FETCH := ⟨S_PRODUCE, E_PRODUCE, S_LIST_OFFSETS, E_LIST_OFFSETS, S_HEARTBEAT, E_HEARTBEAT, S_OFFSET_COMMIT, E_OFFSET_COMMIT, S_FETCH, E_FETCH, S_FIND_COORDINATOR, E_FIND_COORDINATOR, S_API_VERSIONS, E_API_VERSIONS, S_METADATA, E_METADATA, S_LEAVE_GROUP, E_LEAVE_GROUP, S_JOIN_GROUP, E_JOIN_GROUP, S_SYNC_GROUP, E_SYNC_GROUP, S_OFFSET_FETCH, E_OFFSET_FETCH, F_PRODUCE_minVersion, F_PRODUCE_maxVersion, F_LIST_OFFSETS_minVersion, F_LIST_OFFSETS_maxVersion, F_HEARTBEAT_minVersion, F_HEARTBEAT_maxVersion, F_OFFSET_COMMIT_minVersion, F_OFFSET_COMMIT_maxVersion, F_FETCH_minVersion, F_FETCH_maxVersion, F_FIND_COORDINATOR_minVersion, F_FIND_COORDINATOR_maxVersion, F_API_VERSIONS_minVersion, F_API_VERSIONS_maxVersion, F_METADATA_minVersion, F_METADATA_maxVersion, F_LEAVE_GROUP_minVersion, F_LEAVE_GROUP_maxVersion, F_JOIN_GROUP_minVersion, F_JOIN_GROUP_maxVersion, F_SYNC_GROUP_minVersion, F_SYNC_GROUP_maxVersion, F_OFFSET_FETCH_minVersion, F_OFFSET_FETCH_maxVersion⟩
  obtain ⟨n, o, h1, h2, h3, _, L, rfl, ⟨rfl, N⟩, hq⟩ := rmAll l s _ hw tables_1 a_PRODUCE a_LIST_OFFSETS a_HEARTBEAT a_OFFSET_COMMIT a_FETCH a_FIND_COORDINATOR a_API_VERSIONS a_METADATA a_LEAVE_GROUP a_JOIN_GROUP a_SYNC_GROUP a_OFFSET_FETCH i0 i1 s.heap s.heap.size (Nat.le_refl _) hS p e ha hc hk s m _ below hf ((Spec.applies_iff_loose hf).mp happ).1 ⟨rfl, State.Warmed39.refl s, rfl⟩ trivial
  refine ⟨n, _, h1, h2, h3, hpost _ _ _ _ _ _ ⟨Cond.after_iff.mpr rfl, Cond.after_iff.mpr (eq_i res_at (Term.int_eval (1)) rfl), trivial⟩ ⟨hq.1, hq.2.1, (hq.2.2.sift fun y hy => Or.inr (N y hy)).mono (by decide) (by decide)⟩⟩
theorem main_1_1 : Claimed_1_1 := comes_1 fun _ _ _ _ _ _ h hF => ⟨h.1, hF⟩
theorem main_1_2 : Claimed_1_2 := comes_1 fun _ _ _ _ _ _ h hF => ⟨h.2.1, hF⟩
end Jvm.Pilot.@@N@@
namespace Jvm.Pilot.@@N@@
open Jvm Jvm.ClassFile Sem Op Lib Jvm.Free Jvm.Stand Jvm.Pilot.@@N@@.Jvm.D
/-! MADE BY PROGRAM (witnessworld.py) out of the Statement's table words and the real class files: 10 classes; the members and pool entries that the words name. The judged class is class 1, her method 1. -/
namespace start1
open Jvm.ClassFile
def u (s : String) : CpInfo := .utf8 (stringToUtf16 s)
/-- a pool by its gaps: so many unusable entries, then the entry; so many at the end -/
def gap : Nat → List CpInfo → List CpInfo
  | 0, r => r
  | n + 1, r => .unusable :: gap n r
def poolList (es : List (Nat × CpInfo)) (last : Nat) : List CpInfo := es.foldr (fun e r => gap e.1 (e.2 :: r)) (gap last [])
def pool (es : List (Nat × CpInfo)) (last : Nat) : Array CpInfo := ⟨poolList es last⟩
def fileOf (pool : Array CpInfo) (this : Nat) (attrs : Array Attribute := #[]) (ms : Array MethodInfo := #[]) (fl : Nat := 33) (sup : Nat := 0) (ifs : Array Nat := #[]) (fds : Array FieldInfo := #[]) : ClassFile where
  minorVersion := 0
  majorVersion := 65
  constantPool := pool
  accessFlags := fl
  thisClass := this
  superClass := sup
  interfaces := ifs
  fields := fds
  methods := ms
  attributes := attrs
def plain (name : String) (sup : Option ClassId) : Class where
  name := name
  kind := .ordinary
  loader := none
  accessFlags := 33
  super := sup
  interfaces := #[]
  cf := none
  fields := #[]
  methods := #[]
  instanceTypes := #[]
  staticTypes := #[]
  resolved := #[]
  callSites := []
  init := .initialized
  statics := none
  mirror := none

def pool0 : Array CpInfo := pool [(5, u "<init>"), (0, u "()V"), (1, .class_ 10), (1, u "java/lang/Object")] 113

def k0m0 : Method := { name := "<init>", desc := "()V", sig := { parameters := [], returnType := none }, accessFlags := 1, code := none }
/-- java/lang/Object -/
def k0 : Class := { plain "java/lang/Object" none with
  accessFlags := 33
  interfaces := #[]
  cf := some (fileOf pool0 8 #[] #[{ accessFlags := 1, nameIndex := 5, descriptorIndex := 6, attributes := #[] }] 33 0 #[] #[])
  fields := #[]
  methods := #[k0m0]
  instanceTypes := #[]
  staticTypes := #[]
  resolved := Array.replicate 124 none
  statics := none }

def pool1 : Array CpInfo := pool [(2, .class_ 4), (1, u "java/lang/Object"), (0, u "<init>"), (0, u "()V"), (0, .integer 2147483647), (0, .fieldref 9 10), (0, .class_ 11), (0, .nameAndType 12 13), (0, u "com/example/keelstream/keelstream/ApiKey"), (0, u "PRODUCE"), (0, u "Lcom/example/keelstream/keelstream/ApiKey;"), (0, .fieldref 9 15), (0, .nameAndType 16 13), (0, u "FETCH"), (0, .fieldref 9 18), (0, .nameAndType 19 13), (0, u "LIST_OFFSETS"), (0, .fieldref 9 21), (0, .nameAndType 22 13), (0, u "METADATA"), (0, .fieldref 9 24), (0, .nameAndType 25 13), (0, u "OFFSET_COMMIT"), (0, .fieldref 9 27), (0, .nameAndType 28 13), (0, u "OFFSET_FETCH"), (0, .fieldref 9 30), (0, .nameAndType 31 13), (0, u "FIND_COORDINATOR"), (0, .fieldref 9 33), (0, .nameAndType 34 13), (0, u "JOIN_GROUP"), (0, .fieldref 9 36), (0, .nameAndType 37 13), (0, u "HEARTBEAT"), (0, .fieldref 9 39), (0, .nameAndType 40 13), (0, u "LEAVE_GROUP"), (0, .fieldref 9 42), (0, .nameAndType 43 13), (0, u "SYNC_GROUP"), (0, .fieldref 9 45), (0, .nameAndType 46 13), (0, u "API_VERSIONS"), (0, .methodref 48 49), (0, .class_ 50), (0, .nameAndType 51 52), (0, u "com/example/keelstream/keelstream/ApiKeySupportsPinLaw"), (0, u "ok"), (0, u "(Lcom/example/keelstream/keelstream/ApiKey;III)Z"), (0, .methodref 9 54), (0, .nameAndType 55 56), (0, u "supports"), (0, u "(S)Z"), (2, u "law"), (0, u "(II)Z")] 3

def k1m0 : Method := { name := "<init>", desc := "()V", sig := { parameters := [], returnType := none }, accessFlags := 1, code := none }
def k1c1 : Code := { maxStack := 5, maxLocals := 6, code := code, exceptionTable := #[], attributes := #[] }
def k1m1 : Method := { name := "law", desc := "(II)Z", sig := { parameters := [.int, .int], returnType := some .boolean }, accessFlags := 9, code := some k1c1 }
def k1c2 : Code := { maxStack := 2, maxLocals := 6, code := method_3_code, exceptionTable := #[], attributes := #[] }
def k1m2 : Method := { name := "ok", desc := "(Lcom/example/keelstream/keelstream/ApiKey;III)Z", sig := { parameters := [(.object "com/example/keelstream/keelstream/ApiKey"), .int, .int, .int], returnType := some .boolean }, accessFlags := 10, code := some k1c2 }
/-- com/example/keelstream/keelstream/ApiKeySupportsPinLaw -/
def k1 : Class := { plain "com/example/keelstream/keelstream/ApiKeySupportsPinLaw" (some 0) with
  accessFlags := 49
  interfaces := #[]
  cf := some (fileOf pool1 48 #[] #[{ accessFlags := 1, nameIndex := 5, descriptorIndex := 6, attributes := #[] }, { accessFlags := 9, nameIndex := 59, descriptorIndex := 60, attributes := #[] }, { accessFlags := 10, nameIndex := 51, descriptorIndex := 52, attributes := #[] }] 49 2 #[] #[])
  fields := #[]
  methods := #[k1m0, k1m1, k1m2]
  instanceTypes := #[]
  staticTypes := #[]
  resolved := Array.replicate 64 none
  statics := none }

def pool2 : Array CpInfo := pool [(1, .class_ 2), (0, u "java/lang/constant/Constable"), (0, .class_ 4), (0, u "java/lang/Object")] 6

/-- java/lang/constant/Constable -/
def k2 : Class := { plain "java/lang/constant/Constable" (some 0) with
  accessFlags := 1537
  interfaces := #[]
  cf := some (fileOf pool2 1 #[] #[] 1537 3 #[] #[])
  fields := #[]
  methods := #[]
  instanceTypes := #[]
  staticTypes := #[]
  resolved := Array.replicate 11 none
  statics := none }

def pool3 : Array CpInfo := pool [(1, .class_ 2), (0, u "java/lang/Comparable"), (0, .class_ 4), (0, u "java/lang/Object")] 7

/-- java/lang/Comparable -/
def k3 : Class := { plain "java/lang/Comparable" (some 0) with
  accessFlags := 1537
  interfaces := #[]
  cf := some (fileOf pool3 1 #[] #[] 1537 3 #[] #[])
  fields := #[]
  methods := #[]
  instanceTypes := #[]
  staticTypes := #[]
  resolved := Array.replicate 12 none
  statics := none }

def pool4 : Array CpInfo := pool [(1, .class_ 2), (0, u "java/io/Serializable"), (0, .class_ 4), (0, u "java/lang/Object")] 2

/-- java/io/Serializable -/
def k4 : Class := { plain "java/io/Serializable" (some 0) with
  accessFlags := 1537
  interfaces := #[]
  cf := some (fileOf pool4 1 #[] #[] 1537 3 #[] #[])
  fields := #[]
  methods := #[]
  instanceTypes := #[]
  staticTypes := #[]
  resolved := Array.replicate 7 none
  statics := none }

def pool5 : Array CpInfo := pool [(2, .class_ 4), (1, u "java/lang/Enum"), (0, u "name"), (0, u "Ljava/lang/String;"), (2, u "ordinal"), (0, u "I"), (1, .class_ 14), (1, u "java/lang/Object"), (4, u "hash"), (86, .class_ 108), (1, u "java/lang/Enum$EnumDesc"), (2, .class_ 112), (0, u "java/lang/constant/Constable"), (0, .class_ 114), (0, u "java/lang/Comparable"), (0, .class_ 116), (0, u "java/io/Serializable")] 87

/-- java/lang/Enum -/
def k5 : Class := { plain "java/lang/Enum" (some 0) with
  accessFlags := 1057
  interfaces := #[2, 3, 4]
  cf := some (fileOf pool5 2 #[.nestMembers #[106]] #[] 1057 12 #[111, 113, 115] #[{ accessFlags := 18, nameIndex := 5, descriptorIndex := 6, attributes := #[] }, { accessFlags := 18, nameIndex := 9, descriptorIndex := 10, attributes := #[] }, { accessFlags := 2, nameIndex := 19, descriptorIndex := 10, attributes := #[] }])
  fields := #[{ name := "name", type := (.object "java/lang/String"), accessFlags := 18, slot := 0, constantValue := 0 }, { name := "ordinal", type := .int, accessFlags := 18, slot := 1, constantValue := 0 }, { name := "hash", type := .int, accessFlags := 2, slot := 2, constantValue := 0 }]
  methods := #[]
  instanceTypes := #[(.object "java/lang/String"), .int, .int]
  staticTypes := #[]
  resolved := Array.replicate 204 none
  statics := none }

def pool6 : Array CpInfo := pool [(1, .class_ 2), (0, u "com/example/keelstream/keelstream/ApiKey"), (2, u "PRODUCE"), (0, u "Lcom/example/keelstream/keelstream/ApiKey;"), (2, u "FETCH"), (2, u "LIST_OFFSETS"), (2, u "METADATA"), (2, u "OFFSET_COMMIT"), (2, u "OFFSET_FETCH"), (2, u "FIND_COORDINATOR"), (2, u "JOIN_GROUP"), (2, u "HEARTBEAT"), (2, u "LEAVE_GROUP"), (2, u "SYNC_GROUP"), (2, u "API_VERSIONS"), (2, u "$VALUES"), (0, u "[Lcom/example/keelstream/keelstream/ApiKey;"), (6, .class_ 52), (1, u "java/lang/Enum"), (8, u "id"), (0, u "S"), (0, .fieldref 1 64), (0, .nameAndType 65 62), (0, u "minVersion"), (0, .fieldref 1 67), (0, .nameAndType 68 62), (0, u "maxVersion"), (2, u "firstFlexibleVersion"), (32, u "supports"), (0, u "(S)Z")] 6

def k6c0 : Code := { maxStack := 2, maxLocals := 2, code := prog_1_method_8_code, exceptionTable := #[], attributes := #[] }
def k6m0 : Method := { name := "supports", desc := "(S)Z", sig := { parameters := [.short], returnType := some .boolean }, accessFlags := 0, code := some k6c0 }
/-- com/example/keelstream/keelstream/ApiKey -/
def k6 : Class := { plain "com/example/keelstream/keelstream/ApiKey" (some 5) with
  accessFlags := 16432
  interfaces := #[]
  cf := some (fileOf pool6 1 #[] #[{ accessFlags := 0, nameIndex := 104, descriptorIndex := 105, attributes := #[] }] 16432 50 #[] #[{ accessFlags := 16409, nameIndex := 5, descriptorIndex := 6, attributes := #[] }, { accessFlags := 16409, nameIndex := 9, descriptorIndex := 6, attributes := #[] }, { accessFlags := 16409, nameIndex := 12, descriptorIndex := 6, attributes := #[] }, { accessFlags := 16409, nameIndex := 15, descriptorIndex := 6, attributes := #[] }, { accessFlags := 16409, nameIndex := 18, descriptorIndex := 6, attributes := #[] }, { accessFlags := 16409, nameIndex := 21, descriptorIndex := 6, attributes := #[] }, { accessFlags := 16409, nameIndex := 24, descriptorIndex := 6, attributes := #[] }, { accessFlags := 16409, nameIndex := 27, descriptorIndex := 6, attributes := #[] }, { accessFlags := 16409, nameIndex := 30, descriptorIndex := 6, attributes := #[] }, { accessFlags := 16409, nameIndex := 33, descriptorIndex := 6, attributes := #[] }, { accessFlags := 16409, nameIndex := 36, descriptorIndex := 6, attributes := #[] }, { accessFlags := 16409, nameIndex := 39, descriptorIndex := 6, attributes := #[] }, { accessFlags := 18, nameIndex := 61, descriptorIndex := 62, attributes := #[] }, { accessFlags := 18, nameIndex := 65, descriptorIndex := 62, attributes := #[] }, { accessFlags := 18, nameIndex := 68, descriptorIndex := 62, attributes := #[] }, { accessFlags := 18, nameIndex := 71, descriptorIndex := 62, attributes := #[] }, { accessFlags := 4122, nameIndex := 42, descriptorIndex := 43, attributes := #[] }])
  fields := #[{ name := "PRODUCE", type := (.object "com/example/keelstream/keelstream/ApiKey"), accessFlags := 16409, slot := 0, constantValue := 0 }, { name := "FETCH", type := (.object "com/example/keelstream/keelstream/ApiKey"), accessFlags := 16409, slot := 1, constantValue := 0 }, { name := "LIST_OFFSETS", type := (.object "com/example/keelstream/keelstream/ApiKey"), accessFlags := 16409, slot := 2, constantValue := 0 }, { name := "METADATA", type := (.object "com/example/keelstream/keelstream/ApiKey"), accessFlags := 16409, slot := 3, constantValue := 0 }, { name := "OFFSET_COMMIT", type := (.object "com/example/keelstream/keelstream/ApiKey"), accessFlags := 16409, slot := 4, constantValue := 0 }, { name := "OFFSET_FETCH", type := (.object "com/example/keelstream/keelstream/ApiKey"), accessFlags := 16409, slot := 5, constantValue := 0 }, { name := "FIND_COORDINATOR", type := (.object "com/example/keelstream/keelstream/ApiKey"), accessFlags := 16409, slot := 6, constantValue := 0 }, { name := "JOIN_GROUP", type := (.object "com/example/keelstream/keelstream/ApiKey"), accessFlags := 16409, slot := 7, constantValue := 0 }, { name := "HEARTBEAT", type := (.object "com/example/keelstream/keelstream/ApiKey"), accessFlags := 16409, slot := 8, constantValue := 0 }, { name := "LEAVE_GROUP", type := (.object "com/example/keelstream/keelstream/ApiKey"), accessFlags := 16409, slot := 9, constantValue := 0 }, { name := "SYNC_GROUP", type := (.object "com/example/keelstream/keelstream/ApiKey"), accessFlags := 16409, slot := 10, constantValue := 0 }, { name := "API_VERSIONS", type := (.object "com/example/keelstream/keelstream/ApiKey"), accessFlags := 16409, slot := 11, constantValue := 0 }, { name := "id", type := .short, accessFlags := 18, slot := 3, constantValue := 0 }, { name := "minVersion", type := .short, accessFlags := 18, slot := 4, constantValue := 0 }, { name := "maxVersion", type := .short, accessFlags := 18, slot := 5, constantValue := 0 }, { name := "firstFlexibleVersion", type := .short, accessFlags := 18, slot := 6, constantValue := 0 }, { name := "$VALUES", type := (.array (.object "com/example/keelstream/keelstream/ApiKey")), accessFlags := 4122, slot := 12, constantValue := 0 }]
  methods := #[k6m0]
  instanceTypes := #[(.object "java/lang/String"), .int, .int, .short, .short, .short, .short]
  staticTypes := #[(.object "com/example/keelstream/keelstream/ApiKey"), (.object "com/example/keelstream/keelstream/ApiKey"), (.object "com/example/keelstream/keelstream/ApiKey"), (.object "com/example/keelstream/keelstream/ApiKey"), (.object "com/example/keelstream/keelstream/ApiKey"), (.object "com/example/keelstream/keelstream/ApiKey"), (.object "com/example/keelstream/keelstream/ApiKey"), (.object "com/example/keelstream/keelstream/ApiKey"), (.object "com/example/keelstream/keelstream/ApiKey"), (.object "com/example/keelstream/keelstream/ApiKey"), (.object "com/example/keelstream/keelstream/ApiKey"), (.object "com/example/keelstream/keelstream/ApiKey"), (.array (.object "com/example/keelstream/keelstream/ApiKey"))]
  resolved := Array.replicate 112 none
  statics := some 0 }

def pool7 : Array CpInfo := pool [(1, u "java/lang/Cloneable"), (0, .class_ 1), (0, u "java/lang/Object"), (0, .class_ 3)] 3

/-- java/lang/Cloneable -/
def k7 : Class := { plain "java/lang/Cloneable" (some 0) with
  accessFlags := 1537
  interfaces := #[]
  cf := some (fileOf pool7 2 #[] #[] 1537 4 #[] #[])
  fields := #[]
  methods := #[]
  instanceTypes := #[]
  staticTypes := #[]
  resolved := Array.replicate 8 none
  statics := none }

/-- the primitive byte -/
def k8 : Class := { plain "byte" none with kind := .primitive 'B', accessFlags := 0x411 }
/-- [B -/
def k9 : Class := { plain "[B" (some 0) with kind := .array 8 .byte, interfaces := #[7, 4], accessFlags := 1041 }

def heap : Heap := #[{ cls := 6, slots := #[.ref 1, .ref 2, .ref 3, .ref 4, .ref 5, .ref 6, .ref 7, .ref 8, .ref 9, .ref 10, .ref 11, .ref 12, .null], vm := .statics 6 },
  { cls := 6, slots := #[.null, .int 0, .int 0, .int 0, .int 3, .int 3, .int 9], vm := .none },
  { cls := 6, slots := #[.null, .int 1, .int 0, .int 1, .int 4, .int 4, .int 9], vm := .none },
  { cls := 6, slots := #[.null, .int 2, .int 0, .int 2, .int 1, .int 1, .int 9], vm := .none },
  { cls := 6, slots := #[.null, .int 3, .int 0, .int 3, .int 0, .int 1, .int 9], vm := .none },
  { cls := 6, slots := #[.null, .int 4, .int 0, .int 4, .int 2, .int 2, .int 9], vm := .none },
  { cls := 6, slots := #[.null, .int 5, .int 0, .int 5, .int 1, .int 1, .int 9], vm := .none },
  { cls := 6, slots := #[.null, .int 6, .int 0, .int 6, .int 0, .int 1, .int 9], vm := .none },
  { cls := 6, slots := #[.null, .int 7, .int 0, .int 7, .int 0, .int 1, .int 9], vm := .none },
  { cls := 6, slots := #[.null, .int 8, .int 0, .int 8, .int 0, .int 0, .int 9], vm := .none },
  { cls := 6, slots := #[.null, .int 9, .int 0, .int 9, .int 0, .int 0, .int 9], vm := .none },
  { cls := 6, slots := #[.null, .int 10, .int 0, .int 10, .int 0, .int 0, .int 9], vm := .none },
  { cls := 6, slots := #[.null, .int 11, .int 0, .int 11, .int 0, .int 3, .int 9], vm := .none }]
def classes : Array Class := #[k0, k1, k2, k3, k4, k5, k6, k7, k8, k9]
def interned : List (Array UInt16 × Addr) := []
def slotsUsed : Nat := 97
def theMethod : MethodId := ⟨1, 1⟩
def args0 : Array Value := #[.int 5, .int 1]
def aboutOver (below : List Frame) : State where
  vm := { classes := classes, interned := interned.toArray }
  heap := heap
  slotsUsed := slotsUsed
  threads := #[{ frames := .invoking theMethod args0 :: below }]
def below0 : List Frame := [.native { method := ⟨0, 0⟩, args := #[] }]
def about1 : State := aboutOver below0
def p0 : Program := .bare "" "" ""
def e0 : Env := launch0.env 0 0 0
theorem w_frames : about1.frames = Frame.invoking theMethod args0 :: below0 := rfl
set_option maxRecDepth 65536 in
theorem w_args : argsFit about1.vm theMethod args0 = true := by decide +kernel
set_option maxRecDepth 65536 in
theorem w_heap : heapFits about1 = true := by decide +kernel
set_option maxRecDepth 65536 in
theorem w_runnable : about1.curStatus? = some .runnable := by decide +kernel
set_option maxRecDepth 65536 in
theorem w_alone : about1.alone = true := by decide +kernel
set_option maxRecDepth 65536 in
theorem w_named : about1.methodNamed? x = some theMethod := by decide +kernel
set_option maxRecDepth 65536 in
theorem w_hears : about1.hears theMethod below0 = true := by decide +kernel
set_option maxRecDepth 65536 in
theorem w_ripe : about1.ripe theMethod args0 below0 = true := by decide +kernel
theorem w_running : about1.status = .running := rfl
set_option maxRecDepth 65536 in
theorem w_room : about1.hasRoom e0.platform room_1 = true :=
  launch0.hasRoom_least _ room_1 (by decide +kernel) (by decide +kernel) (by decide +kernel) (by decide +kernel) (by decide +kernel) (by decide +kernel)
theorem allAtoms_all (ts : List Jvm.Cond) (a : Array Jvm.Value) (st : Jvm.State) : (allAtoms ts).before a st = ts.all (fun c => c.before a st) := by
  induction ts with
  | nil => rfl
  | cons c t ih =>
    show (Jvm.Cond.and c (allAtoms t)).before a st = _
    rw [Jvm.Cond.before_and, ih, List.all_cons]
def words1 : List Jvm.Cond := Jvm.Cond.code x code maxLocals ret :: tables_1
/-- a 'code' word, met by the world's own term for the bytes: nothing is compared byte by byte -/
theorem code_word {y : MethodName} {bytes : ByteArray} {mx : Nat} {rt : Option FieldType} {a : Array Value} {s : State} {m : MethodId} {meth : Method} {c : Code} (h1 : s.methodNamed? y = some m) (h2 : s.vm.method? m = some meth) (h3 : meth.code = some c) (h4 : c.code = bytes)
    (h5 : (c.maxLocals == mx && c.exceptionTable.isEmpty && decide (c.maxStack ≤ mostOperands) && decide (meth.sig.returnType = rt) && !meth.locks && decide (parseMethodDescriptor y.desc = some meth.sig)) = true) : (Jvm.Cond.code y bytes mx rt).before a s = true := by
  simp only [Bool.and_eq_true, beq_iff_eq, Bool.not_eq_true', decide_eq_true_eq] at h5
  obtain ⟨⟨⟨⟨⟨g1, g2⟩, g3⟩, g4⟩, g5⟩, g6⟩ := h5
  simp [Cond.before, Cond.holds, Cond.value, h1, h2, h3, h4, g1, g2, g3, g4, g5, g6]
def isCode : Jvm.Cond → Bool
  | .code _ _ _ _ => true
  | _ => false
theorem all_split {L : List Jvm.Cond} {P : Jvm.Cond → Bool} (h1 : L.all (fun c => isCode c || P c) = true) (h2 : ∀ c ∈ L.filter isCode, P c = true) : L.all P = true := by
  refine List.all_eq_true.mpr fun c hc => ?_
  have h := List.all_eq_true.mp h1 c hc
  rcases Bool.eq_false_or_eq_true (isCode c) with hi | hi
  · exact h2 c (List.mem_filter.mpr ⟨hc, hi⟩)
  · simpa [hi] using h
set_option maxRecDepth 65536 in
theorem w_c0 : (Jvm.Cond.code x code maxLocals ret).before args0 about1 = true := code_word (m := ⟨1, 1⟩) (meth := k1m1) (c := k1c1) (by decide +kernel) rfl rfl rfl (by decide +kernel)
set_option maxRecDepth 65536 in
theorem w_c1 : (Jvm.Cond.code ({ cls := "com/example/keelstream/keelstream/ApiKeySupportsPinLaw", name := "ok", desc := "(Lcom/example/keelstream/keelstream/ApiKey;III)Z" } : Jvm.MethodName) method_3_code (6 : Nat) (Option.some Jvm.ClassFile.FieldType.boolean)).before args0 about1 = true := code_word (m := ⟨1, 2⟩) (meth := k1m2) (c := k1c2) (by decide +kernel) rfl rfl rfl (by decide +kernel)
set_option maxRecDepth 65536 in
theorem w_c2 : (Jvm.Cond.code ({ cls := "com/example/keelstream/keelstream/ApiKey", name := "supports", desc := "(S)Z" } : Jvm.MethodName) prog_1_method_8_code (2 : Nat) (Option.some Jvm.ClassFile.FieldType.boolean)).before args0 about1 = true := code_word (m := ⟨6, 0⟩) (meth := k6m0) (c := k6c0) (by decide +kernel) rfl rfl rfl (by decide +kernel)
def codes1 : List Jvm.Cond := [Jvm.Cond.code x code maxLocals ret, Jvm.Cond.code ({ cls := "com/example/keelstream/keelstream/ApiKeySupportsPinLaw", name := "ok", desc := "(Lcom/example/keelstream/keelstream/ApiKey;III)Z" } : Jvm.MethodName) method_3_code (6 : Nat) (Option.some Jvm.ClassFile.FieldType.boolean), Jvm.Cond.code ({ cls := "com/example/keelstream/keelstream/ApiKey", name := "supports", desc := "(S)Z" } : Jvm.MethodName) prog_1_method_8_code (2 : Nat) (Option.some Jvm.ClassFile.FieldType.boolean)]
set_option maxRecDepth 65536 in
theorem codes_eq : words1.filter isCode = codes1 := rfl
theorem w_codes : ∀ c ∈ words1.filter isCode, c.before args0 about1 = true := by
  rw [codes_eq]
  intro c hc
  simp only [codes1, List.mem_cons, List.not_mem_nil, or_false] at hc
  rcases hc with rfl | rfl | rfl
  · exact w_c0
  · exact w_c1
  · exact w_c2
set_option maxRecDepth 65536 in
theorem w_t1 : (words1.take 24).all (fun c => isCode c || c.before args0 about1) = true := by decide +kernel
set_option maxRecDepth 65536 in
theorem w_t2 : (words1.drop 24).all (fun c => isCode c || c.before args0 about1) = true := by decide +kernel
theorem w_tables : (allAtoms (Jvm.Cond.code x code maxLocals ret :: tables_1)).before args0 about1 = true := by
  rw [allAtoms_all]
  show words1.all (fun c => c.before args0 about1) = true
  refine all_split ?_ w_codes
  rw [← List.take_append_drop 24 words1, List.all_append, w_t1, w_t2]
  rfl
set_option maxRecDepth 65536 in
theorem w_case : (Jvm.Cond.and given_1 narrow_1).before args0 about1 = true := by decide +kernel
theorem w_applies : (headSpec (Jvm.Cond.code x code maxLocals ret :: tables_1) room_1).applies x e0.platform about1 = true :=
  (Spec.applies_iff w_frames).mpr ⟨w_running, w_runnable, w_alone, w_named, w_hears, w_ripe, w_room, w_tables⟩
theorem atStart : AtStart classFile x code maxLocals ret World_1 tables_1 room_1 Calls_1 rest_1 Pre_1 launch0 p0 e0 about1 theMethod args0 below0 :=
  ⟨lists_1, trivial, launch0.admits_env _ _ _, launch0.least_env, fairChoices_fair.cas, fairChoices_fair.clock, w_frames, w_args, w_heap, w_applies, trivial, trivial, w_case⟩
end start1
theorem witness_1 : WitnessClaimed_1 := ⟨start1.p0, start1.e0, start1.about1, start1.theMethod, start1.args0, start1.below0, start1.atStart⟩
end Jvm.Pilot.@@N@@
