import JvmDerived
import JvmDerived.Pilot.@@N@@Statement
import JvmDerived.Pilot.@@N@@Code
set_option linter.unusedVariables false
set_option linter.unusedSimpArgs false
@@BLOCK:NumsL.lean.txt@@
namespace Jvm.RoadKit
open Sem ClassFile Op Lib Jvm.Stand Jvm.Free Jvm.LawKit
section Own
variable {p : Program} {l : Launch} {e : Env} {R : Room} {s : State} {m : MethodId} {args : Array Value} {below : List Frame} {meth : Method} {c : Code} {T : State} {locs : List Loc} {cells slots : Nat} {Z : State} {h : Heap}
theorem own_retI (X : Stand p l e R s m args below meth c T locs cells slots) (hx : p.tables.exec = Jvm.exec) {pc : Nat} {Ls : Array Slot} {z : Int32} {rest : List Value} (hret : meth.sig.returnType = some .int) (hd : decode c.code pc = .ok (.ireturn, 1)) {fs : List Frame}
    (hl : ∀ (f : JFrame) (acts : List Action), f.method = m → f.locked = none → f.entered = [] → (doReturn e (T.setTop f) acts (some (.int z))).1 = T.setFrames fs) : Steps p.tables e below (T.setTop (mkF m pc Ls (.int z :: rest))) (T.setFrames fs) := by
  have hm' : T.vm.method? m = some meth := X.method'
  have hn : narrow .int (.int z) = .int z := rfl
  show Steps p.tables e below (T.setTop { method := m, pc := pc, locals := Ls, stack := _ :: rest, locked := none }) _
  jvm_step X.here [X.here.top, hx, hd, hm', hret, hn]
  first | (intro acts; rw [hl _ acts rfl rfl rfl]) | rw [hl _ _ rfl rfl rfl]
  exact Steps.refl _
theorem own_retL (X : Stand p l e R s m args below meth c T locs cells slots) (hx : p.tables.exec = Jvm.exec) {pc : Nat} {Ls : Array Slot} {z : Int64} {rest : List Value} (hret : meth.sig.returnType = some .long) (hd : decode c.code pc = .ok (.lreturn, 1)) {fs : List Frame}
    (hl : ∀ (f : JFrame) (acts : List Action), f.method = m → f.locked = none → f.entered = [] → (doReturn e (T.setTop f) acts (some (.long z))).1 = T.setFrames fs) : Steps p.tables e below (T.setTop (mkF m pc Ls (.long z :: rest))) (T.setFrames fs) := by
  have hm' : T.vm.method? m = some meth := X.method'
  show Steps p.tables e below (T.setTop { method := m, pc := pc, locals := Ls, stack := _ :: rest, locked := none }) _
  jvm_step X.here [X.here.top, hx, hd, hm', hret, narrow]
  first | (intro acts; rw [hl _ acts rfl rfl rfl]) | rw [hl _ _ rfl rfl rfl]
  exact Steps.refl _
theorem own_retA (X : Stand p l e R s m args below meth c T locs cells slots) (hx : p.tables.exec = Jvm.exec) {pc : Nat} {Ls : Array Slot} {w : Value} {t : FieldType} {rest : List Value} (hret : meth.sig.returnType = some t) (ht : t.isReference = true) (hv : w.isRef = true) (hd : decode c.code pc = .ok (.areturn, 1)) {fs : List Frame}
    (hl : ∀ (f : JFrame) (acts : List Action), f.method = m → f.locked = none → f.entered = [] → (doReturn e (T.setTop f) acts (some w)).1 = T.setFrames fs) : Steps p.tables e below (T.setTop (mkF m pc Ls (w :: rest))) (T.setFrames fs) := by
  have hm' : T.vm.method? m = some meth := X.method'
  show Steps p.tables e below (T.setTop { method := m, pc := pc, locals := Ls, stack := w :: rest, locked := none }) _
  jvm_step X.here [X.here.top, hx, hd, hm', hret, hv, ht]
  first | (intro acts; rw [hl _ acts rfl rfl rfl]) | rw [hl _ _ rfl rfl rfl]
  exact Steps.refl _
theorem own_fldI {s : State} {args : Array Value} {t : Term} {C n d : String} {k : Int32} {x : Addr} (ev : t.eval args s none [] s = some (.ref x)) (h : (Cond.eq (Term.field t C n d) (Term.int k)).value args s none s [] = some true) : Fld s s.heap x C n d (.int k) := by
  have e := fld_at (C := C) (n := n) (dd := d) ev
  cases hv : s.fieldOf? x C n d with
  | none => simp [Cond.value, Term.eval, ev, hv] at h
  | some v =>
    cases v <;> simp [Cond.value, Term.eval, ev, hv] at h
    subst h
    exact Fld.start hv
theorem own_fldJ {s : State} {args : Array Value} {t : Term} {C n d : String} {k : Int64} {x : Addr} (ev : t.eval args s none [] s = some (.ref x)) (h : (Cond.eq (Term.field t C n d) (Term.long k)).value args s none s [] = some true) : Fld s s.heap x C n d (.long k) := by
  have e := fld_at (C := C) (n := n) (dd := d) ev
  cases hv : s.fieldOf? x C n d with
  | none => simp [Cond.value, Term.eval, ev, hv] at h
  | some v =>
    cases v <;> simp [Cond.value, Term.eval, ev, hv] at h
    subst h
    exact Fld.start hv
end Own
end Jvm.RoadKit
namespace Jvm.Pilot.@@N@@
open Jvm Jvm.ClassFile Sem Op Lib Jvm.Free Jvm.Stand Jvm.LawKit Jvm.RoadKit Bundle Jvm.Pilot.@@N@@.Jvm.D
def QP (v0 : Option Value) (h0 : Heap) (n0 : Nat) (v : Option Value) (h : Heap) (L : List Loc) : Prop := v = v0 ∧ Fr n0 L ∧ h = h0
def Q0 (n0 : Nat) (v : Option Value) (L : List Loc) : Prop := v = some (.int 1) ∧ Fr n0 L
def Wd (Z : State) (h : Heap) (a_START : Addr) (a_READ : Addr) (a_UNREAD : Addr) (a_POWER_ON : Addr) (a_POWER_OFF : Addr) (a_HOLD_ON : Addr) (a_HOLD_OFF : Addr) (a_RELEASE : Addr) (a_SPAN_START : Addr) (a_SPAN_END : Addr) (a_ON : Addr) (a_OFF : Addr) : Prop := Sta Z h "ebbtide/serve/History$Event" "START" "Lebbtide/serve/History$Event;" (.ref a_START) ∧ Exa Z h a_START "ebbtide/serve/History$Event" ∧ Sta Z h "ebbtide/serve/History$Event" "READ" "Lebbtide/serve/History$Event;" (.ref a_READ) ∧ Exa Z h a_READ "ebbtide/serve/History$Event" ∧ Sta Z h "ebbtide/serve/History$Event" "UNREAD" "Lebbtide/serve/History$Event;" (.ref a_UNREAD) ∧ Exa Z h a_UNREAD "ebbtide/serve/History$Event" ∧ Sta Z h "ebbtide/serve/History$Event" "POWER_ON" "Lebbtide/serve/History$Event;" (.ref a_POWER_ON) ∧ Exa Z h a_POWER_ON "ebbtide/serve/History$Event" ∧ Sta Z h "ebbtide/serve/History$Event" "POWER_OFF" "Lebbtide/serve/History$Event;" (.ref a_POWER_OFF) ∧ Exa Z h a_POWER_OFF "ebbtide/serve/History$Event" ∧ Sta Z h "ebbtide/serve/History$Event" "HOLD_ON" "Lebbtide/serve/History$Event;" (.ref a_HOLD_ON) ∧ Exa Z h a_HOLD_ON "ebbtide/serve/History$Event" ∧ Sta Z h "ebbtide/serve/History$Event" "HOLD_OFF" "Lebbtide/serve/History$Event;" (.ref a_HOLD_OFF) ∧ Exa Z h a_HOLD_OFF "ebbtide/serve/History$Event" ∧ Sta Z h "ebbtide/serve/History$Event" "RELEASE" "Lebbtide/serve/History$Event;" (.ref a_RELEASE) ∧ Exa Z h a_RELEASE "ebbtide/serve/History$Event" ∧ Sta Z h "ebbtide/serve/History$Event" "SPAN_START" "Lebbtide/serve/History$Event;" (.ref a_SPAN_START) ∧ Exa Z h a_SPAN_START "ebbtide/serve/History$Event" ∧ Sta Z h "ebbtide/serve/History$Event" "SPAN_END" "Lebbtide/serve/History$Event;" (.ref a_SPAN_END) ∧ Exa Z h a_SPAN_END "ebbtide/serve/History$Event" ∧ Sta Z h "ebbtide/serve/Hold" "ON" "Lebbtide/serve/Hold;" (.ref a_ON) ∧ Exa Z h a_ON "ebbtide/serve/Hold" ∧ Sta Z h "ebbtide/serve/Hold" "OFF" "Lebbtide/serve/Hold;" (.ref a_OFF) ∧ Exa Z h a_OFF "ebbtide/serve/Hold" ∧ Fld Z h a_START "java/lang/Enum" "ordinal" "I" (.int (0 : Int32)) ∧ Fld Z h a_HOLD_ON "java/lang/Enum" "ordinal" "I" (.int (5 : Int32)) ∧ Fld Z h a_HOLD_OFF "java/lang/Enum" "ordinal" "I" (.int (6 : Int32)) ∧ Fld Z h a_RELEASE "java/lang/Enum" "ordinal" "I" (.int (7 : Int32)) ∧ Fld Z h a_POWER_ON "java/lang/Enum" "ordinal" "I" (.int (3 : Int32)) ∧ Fld Z h a_READ "java/lang/Enum" "ordinal" "I" (.int (1 : Int32)) ∧ Fld Z h a_POWER_OFF "java/lang/Enum" "ordinal" "I" (.int (4 : Int32)) ∧ Fld Z h a_UNREAD "java/lang/Enum" "ordinal" "I" (.int (2 : Int32)) ∧ Fld Z h a_SPAN_START "java/lang/Enum" "ordinal" "I" (.int (8 : Int32)) ∧ Fld Z h a_SPAN_END "java/lang/Enum" "ordinal" "I" (.int (9 : Int32)) ∧ Fld Z h a_OFF "java/lang/Enum" "ordinal" "I" (.int (1 : Int32)) ∧ Fld Z h a_ON "java/lang/Enum" "ordinal" "I" (.int (0 : Int32))
theorem own_sk {Z : State} {h h' : Heap} {C n d : String} {v : Value} (F : Sta Z h C n d v) (K : Keep h h' []) : Sta Z h' C n d v := by
  obtain ⟨cf, i, k, f, st, cell, h1, h2, h3, h4, h5, r⟩ := F
  exact ⟨cf, i, k, f, st, cell, h1, h2, h3, h4, K.2.1 _ _ h5 nin0, r⟩
theorem own_wk {Z : State} {h h' : Heap} {a_START : Addr} {a_READ : Addr} {a_UNREAD : Addr} {a_POWER_ON : Addr} {a_POWER_OFF : Addr} {a_HOLD_ON : Addr} {a_HOLD_OFF : Addr} {a_RELEASE : Addr} {a_SPAN_START : Addr} {a_SPAN_END : Addr} {a_ON : Addr} {a_OFF : Addr} (hS : Wd Z h a_START a_READ a_UNREAD a_POWER_ON a_POWER_OFF a_HOLD_ON a_HOLD_OFF a_RELEASE a_SPAN_START a_SPAN_END a_ON a_OFF) (K : Keep h h' []) : Wd Z h' a_START a_READ a_UNREAD a_POWER_ON a_POWER_OFF a_HOLD_ON a_HOLD_OFF a_RELEASE a_SPAN_START a_SPAN_END a_ON a_OFF := by
  obtain ⟨S_START, E_START, S_READ, E_READ, S_UNREAD, E_UNREAD, S_POWER_ON, E_POWER_ON, S_POWER_OFF, E_POWER_OFF, S_HOLD_ON, E_HOLD_ON, S_HOLD_OFF, E_HOLD_OFF, S_RELEASE, E_RELEASE, S_SPAN_START, E_SPAN_START, S_SPAN_END, E_SPAN_END, S_ON, E_ON, S_OFF, E_OFF, F_START_ordinal, F_HOLD_ON_ordinal, F_HOLD_OFF_ordinal, F_RELEASE_ordinal, F_POWER_ON_ordinal, F_READ_ordinal, F_POWER_OFF_ordinal, F_UNREAD_ordinal, F_SPAN_START_ordinal, F_SPAN_END_ordinal, F_OFF_ordinal, F_ON_ordinal⟩ := hS
  exact ⟨own_sk S_START K, E_START.keep K, own_sk S_READ K, E_READ.keep K, own_sk S_UNREAD K, E_UNREAD.keep K, own_sk S_POWER_ON K, E_POWER_ON.keep K, own_sk S_POWER_OFF K, E_POWER_OFF.keep K, own_sk S_HOLD_ON K, E_HOLD_ON.keep K, own_sk S_HOLD_OFF K, E_HOLD_OFF.keep K, own_sk S_RELEASE K, E_RELEASE.keep K, own_sk S_SPAN_START K, E_SPAN_START.keep K, own_sk S_SPAN_END K, E_SPAN_END.keep K, own_sk S_ON K, E_ON.keep K, own_sk S_OFF K, E_OFF.keep K, F_START_ordinal.keep K nin0, F_HOLD_ON_ordinal.keep K nin0, F_HOLD_OFF_ordinal.keep K nin0, F_RELEASE_ordinal.keep K nin0, F_POWER_ON_ordinal.keep K nin0, F_READ_ordinal.keep K nin0, F_POWER_OFF_ordinal.keep K nin0, F_UNREAD_ordinal.keep K nin0, F_SPAN_START_ordinal.keep K nin0, F_SPAN_END_ordinal.keep K nin0, F_OFF_ordinal.keep K nin0, F_ON_ordinal.keep K nin0⟩
theorem d1_0 : decode prog_171_method_7_code 0 = .ok (.aload_n 0, 1) := by decide +kernel
theorem d1_1 : decode prog_171_method_7_code 1 = .ok (.getstatic 19, 3) := by decide +kernel
theorem d1_4 : decode prog_171_method_7_code 4 = .ok (.if_acmp .eq 17, 3) := by decide +kernel
theorem d1_7 : decode prog_171_method_7_code 7 = .ok (.aload_n 0, 1) := by decide +kernel
theorem d1_8 : decode prog_171_method_7_code 8 = .ok (.getstatic 22, 3) := by decide +kernel
theorem d1_11 : decode prog_171_method_7_code 11 = .ok (.if_acmp .eq 10, 3) := by decide +kernel
theorem d1_14 : decode prog_171_method_7_code 14 = .ok (.aload_n 0, 1) := by decide +kernel
theorem d1_15 : decode prog_171_method_7_code 15 = .ok (.getstatic 25, 3) := by decide +kernel
theorem d1_18 : decode prog_171_method_7_code 18 = .ok (.if_acmp .ne 7, 3) := by decide +kernel
theorem d1_25 : decode prog_171_method_7_code 25 = .ok (.iconst 0, 1) := by decide +kernel
theorem d1_26 : decode prog_171_method_7_code 26 = .ok (.ireturn, 1) := by decide +kernel
theorem pn_ebbtide_serve_History_Event : plainName "ebbtide/serve/History$Event" = true := by first | (simp [plainName, overriddenIn]; done) | decide +kernel
set_option maxRecDepth 65536 in
set_option maxHeartbeats 40000000 in
theorem rm1_2 (l : Launch) (Z : State) (a0 : Array Value) (hw : ∀ d ∈ tables_1, d.before a0 Z = true) (ws : List Jvm.Cond) (a_START : Addr) (a_READ : Addr) (a_UNREAD : Addr) (a_POWER_ON : Addr) (a_POWER_OFF : Addr) (a_HOLD_ON : Addr) (a_HOLD_OFF : Addr) (a_RELEASE : Addr) (a_SPAN_START : Addr) (a_SPAN_END : Addr) (a_ON : Addr) (a_OFF : Addr) (p1 : Int32) (h0 : Heap) (n0 : Nat) (Z0 : n0 ≤ h0.size) (hS : Wd Z h0 a_START a_READ a_UNREAD a_POWER_ON a_POWER_OFF a_HOLD_ON a_HOLD_OFF a_RELEASE a_SPAN_START a_SPAN_END a_ON a_OFF) :
    MetFree l (⟨"ebbtide/serve/History$Event", "holds", "()Z"⟩ : MethodName) (head1 (Jvm.Cond.code (⟨"ebbtide/serve/History$Event", "holds", "()Z"⟩ : MethodName) prog_171_method_7_code 1 (some .boolean) :: ws) ({ frames := 0, cells := 0, slots := 0, locals := 0 } : Room)) (fun a U => a = #[(.ref a_START)] ∧ Z.Warmed39 U.vm ∧ U.heap = h0) (fun _ _ _ _ _ => True) (fun _ U o U' => ∃ v L, o = .returned v ∧ QP (some (.int (0 : Int32))) h0 n0 v U'.heap L ∧ FrameEnd U o U' L ({ frames := 0, cells := 0, slots := 0, locals := 0 } : Room).cells ({ frames := 0, cells := 0, slots := 0, locals := 0 } : Room).slots) := by
  refine MetFree.of_bodySF (plainFor_of_name pn_ebbtide_serve_History_Event) hisR ?_
  intro p e s m args below meth c s₁ Bd hml0 hP hK
  obtain ⟨rfl, hZ, hh⟩ := hP
  have hx := Bd.exec
  have hby := Bd.bytes
  have hml : c.maxLocals = 1 := hml0
  have hown : s.vm.findClass "ebbtide/serve/History$Event" = some m.cls := findClass_of_methodNamed Bd.named
  have X0 : Stand p l e ({ frames := 0, cells := 0, slots := 0, locals := 0 } : Room) s m #[(.ref a_START)] below meth c s₁ [] 0 0 := Stand.of_body Bd
  have e0 : s₁.heap = h0 := by rw [← hh, Bd.state]; rfl
  have N0 := Fr.nil n0
  have pre0 : ∀ t, Steps p.tables e below (s₁.setTop (mkF m 0 #[.val (.ref a_START)] [])) t → Steps p.tables e below (s₁.setTop (entryFrame m #[(.ref a_START)] 1)) t := fun t k => castTop (by first | (simp [entryFrame, mkF, argsToLocals, Value.category]; done) | rfl) k
  obtain ⟨S_START, E_START, S_READ, E_READ, S_UNREAD, E_UNREAD, S_POWER_ON, E_POWER_ON, S_POWER_OFF, E_POWER_OFF, S_HOLD_ON, E_HOLD_ON, S_HOLD_OFF, E_HOLD_OFF, S_RELEASE, E_RELEASE, S_SPAN_START, E_SPAN_START, S_SPAN_END, E_SPAN_END, S_ON, E_ON, S_OFF, E_OFF, F_START_ordinal, F_HOLD_ON_ordinal, F_HOLD_OFF_ordinal, F_RELEASE_ordinal, F_POWER_ON_ordinal, F_READ_ordinal, F_POWER_OFF_ordinal, F_UNREAD_ordinal, F_SPAN_START_ordinal, F_SPAN_END_ordinal, F_OFF_ordinal, F_ON_ordinal⟩ := id hS
  obtain ⟨T1, X1, e1, st1⟩ := getS2 X0 hx hZ hown (host := "") (Or.inl (hw _ (List.mem_of_getElem? (i := 30) rfl))) Via.refl e0 S_HOLD_ON (g := (mkF m 1 #[.val (.ref a_START)] [(.ref a_START)])) rfl (hb hby d1_1)
  obtain ⟨T2, X2, e2, st2⟩ := getS2 X1 hx hZ hown (host := "") (Or.inl (hw _ (List.mem_of_getElem? (i := 31) rfl))) Via.refl e1 S_HOLD_OFF (g := (mkF m 8 #[.val (.ref a_START)] [(.ref a_START)])) rfl (hb hby d1_8)
  obtain ⟨T3, X3, e3, st3⟩ := getS2 X2 hx hZ hown (host := "") (Or.inl (hw _ (List.mem_of_getElem? (i := 32) rfl))) Via.refl e2 S_RELEASE (g := (mkF m 15 #[.val (.ref a_START)] [(.ref a_START)])) rfl (hb hby d1_15)
  obtain ⟨fs, hr, hrun, hended, hW, hsame⟩ := X3.leave (v := some (.int (0 : Int32))) (fun h => by rw [Bd.returns] at h; cases h)
  refine ⟨_, _, pre0 _ ?_, hrun, hended, _, _, rfl, ?_, ⟨_, rfl⟩, hW, hsame.mono (by decide) (by decide)⟩
  · show Steps p.tables e below (s₁.setTop (mkF m 0 #[.val (.ref a_START)] [])) _
    refine XS.aloadN X0.here hx rfl (hb hby d1_0) rfl rfl ?_
    show Steps p.tables e below (s₁.setTop (mkF m 1 #[.val (.ref a_START)] [(.ref a_START)])) _
    refine st1 _ ?_
    show Steps p.tables e below (T1.setTop (mkF m 4 #[.val (.ref a_START)] [(.ref a_HOLD_ON), (.ref a_START)])) _
    refine Jvm.RoadKit.acmp (g := (mkF m 4 #[.val (.ref a_START)] [(.ref a_HOLD_ON), (.ref a_START)])) X1 hx rfl rfl rfl (pc0 := 4) (pc' := 7) (same := false) rfl (hb hby d1_4) rfl (decide_eq_false fun q => (Fld.ne F_START_ordinal F_HOLD_ON_ordinal (fun q => absurd (Value.int.inj q) (by decide))) (Value.ref.inj q)) (by decide) (by decide) ?_
    show Steps p.tables e below (T1.setTop (mkF m 7 #[.val (.ref a_START)] [])) _
    refine XS.aloadN X1.here hx rfl (hb hby d1_7) rfl rfl ?_
    show Steps p.tables e below (T1.setTop (mkF m 8 #[.val (.ref a_START)] [(.ref a_START)])) _
    refine st2 _ ?_
    show Steps p.tables e below (T2.setTop (mkF m 11 #[.val (.ref a_START)] [(.ref a_HOLD_OFF), (.ref a_START)])) _
    refine Jvm.RoadKit.acmp (g := (mkF m 11 #[.val (.ref a_START)] [(.ref a_HOLD_OFF), (.ref a_START)])) X2 hx rfl rfl rfl (pc0 := 11) (pc' := 14) (same := false) rfl (hb hby d1_11) rfl (decide_eq_false fun q => (Fld.ne F_START_ordinal F_HOLD_OFF_ordinal (fun q => absurd (Value.int.inj q) (by decide))) (Value.ref.inj q)) (by decide) (by decide) ?_
    show Steps p.tables e below (T2.setTop (mkF m 14 #[.val (.ref a_START)] [])) _
    refine XS.aloadN X2.here hx rfl (hb hby d1_14) rfl rfl ?_
    show Steps p.tables e below (T2.setTop (mkF m 15 #[.val (.ref a_START)] [(.ref a_START)])) _
    refine st3 _ ?_
    show Steps p.tables e below (T3.setTop (mkF m 18 #[.val (.ref a_START)] [(.ref a_RELEASE), (.ref a_START)])) _
    refine Jvm.RoadKit.acmp (g := (mkF m 18 #[.val (.ref a_START)] [(.ref a_RELEASE), (.ref a_START)])) X3 hx rfl rfl rfl (pc0 := 18) (pc' := 25) (same := false) rfl (hb hby d1_18) rfl (decide_eq_false fun q => (Fld.ne F_START_ordinal F_RELEASE_ordinal (fun q => absurd (Value.int.inj q) (by decide))) (Value.ref.inj q)) (by decide) (by decide) ?_
    show Steps p.tables e below (T3.setTop (mkF m 25 #[.val (.ref a_START)] [])) _
    refine XS.iconst X3.here hx rfl (hb hby d1_25) ?_
    show Steps p.tables e below (T3.setTop (mkF m 26 #[.val (.ref a_START)] [(.int (0 : Int32))])) _
    exact retN X3 hx (t := .boolean) Bd.returns (by simp) (hb hby d1_26) hr
  · exact ⟨rfl, N0, e3⟩
theorem pd_0 : parseMethodDescriptor "()Z" = some ⟨[], some .boolean⟩ := by decide +kernel
theorem d2_0 : decode prog_171_method_6_code 0 = .ok (.aload_n 0, 1) := by decide +kernel
theorem d2_1 : decode prog_171_method_6_code 1 = .ok (.invokevirtual 64, 3) := by decide +kernel
theorem d3_0 : decode jdk_37_method_2_code 0 = .ok (.aload_n 0, 1) := by decide +kernel
theorem d3_1 : decode jdk_37_method_2_code 1 = .ok (.getfield 7, 3) := by decide +kernel
theorem d3_4 : decode jdk_37_method_2_code 4 = .ok (.ireturn, 1) := by decide +kernel
theorem pn_java_lang_Enum : plainName "java/lang/Enum" = true := by first | (simp [plainName, overriddenIn]; done) | decide +kernel
set_option maxRecDepth 65536 in
set_option maxHeartbeats 40000000 in
theorem rm3_4 (l : Launch) (Z : State) (a0 : Array Value) (hw : ∀ d ∈ tables_1, d.before a0 Z = true) (ws : List Jvm.Cond) (a_START : Addr) (a_READ : Addr) (a_UNREAD : Addr) (a_POWER_ON : Addr) (a_POWER_OFF : Addr) (a_HOLD_ON : Addr) (a_HOLD_OFF : Addr) (a_RELEASE : Addr) (a_SPAN_START : Addr) (a_SPAN_END : Addr) (a_ON : Addr) (a_OFF : Addr) (p1 : Int32) (h0 : Heap) (n0 : Nat) (Z0 : n0 ≤ h0.size) (hS : Wd Z h0 a_START a_READ a_UNREAD a_POWER_ON a_POWER_OFF a_HOLD_ON a_HOLD_OFF a_RELEASE a_SPAN_START a_SPAN_END a_ON a_OFF) :
    MetFree l (⟨"java/lang/Enum", "ordinal", "()I"⟩ : MethodName) (head1 (Jvm.Cond.code (⟨"java/lang/Enum", "ordinal", "()I"⟩ : MethodName) jdk_37_method_2_code 1 (some .int) :: ws) ({ frames := 0, cells := 0, slots := 0, locals := 0 } : Room)) (fun a U => a = #[(.ref a_START)] ∧ Z.Warmed39 U.vm ∧ U.heap = h0) (fun _ _ _ _ _ => True) (fun _ U o U' => ∃ v L, o = .returned v ∧ QP (some (.int (0 : Int32))) h0 n0 v U'.heap L ∧ FrameEnd U o U' L ({ frames := 0, cells := 0, slots := 0, locals := 0 } : Room).cells ({ frames := 0, cells := 0, slots := 0, locals := 0 } : Room).slots) := by
  refine MetFree.of_bodySF (plainFor_of_name pn_java_lang_Enum) hisR ?_
  intro p e s m args below meth c s₁ Bd hml0 hP hK
  obtain ⟨rfl, hZ, hh⟩ := hP
  have hx := Bd.exec
  have hby := Bd.bytes
  have hml : c.maxLocals = 1 := hml0
  have hown : s.vm.findClass "java/lang/Enum" = some m.cls := findClass_of_methodNamed Bd.named
  have X0 : Stand p l e ({ frames := 0, cells := 0, slots := 0, locals := 0 } : Room) s m #[(.ref a_START)] below meth c s₁ [] 0 0 := Stand.of_body Bd
  have e0 : s₁.heap = h0 := by rw [← hh, Bd.state]; rfl
  have N0 := Fr.nil n0
  have pre0 : ∀ t, Steps p.tables e below (s₁.setTop (mkF m 0 #[.val (.ref a_START)] [])) t → Steps p.tables e below (s₁.setTop (entryFrame m #[(.ref a_START)] 1)) t := fun t k => castTop (by first | (simp [entryFrame, mkF, argsToLocals, Value.category]; done) | rfl) k
  obtain ⟨S_START, E_START, S_READ, E_READ, S_UNREAD, E_UNREAD, S_POWER_ON, E_POWER_ON, S_POWER_OFF, E_POWER_OFF, S_HOLD_ON, E_HOLD_ON, S_HOLD_OFF, E_HOLD_OFF, S_RELEASE, E_RELEASE, S_SPAN_START, E_SPAN_START, S_SPAN_END, E_SPAN_END, S_ON, E_ON, S_OFF, E_OFF, F_START_ordinal, F_HOLD_ON_ordinal, F_HOLD_OFF_ordinal, F_RELEASE_ordinal, F_POWER_ON_ordinal, F_READ_ordinal, F_POWER_OFF_ordinal, F_UNREAD_ordinal, F_SPAN_START_ordinal, F_SPAN_END_ordinal, F_OFF_ordinal, F_ON_ordinal⟩ := id hS
  obtain ⟨T1, X1, e1, st1⟩ := getF X0 hx hZ hown (host := "") (Or.inl (hw _ (List.mem_of_getElem? (i := 45) rfl))) Via.refl e0 F_START_ordinal (g := (mkF m 1 #[.val (.ref a_START)] [(.ref a_START)])) rfl rfl (hb hby d3_1)
  obtain ⟨fs, hr, hrun, hended, hW, hsame⟩ := X1.leave (v := some (.int (0 : Int32))) (fun h => by rw [Bd.returns] at h; cases h)
  refine ⟨_, _, pre0 _ ?_, hrun, hended, _, _, rfl, ?_, ⟨_, rfl⟩, hW, hsame.mono (by decide) (by decide)⟩
  · show Steps p.tables e below (s₁.setTop (mkF m 0 #[.val (.ref a_START)] [])) _
    refine XS.aloadN X0.here hx rfl (hb hby d3_0) rfl rfl ?_
    show Steps p.tables e below (s₁.setTop (mkF m 1 #[.val (.ref a_START)] [(.ref a_START)])) _
    refine st1 _ ?_
    show Steps p.tables e below (T1.setTop (mkF m 4 #[.val (.ref a_START)] [(.int (0 : Int32))])) _
    exact own_retI X1 hx Bd.returns (hb hby d3_4) hr
  · exact ⟨rfl, N0, e1⟩
theorem pd_1 : parseMethodDescriptor "()I" = some ⟨[], some .int⟩ := by decide +kernel
theorem d2_4 : decode prog_171_method_6_code 4 = .ok (.lookupswitch 40 #[(5, 28), (6, 34)], 28) := by decide +kernel
theorem d2_44 : decode prog_171_method_6_code 44 = .ok (.aconst_null, 1) := by decide +kernel
theorem d2_45 : decode prog_171_method_6_code 45 = .ok (.areturn, 1) := by decide +kernel
set_option maxRecDepth 65536 in
set_option maxHeartbeats 40000000 in
theorem rm2_3 (l : Launch) (Z : State) (a0 : Array Value) (hw : ∀ d ∈ tables_1, d.before a0 Z = true) (ws : List Jvm.Cond) (a_START : Addr) (a_READ : Addr) (a_UNREAD : Addr) (a_POWER_ON : Addr) (a_POWER_OFF : Addr) (a_HOLD_ON : Addr) (a_HOLD_OFF : Addr) (a_RELEASE : Addr) (a_SPAN_START : Addr) (a_SPAN_END : Addr) (a_ON : Addr) (a_OFF : Addr) (p1 : Int32) (h0 : Heap) (n0 : Nat) (Z0 : n0 ≤ h0.size) (hS : Wd Z h0 a_START a_READ a_UNREAD a_POWER_ON a_POWER_OFF a_HOLD_ON a_HOLD_OFF a_RELEASE a_SPAN_START a_SPAN_END a_ON a_OFF) :
    MetFree l (⟨"ebbtide/serve/History$Event", "hold", "()Lebbtide/serve/Hold;"⟩ : MethodName) (head1 (Jvm.Cond.code (⟨"ebbtide/serve/History$Event", "hold", "()Lebbtide/serve/Hold;"⟩ : MethodName) prog_171_method_6_code 1 (some (.object "ebbtide/serve/Hold")) :: ws) ({ frames := 1, cells := 0, slots := 0, locals := 12 } : Room)) (fun a U => a = #[(.ref a_START)] ∧ Z.Warmed39 U.vm ∧ U.heap = h0) (fun _ _ _ _ _ => True) (fun _ U o U' => ∃ v L, o = .returned v ∧ QP (some .null) h0 n0 v U'.heap L ∧ FrameEnd U o U' L ({ frames := 1, cells := 0, slots := 0, locals := 12 } : Room).cells ({ frames := 1, cells := 0, slots := 0, locals := 12 } : Room).slots) := by
  refine MetFree.of_bodySF (plainFor_of_name pn_ebbtide_serve_History_Event) hisR ?_
  intro p e s m args below meth c s₁ Bd hml0 hP hK
  obtain ⟨rfl, hZ, hh⟩ := hP
  have hx := Bd.exec
  have hby := Bd.bytes
  have hml : c.maxLocals = 1 := hml0
  have hown : s.vm.findClass "ebbtide/serve/History$Event" = some m.cls := findClass_of_methodNamed Bd.named
  have X0 : Stand p l e ({ frames := 1, cells := 0, slots := 0, locals := 12 } : Room) s m #[(.ref a_START)] below meth c s₁ [] 0 0 := Stand.of_body Bd
  have e0 : s₁.heap = h0 := by rw [← hh, Bd.state]; rfl
  have N0 := Fr.nil n0
  have pre0 : ∀ t, Steps p.tables e below (s₁.setTop (mkF m 0 #[.val (.ref a_START)] [])) t → Steps p.tables e below (s₁.setTop (entryFrame m #[(.ref a_START)] 1)) t := fun t k => castTop (by first | (simp [entryFrame, mkF, argsToLocals, Value.category]; done) | rfl) k
  obtain ⟨S_START, E_START, S_READ, E_READ, S_UNREAD, E_UNREAD, S_POWER_ON, E_POWER_ON, S_POWER_OFF, E_POWER_OFF, S_HOLD_ON, E_HOLD_ON, S_HOLD_OFF, E_HOLD_OFF, S_RELEASE, E_RELEASE, S_SPAN_START, E_SPAN_START, S_SPAN_END, E_SPAN_END, S_ON, E_ON, S_OFF, E_OFF, F_START_ordinal, F_HOLD_ON_ordinal, F_HOLD_OFF_ordinal, F_RELEASE_ordinal, F_POWER_ON_ordinal, F_READ_ordinal, F_POWER_OFF_ordinal, F_UNREAD_ordinal, F_SPAN_START_ordinal, F_SPAN_END_ordinal, F_OFF_ordinal, F_ON_ordinal⟩ := id hS
  obtain ⟨cq1, kq1, q1a, q1b, q1c⟩ := isOf hZ e0 E_START
  obtain ⟨_, _, ⟨T1, L1, k1, n1⟩, -, X1, ⟨Lc1, hQ1, l1, y1, z1⟩, st1⟩ := X0.virtualBackUp hx (owner := "java/lang/Enum") (x := (⟨"ebbtide/serve/History$Event", "ordinal", "()I"⟩ : MethodName)) (y := (⟨"java/lang/Enum", "ordinal", "()I"⟩ : MethodName)) hown (mvT hZ (hw _ (List.mem_of_getElem? (i := 38) rfl))) (mvT hZ (hw _ (List.mem_of_getElem? (i := 39) rfl))) (mvT hZ (hw _ (List.mem_of_getElem? (i := 40) rfl))) (by decide) (mvT hZ (hw _ (List.mem_of_getElem? (i := 42) rfl))) (mvT hZ (hw _ (List.mem_of_getElem? (i := 41) rfl))) (backOf (W := 0) (rm3_4 l Z a0 hw [] a_START a_READ a_UNREAD a_POWER_ON a_POWER_OFF a_HOLD_ON a_HOLD_OFF a_RELEASE a_SPAN_START a_SPAN_END a_ON a_OFF p1 h0 n0 Z0 hS) hZ (hw _ (List.mem_of_getElem? (i := 44) rfl)) (hw _ (List.mem_of_getElem? (i := 43) rfl)) (by decide) (by decide)) q1a q1c (g := (mkF m 1 #[.val (.ref a_START)] [(.ref a_START)])) rfl (by rw [hml]; rfl) (Steps.refl _) (argsL := []) (rest := []) (lenOf pd_1 rfl) rfl (by show 2 * 0 + _ ≤ _; exact Nat.le_of_eq rfl) (hb hby d2_1) (fun _ _ => ⟨rfl, e0, (by decide : 0 + 0 ≤ _), (by decide : 0 + 0 ≤ _)⟩)
  dsimp only [Pt.U, Pt.locs, Pt.cells, Pt.slots] at X1 l1 y1 z1 st1 hQ1
  subst l1 y1 z1
  obtain ⟨rfl, N1q, e1⟩ := hQ1
  have N1 := Fr.app N0 N1q
  obtain ⟨fs, hr, hrun, hended, hW, hsame⟩ := X1.leave (v := some .null) (fun h => by rw [Bd.returns] at h; cases h)
  refine ⟨_, _, pre0 _ ?_, hrun, hended, _, _, rfl, ?_, ⟨_, rfl⟩, hW, hsame.mono (by decide) (by decide)⟩
  · show Steps p.tables e below (s₁.setTop (mkF m 0 #[.val (.ref a_START)] [])) _
    refine XS.aloadN X0.here hx rfl (hb hby d2_0) rfl rfl ?_
    show Steps p.tables e below (s₁.setTop (mkF m 1 #[.val (.ref a_START)] [(.ref a_START)])) _
    refine st1.trans ?_
    show Steps p.tables e below (T1.setTop (mkF m 4 #[.val (.ref a_START)] [(.int (0 : Int32))])) _
    refine X1.lookupswitchMiss hx (g := (mkF m 4 #[.val (.ref a_START)] [(.int (0 : Int32))])) rfl rfl (hb hby d2_4) (by decide) (by first | decide | rfl | (simp; done)) (by show (0 : Int) ≤ ((4 : Nat) : Int) + 40; decide) _ ?_
    show Steps p.tables e below (T1.setTop (mkF m 44 #[.val (.ref a_START)] [])) _
    refine XS.aconstNull X1.here hx rfl (hb hby d2_44) ?_
    show Steps p.tables e below (T1.setTop (mkF m 45 #[.val (.ref a_START)] [.null])) _
    exact own_retA X1 hx Bd.returns rfl rfl (hb hby d2_45) hr
  · exact ⟨rfl, N1, e1⟩
theorem pd_2 : parseMethodDescriptor "()Lebbtide/serve/Hold;" = some ⟨[], some (.object "ebbtide/serve/Hold")⟩ := by decide +kernel
theorem d4_0 : decode prog_171_method_5_code 0 = .ok (.aload_n 0, 1) := by decide +kernel
theorem d4_1 : decode prog_171_method_5_code 1 = .ok (.ifnonnull 7, 3) := by decide +kernel
theorem d4_4 : decode prog_171_method_5_code 4 = .ok (.getstatic 25, 3) := by decide +kernel
theorem d4_7 : decode prog_171_method_5_code 7 = .ok (.areturn, 1) := by decide +kernel
set_option maxRecDepth 65536 in
set_option maxHeartbeats 40000000 in
theorem rm4_5 (l : Launch) (Z : State) (a0 : Array Value) (hw : ∀ d ∈ tables_1, d.before a0 Z = true) (ws : List Jvm.Cond) (a_START : Addr) (a_READ : Addr) (a_UNREAD : Addr) (a_POWER_ON : Addr) (a_POWER_OFF : Addr) (a_HOLD_ON : Addr) (a_HOLD_OFF : Addr) (a_RELEASE : Addr) (a_SPAN_START : Addr) (a_SPAN_END : Addr) (a_ON : Addr) (a_OFF : Addr) (p1 : Int32) (h0 : Heap) (n0 : Nat) (Z0 : n0 ≤ h0.size) (hS : Wd Z h0 a_START a_READ a_UNREAD a_POWER_ON a_POWER_OFF a_HOLD_ON a_HOLD_OFF a_RELEASE a_SPAN_START a_SPAN_END a_ON a_OFF) :
    MetFree l (⟨"ebbtide/serve/History$Event", "of", "(Lebbtide/serve/Hold;)Lebbtide/serve/History$Event;"⟩ : MethodName) (head1 (Jvm.Cond.code (⟨"ebbtide/serve/History$Event", "of", "(Lebbtide/serve/Hold;)Lebbtide/serve/History$Event;"⟩ : MethodName) prog_171_method_5_code 1 (some (.object "ebbtide/serve/History$Event")) :: ws) ({ frames := 0, cells := 0, slots := 0, locals := 0 } : Room)) (fun a U => a = #[.null] ∧ Z.Warmed39 U.vm ∧ U.heap = h0) (fun _ _ _ _ _ => True) (fun _ U o U' => ∃ v L, o = .returned v ∧ QP (some (.ref a_RELEASE)) h0 n0 v U'.heap L ∧ FrameEnd U o U' L ({ frames := 0, cells := 0, slots := 0, locals := 0 } : Room).cells ({ frames := 0, cells := 0, slots := 0, locals := 0 } : Room).slots) := by
  refine MetFree.of_bodySF (plainFor_of_name pn_ebbtide_serve_History_Event) hisR ?_
  intro p e s m args below meth c s₁ Bd hml0 hP hK
  obtain ⟨rfl, hZ, hh⟩ := hP
  have hx := Bd.exec
  have hby := Bd.bytes
  have hml : c.maxLocals = 1 := hml0
  have hown : s.vm.findClass "ebbtide/serve/History$Event" = some m.cls := findClass_of_methodNamed Bd.named
  have X0 : Stand p l e ({ frames := 0, cells := 0, slots := 0, locals := 0 } : Room) s m #[.null] below meth c s₁ [] 0 0 := Stand.of_body Bd
  have e0 : s₁.heap = h0 := by rw [← hh, Bd.state]; rfl
  have N0 := Fr.nil n0
  have pre0 : ∀ t, Steps p.tables e below (s₁.setTop (mkF m 0 #[.val .null] [])) t → Steps p.tables e below (s₁.setTop (entryFrame m #[.null] 1)) t := fun t k => castTop (by first | (simp [entryFrame, mkF, argsToLocals, Value.category]; done) | rfl) k
  obtain ⟨S_START, E_START, S_READ, E_READ, S_UNREAD, E_UNREAD, S_POWER_ON, E_POWER_ON, S_POWER_OFF, E_POWER_OFF, S_HOLD_ON, E_HOLD_ON, S_HOLD_OFF, E_HOLD_OFF, S_RELEASE, E_RELEASE, S_SPAN_START, E_SPAN_START, S_SPAN_END, E_SPAN_END, S_ON, E_ON, S_OFF, E_OFF, F_START_ordinal, F_HOLD_ON_ordinal, F_HOLD_OFF_ordinal, F_RELEASE_ordinal, F_POWER_ON_ordinal, F_READ_ordinal, F_POWER_OFF_ordinal, F_UNREAD_ordinal, F_SPAN_START_ordinal, F_SPAN_END_ordinal, F_OFF_ordinal, F_ON_ordinal⟩ := id hS
  obtain ⟨T1, X1, e1, st1⟩ := getS2 X0 hx hZ hown (host := "") (Or.inl (hw _ (List.mem_of_getElem? (i := 32) rfl))) Via.refl e0 S_RELEASE (g := (mkF m 4 #[.val .null] [])) rfl (hb hby d4_4)
  obtain ⟨fs, hr, hrun, hended, hW, hsame⟩ := X1.leave (v := some (.ref a_RELEASE)) (fun h => by rw [Bd.returns] at h; cases h)
  refine ⟨_, _, pre0 _ ?_, hrun, hended, _, _, rfl, ?_, ⟨_, rfl⟩, hW, hsame.mono (by decide) (by decide)⟩
  · show Steps p.tables e below (s₁.setTop (mkF m 0 #[.val .null] [])) _
    refine XS.aloadN X0.here hx rfl (hb hby d4_0) rfl rfl ?_
    show Steps p.tables e below (s₁.setTop (mkF m 1 #[.val .null] [.null])) _
    refine XS.ifnonnullNo X0.here hx rfl (hb hby d4_1) rfl ?_
    show Steps p.tables e below (s₁.setTop (mkF m 4 #[.val .null] [])) _
    refine st1 _ ?_
    show Steps p.tables e below (T1.setTop (mkF m 7 #[.val .null] [(.ref a_RELEASE)])) _
    exact own_retA X1 hx Bd.returns rfl rfl (hb hby d4_7) hr
  · exact ⟨rfl, N0, e1⟩
theorem pd_3 : parseMethodDescriptor "(Lebbtide/serve/Hold;)Lebbtide/serve/History$Event;" = some ⟨[(.object "ebbtide/serve/Hold")], some (.object "ebbtide/serve/History$Event")⟩ := by decide +kernel
theorem pn_ebbtide_serve_HistoryHoldsPinLaw : plainName "ebbtide/serve/HistoryHoldsPinLaw" = true := by first | (simp [plainName, overriddenIn]; done) | decide +kernel
set_option maxRecDepth 65536 in
set_option maxHeartbeats 40000000 in
theorem rm0_1 (l : Launch) (Z : State) (a0 : Array Value) (hw : ∀ d ∈ tables_1, d.before a0 Z = true) (ws : List Jvm.Cond) (a_START : Addr) (a_READ : Addr) (a_UNREAD : Addr) (a_POWER_ON : Addr) (a_POWER_OFF : Addr) (a_HOLD_ON : Addr) (a_HOLD_OFF : Addr) (a_RELEASE : Addr) (a_SPAN_START : Addr) (a_SPAN_END : Addr) (a_ON : Addr) (a_OFF : Addr) (p1 : Int32) (h0 : Heap) (n0 : Nat) (Z0 : n0 ≤ h0.size) (hS : Wd Z h0 a_START a_READ a_UNREAD a_POWER_ON a_POWER_OFF a_HOLD_ON a_HOLD_OFF a_RELEASE a_SPAN_START a_SPAN_END a_ON a_OFF) (hi : ((p1 &&& (2147483647 : Int32)) % (10 : Int32)) = (0 : Int32)) :
    MetFree l x (head1 (Jvm.Cond.code x code maxLocals ret :: ws) room_1) (fun a U => a = #[(.int p1)] ∧ Z.Warmed39 U.vm ∧ U.heap = h0) (fun _ _ _ _ _ => True) (fun _ U o U' => ∃ v L, o = .returned v ∧ Q0 n0 v L ∧ FrameEnd U o U' L room_1.cells room_1.slots) := by
  refine MetFree.of_bodySF (plainFor_of_name pn_ebbtide_serve_HistoryHoldsPinLaw) hisR ?_
  intro p e s m args below meth c s₁ Bd hml0 hP hK
  obtain ⟨rfl, hZ, hh⟩ := hP
  have hx := Bd.exec
  have hby := Bd.bytes
  have hml : c.maxLocals = 6 := hml0
  have hown : s.vm.findClass "ebbtide/serve/HistoryHoldsPinLaw" = some m.cls := findClass_of_methodNamed Bd.named
  have X0 : Stand p l e room_1 s m #[(.int p1)] below meth c s₁ [] 0 0 := Stand.of_body Bd
  have e0 : s₁.heap = h0 := by rw [← hh, Bd.state]; rfl
  have N0 := Fr.nil n0
  have pre0 : ∀ t, Steps p.tables e below (s₁.setTop (mkF m 0 #[.val (.int p1), .unset, .unset, .unset, .unset, .unset] [])) t → Steps p.tables e below (s₁.setTop (entryFrame m #[(.int p1)] maxLocals)) t := fun t k => castTop (by first | (simp [entryFrame, mkF, argsToLocals, Value.category, maxLocals]; done) | rfl) k
  obtain ⟨S_START, E_START, S_READ, E_READ, S_UNREAD, E_UNREAD, S_POWER_ON, E_POWER_ON, S_POWER_OFF, E_POWER_OFF, S_HOLD_ON, E_HOLD_ON, S_HOLD_OFF, E_HOLD_OFF, S_RELEASE, E_RELEASE, S_SPAN_START, E_SPAN_START, S_SPAN_END, E_SPAN_END, S_ON, E_ON, S_OFF, E_OFF, F_START_ordinal, F_HOLD_ON_ordinal, F_HOLD_OFF_ordinal, F_RELEASE_ordinal, F_POWER_ON_ordinal, F_READ_ordinal, F_POWER_OFF_ordinal, F_UNREAD_ordinal, F_SPAN_START_ordinal, F_SPAN_END_ordinal, F_OFF_ordinal, F_ON_ordinal⟩ := id hS
  obtain ⟨T1, h1, k1, X1, e1, E1, A1, O1, st1⟩ := newR X0 hx hZ hown (hw _ (List.mem_of_getElem? (i := 0) rfl)) (hw _ (List.mem_of_getElem? (i := 1) rfl)) e0 (g := (mkF m 2 #[.val (.int p1), .unset, .unset, .unset, .unset, .unset] [(.int (10 : Int32))])) rfl (hb hby at_2) rfl (by decide) (cap := 10) (by decide) (by decide) (by decide) (by decide)
  obtain ⟨b1, g1⟩ : ∃ z, z = h0.size := ⟨_, rfl⟩
  rw [← g1] at A1 st1
  have V1 : Arv Z h1 b1 k1 (.object "ebbtide/serve/History$Event") (10 : Int32) [.null, .null, .null, .null, .null, .null, .null, .null, .null, .null] .null := (Arv.new A1 (by decide)).pad (pad_rep [] .null 10)
  have K1 : Keep h0 h1 [] := (Keep.refl h0 []).ext E1
  have sz_b1 : h0.size ≤ b1 := Nat.le_trans (Keep.refl h0 []).1 (Nat.le_of_eq g1.symm)
  have gz_b1 : n0 ≤ b1 := Nat.le_trans Z0 sz_b1
  obtain ⟨T2, X2, e2, st2⟩ := getS2 X1 hx hZ hown (host := "") (Or.inl (hw _ (List.mem_of_getElem? (i := 2) rfl))) Via.refl e1 (own_sk S_START K1) (g := (mkF m 7 #[.val (.int p1), .unset, .unset, .unset, .unset, .unset] [(.int (0 : Int32)), (.ref b1), (.ref b1)])) rfl (hb hby at_7)
  obtain ⟨cl3, Ar3, qq3, Sz3, Ng3, Hs3, Gf3⟩ := V1
  have hin3 : ¬ ((0 : Int32) < 0 ∨ cl3.slots.size ≤ ((0 : Int32)).toNatClampNeg) := inb_of Sz3 ⟨by decide, by decide⟩
  obtain ⟨T4, h4, X4, e4, W4, st4⟩ := stR X2 hx hZ e2 Ar3 (j := (0 : Int32)) hin3 rfl (Sto.ofV Ar3 qq3 O1 (Ins.self (E_START.keep K1))) (g := (mkF m 10 #[.val (.int p1), .unset, .unset, .unset, .unset, .unset] [(.ref a_START), (.int (0 : Int32)), (.ref b1), (.ref b1)])) rfl rfl (hb hby at_10)
  have V4 : Arv Z h4 b1 k1 (.object "ebbtide/serve/History$Event") (10 : Int32) [(.ref a_START), .null, .null, .null, .null, .null, .null, .null, .null, .null] .null := Arv.set Ar3 qq3 Sz3 Ng3 Hs3 Gf3 rfl W4 0 rfl (Nat.le_of_ble_eq_true rfl)
  have K4 : Keep h0 h4 [] := K1.wr W4 (Or.inr sz_b1)
  have N4 := Fr.snoc X4 N0 gz_b1
  obtain ⟨T5, X5, e5, st5⟩ := getS2 X4 hx hZ hown (host := "") (Or.inl (hw _ (List.mem_of_getElem? (i := 6) rfl))) Via.refl e4 (own_sk S_READ K4) (g := (mkF m 13 #[.val (.int p1), .unset, .unset, .unset, .unset, .unset] [(.int (1 : Int32)), (.ref b1), (.ref b1)])) rfl (hb hby at_13)
  obtain ⟨cl6, Ar6, qq6, Sz6, Ng6, Hs6, Gf6⟩ := V4
  have hin6 : ¬ ((1 : Int32) < 0 ∨ cl6.slots.size ≤ ((1 : Int32)).toNatClampNeg) := inb_of Sz6 ⟨by decide, by decide⟩
  obtain ⟨T7, h7, X7, e7, W7, st7⟩ := stR X5 hx hZ e5 Ar6 (j := (1 : Int32)) hin6 rfl (Sto.ofV Ar6 qq6 O1 (Ins.self (E_READ.keep K4))) (g := (mkF m 16 #[.val (.int p1), .unset, .unset, .unset, .unset, .unset] [(.ref a_READ), (.int (1 : Int32)), (.ref b1), (.ref b1)])) rfl rfl (hb hby at_16)
  have V7 : Arv Z h7 b1 k1 (.object "ebbtide/serve/History$Event") (10 : Int32) [(.ref a_START), (.ref a_READ), .null, .null, .null, .null, .null, .null, .null, .null] .null := Arv.set Ar6 qq6 Sz6 Ng6 Hs6 Gf6 rfl W7 1 rfl (Nat.le_of_ble_eq_true rfl)
  have K7 : Keep h0 h7 [] := K4.wr W7 (Or.inr sz_b1)
  have N7 := Fr.snoc X7 N4 gz_b1
  obtain ⟨T8, X8, e8, st8⟩ := getS2 X7 hx hZ hown (host := "") (Or.inl (hw _ (List.mem_of_getElem? (i := 8) rfl))) Via.refl e7 (own_sk S_UNREAD K7) (g := (mkF m 19 #[.val (.int p1), .unset, .unset, .unset, .unset, .unset] [(.int (2 : Int32)), (.ref b1), (.ref b1)])) rfl (hb hby at_19)
  obtain ⟨cl9, Ar9, qq9, Sz9, Ng9, Hs9, Gf9⟩ := V7
  have hin9 : ¬ ((2 : Int32) < 0 ∨ cl9.slots.size ≤ ((2 : Int32)).toNatClampNeg) := inb_of Sz9 ⟨by decide, by decide⟩
  obtain ⟨T10, h10, X10, e10, W10, st10⟩ := stR X8 hx hZ e8 Ar9 (j := (2 : Int32)) hin9 rfl (Sto.ofV Ar9 qq9 O1 (Ins.self (E_UNREAD.keep K7))) (g := (mkF m 22 #[.val (.int p1), .unset, .unset, .unset, .unset, .unset] [(.ref a_UNREAD), (.int (2 : Int32)), (.ref b1), (.ref b1)])) rfl rfl (hb hby at_22)
  have V10 : Arv Z h10 b1 k1 (.object "ebbtide/serve/History$Event") (10 : Int32) [(.ref a_START), (.ref a_READ), (.ref a_UNREAD), .null, .null, .null, .null, .null, .null, .null] .null := Arv.set Ar9 qq9 Sz9 Ng9 Hs9 Gf9 rfl W10 2 rfl (Nat.le_of_ble_eq_true rfl)
  have K10 : Keep h0 h10 [] := K7.wr W10 (Or.inr sz_b1)
  have N10 := Fr.snoc X10 N7 gz_b1
  obtain ⟨T11, X11, e11, st11⟩ := getS2 X10 hx hZ hown (host := "") (Or.inl (hw _ (List.mem_of_getElem? (i := 10) rfl))) Via.refl e10 (own_sk S_POWER_ON K10) (g := (mkF m 25 #[.val (.int p1), .unset, .unset, .unset, .unset, .unset] [(.int (3 : Int32)), (.ref b1), (.ref b1)])) rfl (hb hby at_25)
  obtain ⟨cl12, Ar12, qq12, Sz12, Ng12, Hs12, Gf12⟩ := V10
  have hin12 : ¬ ((3 : Int32) < 0 ∨ cl12.slots.size ≤ ((3 : Int32)).toNatClampNeg) := inb_of Sz12 ⟨by decide, by decide⟩
  obtain ⟨T13, h13, X13, e13, W13, st13⟩ := stR X11 hx hZ e11 Ar12 (j := (3 : Int32)) hin12 rfl (Sto.ofV Ar12 qq12 O1 (Ins.self (E_POWER_ON.keep K10))) (g := (mkF m 28 #[.val (.int p1), .unset, .unset, .unset, .unset, .unset] [(.ref a_POWER_ON), (.int (3 : Int32)), (.ref b1), (.ref b1)])) rfl rfl (hb hby at_28)
  have V13 : Arv Z h13 b1 k1 (.object "ebbtide/serve/History$Event") (10 : Int32) [(.ref a_START), (.ref a_READ), (.ref a_UNREAD), (.ref a_POWER_ON), .null, .null, .null, .null, .null, .null] .null := Arv.set Ar12 qq12 Sz12 Ng12 Hs12 Gf12 rfl W13 3 rfl (Nat.le_of_ble_eq_true rfl)
  have K13 : Keep h0 h13 [] := K10.wr W13 (Or.inr sz_b1)
  have N13 := Fr.snoc X13 N10 gz_b1
  obtain ⟨T14, X14, e14, st14⟩ := getS2 X13 hx hZ hown (host := "") (Or.inl (hw _ (List.mem_of_getElem? (i := 12) rfl))) Via.refl e13 (own_sk S_POWER_OFF K13) (g := (mkF m 31 #[.val (.int p1), .unset, .unset, .unset, .unset, .unset] [(.int (4 : Int32)), (.ref b1), (.ref b1)])) rfl (hb hby at_31)
  obtain ⟨cl15, Ar15, qq15, Sz15, Ng15, Hs15, Gf15⟩ := V13
  have hin15 : ¬ ((4 : Int32) < 0 ∨ cl15.slots.size ≤ ((4 : Int32)).toNatClampNeg) := inb_of Sz15 ⟨by decide, by decide⟩
  obtain ⟨T16, h16, X16, e16, W16, st16⟩ := stR X14 hx hZ e14 Ar15 (j := (4 : Int32)) hin15 rfl (Sto.ofV Ar15 qq15 O1 (Ins.self (E_POWER_OFF.keep K13))) (g := (mkF m 34 #[.val (.int p1), .unset, .unset, .unset, .unset, .unset] [(.ref a_POWER_OFF), (.int (4 : Int32)), (.ref b1), (.ref b1)])) rfl rfl (hb hby at_34)
  have V16 : Arv Z h16 b1 k1 (.object "ebbtide/serve/History$Event") (10 : Int32) [(.ref a_START), (.ref a_READ), (.ref a_UNREAD), (.ref a_POWER_ON), (.ref a_POWER_OFF), .null, .null, .null, .null, .null] .null := Arv.set Ar15 qq15 Sz15 Ng15 Hs15 Gf15 rfl W16 4 rfl (Nat.le_of_ble_eq_true rfl)
  have K16 : Keep h0 h16 [] := K13.wr W16 (Or.inr sz_b1)
  have N16 := Fr.snoc X16 N13 gz_b1
  obtain ⟨T17, X17, e17, st17⟩ := getS2 X16 hx hZ hown (host := "") (Or.inl (hw _ (List.mem_of_getElem? (i := 14) rfl))) Via.refl e16 (own_sk S_HOLD_ON K16) (g := (mkF m 37 #[.val (.int p1), .unset, .unset, .unset, .unset, .unset] [(.int (5 : Int32)), (.ref b1), (.ref b1)])) rfl (hb hby at_37)
  obtain ⟨cl18, Ar18, qq18, Sz18, Ng18, Hs18, Gf18⟩ := V16
  have hin18 : ¬ ((5 : Int32) < 0 ∨ cl18.slots.size ≤ ((5 : Int32)).toNatClampNeg) := inb_of Sz18 ⟨by decide, by decide⟩
  obtain ⟨T19, h19, X19, e19, W19, st19⟩ := stR X17 hx hZ e17 Ar18 (j := (5 : Int32)) hin18 rfl (Sto.ofV Ar18 qq18 O1 (Ins.self (E_HOLD_ON.keep K16))) (g := (mkF m 40 #[.val (.int p1), .unset, .unset, .unset, .unset, .unset] [(.ref a_HOLD_ON), (.int (5 : Int32)), (.ref b1), (.ref b1)])) rfl rfl (hb hby at_40)
  have V19 : Arv Z h19 b1 k1 (.object "ebbtide/serve/History$Event") (10 : Int32) [(.ref a_START), (.ref a_READ), (.ref a_UNREAD), (.ref a_POWER_ON), (.ref a_POWER_OFF), (.ref a_HOLD_ON), .null, .null, .null, .null] .null := Arv.set Ar18 qq18 Sz18 Ng18 Hs18 Gf18 rfl W19 5 rfl (Nat.le_of_ble_eq_true rfl)
  have K19 : Keep h0 h19 [] := K16.wr W19 (Or.inr sz_b1)
  have N19 := Fr.snoc X19 N16 gz_b1
  obtain ⟨T20, X20, e20, st20⟩ := getS2 X19 hx hZ hown (host := "") (Or.inl (hw _ (List.mem_of_getElem? (i := 16) rfl))) Via.refl e19 (own_sk S_HOLD_OFF K19) (g := (mkF m 44 #[.val (.int p1), .unset, .unset, .unset, .unset, .unset] [(.int (6 : Int32)), (.ref b1), (.ref b1)])) rfl (hb hby at_44)
  obtain ⟨cl21, Ar21, qq21, Sz21, Ng21, Hs21, Gf21⟩ := V19
  have hin21 : ¬ ((6 : Int32) < 0 ∨ cl21.slots.size ≤ ((6 : Int32)).toNatClampNeg) := inb_of Sz21 ⟨by decide, by decide⟩
  obtain ⟨T22, h22, X22, e22, W22, st22⟩ := stR X20 hx hZ e20 Ar21 (j := (6 : Int32)) hin21 rfl (Sto.ofV Ar21 qq21 O1 (Ins.self (E_HOLD_OFF.keep K19))) (g := (mkF m 47 #[.val (.int p1), .unset, .unset, .unset, .unset, .unset] [(.ref a_HOLD_OFF), (.int (6 : Int32)), (.ref b1), (.ref b1)])) rfl rfl (hb hby at_47)
  have V22 : Arv Z h22 b1 k1 (.object "ebbtide/serve/History$Event") (10 : Int32) [(.ref a_START), (.ref a_READ), (.ref a_UNREAD), (.ref a_POWER_ON), (.ref a_POWER_OFF), (.ref a_HOLD_ON), (.ref a_HOLD_OFF), .null, .null, .null] .null := Arv.set Ar21 qq21 Sz21 Ng21 Hs21 Gf21 rfl W22 6 rfl (Nat.le_of_ble_eq_true rfl)
  have K22 : Keep h0 h22 [] := K19.wr W22 (Or.inr sz_b1)
  have N22 := Fr.snoc X22 N19 gz_b1
  obtain ⟨T23, X23, e23, st23⟩ := getS2 X22 hx hZ hown (host := "") (Or.inl (hw _ (List.mem_of_getElem? (i := 18) rfl))) Via.refl e22 (own_sk S_RELEASE K22) (g := (mkF m 51 #[.val (.int p1), .unset, .unset, .unset, .unset, .unset] [(.int (7 : Int32)), (.ref b1), (.ref b1)])) rfl (hb hby at_51)
  obtain ⟨cl24, Ar24, qq24, Sz24, Ng24, Hs24, Gf24⟩ := V22
  have hin24 : ¬ ((7 : Int32) < 0 ∨ cl24.slots.size ≤ ((7 : Int32)).toNatClampNeg) := inb_of Sz24 ⟨by decide, by decide⟩
  obtain ⟨T25, h25, X25, e25, W25, st25⟩ := stR X23 hx hZ e23 Ar24 (j := (7 : Int32)) hin24 rfl (Sto.ofV Ar24 qq24 O1 (Ins.self (E_RELEASE.keep K22))) (g := (mkF m 54 #[.val (.int p1), .unset, .unset, .unset, .unset, .unset] [(.ref a_RELEASE), (.int (7 : Int32)), (.ref b1), (.ref b1)])) rfl rfl (hb hby at_54)
  have V25 : Arv Z h25 b1 k1 (.object "ebbtide/serve/History$Event") (10 : Int32) [(.ref a_START), (.ref a_READ), (.ref a_UNREAD), (.ref a_POWER_ON), (.ref a_POWER_OFF), (.ref a_HOLD_ON), (.ref a_HOLD_OFF), (.ref a_RELEASE), .null, .null] .null := Arv.set Ar24 qq24 Sz24 Ng24 Hs24 Gf24 rfl W25 7 rfl (Nat.le_of_ble_eq_true rfl)
  have K25 : Keep h0 h25 [] := K22.wr W25 (Or.inr sz_b1)
  have N25 := Fr.snoc X25 N22 gz_b1
  obtain ⟨T26, X26, e26, st26⟩ := getS2 X25 hx hZ hown (host := "") (Or.inl (hw _ (List.mem_of_getElem? (i := 20) rfl))) Via.refl e25 (own_sk S_SPAN_START K25) (g := (mkF m 58 #[.val (.int p1), .unset, .unset, .unset, .unset, .unset] [(.int (8 : Int32)), (.ref b1), (.ref b1)])) rfl (hb hby at_58)
  obtain ⟨cl27, Ar27, qq27, Sz27, Ng27, Hs27, Gf27⟩ := V25
  have hin27 : ¬ ((8 : Int32) < 0 ∨ cl27.slots.size ≤ ((8 : Int32)).toNatClampNeg) := inb_of Sz27 ⟨by decide, by decide⟩
  obtain ⟨T28, h28, X28, e28, W28, st28⟩ := stR X26 hx hZ e26 Ar27 (j := (8 : Int32)) hin27 rfl (Sto.ofV Ar27 qq27 O1 (Ins.self (E_SPAN_START.keep K25))) (g := (mkF m 61 #[.val (.int p1), .unset, .unset, .unset, .unset, .unset] [(.ref a_SPAN_START), (.int (8 : Int32)), (.ref b1), (.ref b1)])) rfl rfl (hb hby at_61)
  have V28 : Arv Z h28 b1 k1 (.object "ebbtide/serve/History$Event") (10 : Int32) [(.ref a_START), (.ref a_READ), (.ref a_UNREAD), (.ref a_POWER_ON), (.ref a_POWER_OFF), (.ref a_HOLD_ON), (.ref a_HOLD_OFF), (.ref a_RELEASE), (.ref a_SPAN_START), .null] .null := Arv.set Ar27 qq27 Sz27 Ng27 Hs27 Gf27 rfl W28 8 rfl (Nat.le_of_ble_eq_true rfl)
  have K28 : Keep h0 h28 [] := K25.wr W28 (Or.inr sz_b1)
  have N28 := Fr.snoc X28 N25 gz_b1
  obtain ⟨T29, X29, e29, st29⟩ := getS2 X28 hx hZ hown (host := "") (Or.inl (hw _ (List.mem_of_getElem? (i := 22) rfl))) Via.refl e28 (own_sk S_SPAN_END K28) (g := (mkF m 65 #[.val (.int p1), .unset, .unset, .unset, .unset, .unset] [(.int (9 : Int32)), (.ref b1), (.ref b1)])) rfl (hb hby at_65)
  obtain ⟨cl30, Ar30, qq30, Sz30, Ng30, Hs30, Gf30⟩ := V28
  have hin30 : ¬ ((9 : Int32) < 0 ∨ cl30.slots.size ≤ ((9 : Int32)).toNatClampNeg) := inb_of Sz30 ⟨by decide, by decide⟩
  obtain ⟨T31, h31, X31, e31, W31, st31⟩ := stR X29 hx hZ e29 Ar30 (j := (9 : Int32)) hin30 rfl (Sto.ofV Ar30 qq30 O1 (Ins.self (E_SPAN_END.keep K28))) (g := (mkF m 68 #[.val (.int p1), .unset, .unset, .unset, .unset, .unset] [(.ref a_SPAN_END), (.int (9 : Int32)), (.ref b1), (.ref b1)])) rfl rfl (hb hby at_68)
  have V31 : Arv Z h31 b1 k1 (.object "ebbtide/serve/History$Event") (10 : Int32) [(.ref a_START), (.ref a_READ), (.ref a_UNREAD), (.ref a_POWER_ON), (.ref a_POWER_OFF), (.ref a_HOLD_ON), (.ref a_HOLD_OFF), (.ref a_RELEASE), (.ref a_SPAN_START), (.ref a_SPAN_END)] .null := Arv.set Ar30 qq30 Sz30 Ng30 Hs30 Gf30 rfl W31 9 rfl (Nat.le_of_ble_eq_true rfl)
  have K31 : Keep h0 h31 [] := K28.wr W31 (Or.inr sz_b1)
  have N31 := Fr.snoc X31 N28 gz_b1
  obtain ⟨cl32, Ar32, qq32, Sz32, Ng32, Hs32, Gf32⟩ := V31
  have hin32 : ¬ ((0 : Int32) < 0 ∨ cl32.slots.size ≤ ((0 : Int32)).toNatClampNeg) := inb_of Sz32 ⟨by decide, by decide⟩
  have hat32 : cl32.slots[((0 : Int32)).toNatClampNeg]? = some (.ref a_START) := Hs32.at hin32 rfl
  obtain ⟨cq33, kq33, q33a, q33b, q33c⟩ := isOf hZ e31 (E_START.keep K31)
  obtain ⟨_, _, ⟨T33, L33, k33, n33⟩, -, X33, ⟨Lc33, hQ33, l33, y33, z33⟩, st33⟩ := X31.virtualBack hx (y := (⟨"ebbtide/serve/History$Event", "holds", "()Z"⟩ : MethodName)) (z := (⟨"ebbtide/serve/History$Event", "holds", "()Z"⟩ : MethodName)) hown (mvT hZ (hw _ (List.mem_of_getElem? (i := 25) rfl))) (mvT hZ (hw _ (List.mem_of_getElem? (i := 26) rfl))) (notFace_of_selects (args := #[]) (mvT hZ (hw _ (List.mem_of_getElem? (i := 28) rfl)))) (mvT hZ (hw _ (List.mem_of_getElem? (i := 28) rfl))) (mvT hZ (hw _ (List.mem_of_getElem? (i := 27) rfl))) (by decide) (backOf (W := 0) (rm1_2 l Z a0 hw [] a_START a_READ a_UNREAD a_POWER_ON a_POWER_OFF a_HOLD_ON a_HOLD_OFF a_RELEASE a_SPAN_START a_SPAN_END a_ON a_OFF p1 h31 n0 (Nat.le_trans Z0 K31.1) (own_wk hS K31)) hZ (hw _ (List.mem_of_getElem? (i := 29) rfl)) (hw _ (List.mem_of_getElem? (i := 3) rfl)) (by decide) (by decide)) q33a q33c (g := (mkF m 81 #[.val (.int p1), .val (.ref b1), .val (.ref a_START), .unset, .unset, .unset] [(.ref a_START)])) rfl (by rw [hml]; rfl) (Steps.refl _) (argsL := []) (rest := []) (lenOf pd_0 rfl) rfl (by show 2 * 0 + _ ≤ _; exact Nat.le_of_eq rfl) (hb hby at_81) (fun _ _ => ⟨rfl, e31, (by decide : 1 + 0 ≤ _), (by decide : 10 + 0 ≤ _)⟩)
  dsimp only [Pt.U, Pt.locs, Pt.cells, Pt.slots] at X33 l33 y33 z33 st33 hQ33
  subst l33 y33 z33
  obtain ⟨rfl, N33q, e33⟩ := hQ33
  have N33 := Fr.app N31 N33q
  obtain ⟨cq34, kq34, q34a, q34b, q34c⟩ := isOf hZ e33 (E_START.keep K31)
  obtain ⟨_, _, ⟨T34, L34, k34, n34⟩, -, X34, ⟨Lc34, hQ34, l34, y34, z34⟩, st34⟩ := X33.virtualBack hx (y := (⟨"ebbtide/serve/History$Event", "hold", "()Lebbtide/serve/Hold;"⟩ : MethodName)) (z := (⟨"ebbtide/serve/History$Event", "hold", "()Lebbtide/serve/Hold;"⟩ : MethodName)) hown (mvT hZ (hw _ (List.mem_of_getElem? (i := 33) rfl))) (mvT hZ (hw _ (List.mem_of_getElem? (i := 34) rfl))) (notFace_of_selects (args := #[]) (mvT hZ (hw _ (List.mem_of_getElem? (i := 36) rfl)))) (mvT hZ (hw _ (List.mem_of_getElem? (i := 36) rfl))) (mvT hZ (hw _ (List.mem_of_getElem? (i := 35) rfl))) (by decide) (backOf (W := 0) (rm2_3 l Z a0 hw [] a_START a_READ a_UNREAD a_POWER_ON a_POWER_OFF a_HOLD_ON a_HOLD_OFF a_RELEASE a_SPAN_START a_SPAN_END a_ON a_OFF p1 h31 n0 (Nat.le_trans Z0 K31.1) (own_wk hS K31)) hZ (hw _ (List.mem_of_getElem? (i := 37) rfl)) (hw _ (List.mem_of_getElem? (i := 3) rfl)) (by decide) (by decide)) q34a q34c (g := (mkF m 86 #[.val (.int p1), .val (.ref b1), .val (.ref a_START), .val (.int (0 : Int32)), .unset, .unset] [(.ref a_START)])) rfl (by rw [hml]; rfl) (Steps.refl _) (argsL := []) (rest := []) (lenOf pd_2 rfl) rfl (by show 2 * 0 + _ ≤ _; exact Nat.le_of_eq rfl) (hb hby at_86) (fun _ _ => ⟨rfl, e33, (by decide : 1 + 0 ≤ _), (by decide : 10 + 0 ≤ _)⟩)
  dsimp only [Pt.U, Pt.locs, Pt.cells, Pt.slots] at X34 l34 y34 z34 st34 hQ34
  subst l34 y34 z34
  obtain ⟨rfl, N34q, e34⟩ := hQ34
  have N34 := Fr.app N33 N34q
  obtain ⟨_, _, ⟨T35, L35, k35, n35⟩, -, X35, ⟨Lc35, hQ35, l35, y35, z35⟩, st35⟩ := Jvm.LawKit.callS X34 hx (y := (⟨"ebbtide/serve/History$Event", "of", "(Lebbtide/serve/Hold;)Lebbtide/serve/History$Event;"⟩ : MethodName)) hown (mvT hZ (hw _ (List.mem_of_getElem? (i := 47) rfl))) (mvT hZ (hw _ (List.mem_of_getElem? (i := 48) rfl))) (mvT hZ (hw _ (List.mem_of_getElem? (i := 3) rfl))) (mvT hZ (hw _ (List.mem_of_getElem? (i := 49) rfl))) (by decide) (backOf (W := 0) (rm4_5 l Z a0 hw [] a_START a_READ a_UNREAD a_POWER_ON a_POWER_OFF a_HOLD_ON a_HOLD_OFF a_RELEASE a_SPAN_START a_SPAN_END a_ON a_OFF p1 h31 n0 (Nat.le_trans Z0 K31.1) (own_wk hS K31)) hZ (hw _ (List.mem_of_getElem? (i := 49) rfl)) (hw _ (List.mem_of_getElem? (i := 3) rfl)) (by decide) (by decide)) (g := (mkF m 93 #[.val (.int p1), .val (.ref b1), .val (.ref a_START), .val (.int (0 : Int32)), .val .null, .unset] [.null])) rfl (by rw [hml]; rfl) (argsL := [.null]) (rest := []) (lenOf pd_3 rfl) rfl (by show 2 * 0 + _ ≤ _; exact Nat.le_of_eq rfl) (hb hby at_93) (fun _ _ => ⟨rfl, e34, (by decide : 1 + 0 ≤ _), (by decide : 10 + 0 ≤ _)⟩)
  dsimp only [Pt.U, Pt.locs, Pt.cells, Pt.slots] at X35 l35 y35 z35 st35 hQ35
  subst l35 y35 z35
  obtain ⟨rfl, N35q, e35⟩ := hQ35
  have N35 := Fr.app N34 N35q
  obtain ⟨fs, hr, hrun, hended, hW, hsame⟩ := X35.leave (v := some (.int (1 : Int32))) (fun h => by rw [Bd.returns] at h; cases h)
  refine ⟨_, _, pre0 _ ?_, hrun, hended, _, _, rfl, ?_, ⟨_, rfl⟩, hW, hsame.mono (by decide) (by decide)⟩
  · show Steps p.tables e below (s₁.setTop (mkF m 0 #[.val (.int p1), .unset, .unset, .unset, .unset, .unset] [])) _
    refine XS.bipush X0.here hx rfl (hb hby at_0) ?_
    show Steps p.tables e below (s₁.setTop (mkF m 2 #[.val (.int p1), .unset, .unset, .unset, .unset, .unset] [(.int (10 : Int32))])) _
    refine st1 _ ?_
    show Steps p.tables e below (T1.setTop (mkF m 5 #[.val (.int p1), .unset, .unset, .unset, .unset, .unset] [(.ref b1)])) _
    refine XS.dup X1.here hx rfl (hb hby at_5) rfl rfl ?_
    show Steps p.tables e below (T1.setTop (mkF m 6 #[.val (.int p1), .unset, .unset, .unset, .unset, .unset] [(.ref b1), (.ref b1)])) _
    refine XS.iconst X1.here hx rfl (hb hby at_6) ?_
    show Steps p.tables e below (T1.setTop (mkF m 7 #[.val (.int p1), .unset, .unset, .unset, .unset, .unset] [(.int (0 : Int32)), (.ref b1), (.ref b1)])) _
    refine st2 _ ?_
    show Steps p.tables e below (T2.setTop (mkF m 10 #[.val (.int p1), .unset, .unset, .unset, .unset, .unset] [(.ref a_START), (.int (0 : Int32)), (.ref b1), (.ref b1)])) _
    refine st4 _ ?_
    show Steps p.tables e below (T4.setTop (mkF m 11 #[.val (.int p1), .unset, .unset, .unset, .unset, .unset] [(.ref b1)])) _
    refine XS.dup X4.here hx rfl (hb hby at_11) rfl rfl ?_
    show Steps p.tables e below (T4.setTop (mkF m 12 #[.val (.int p1), .unset, .unset, .unset, .unset, .unset] [(.ref b1), (.ref b1)])) _
    refine XS.iconst X4.here hx rfl (hb hby at_12) ?_
    show Steps p.tables e below (T4.setTop (mkF m 13 #[.val (.int p1), .unset, .unset, .unset, .unset, .unset] [(.int (1 : Int32)), (.ref b1), (.ref b1)])) _
    refine st5 _ ?_
    show Steps p.tables e below (T5.setTop (mkF m 16 #[.val (.int p1), .unset, .unset, .unset, .unset, .unset] [(.ref a_READ), (.int (1 : Int32)), (.ref b1), (.ref b1)])) _
    refine st7 _ ?_
    show Steps p.tables e below (T7.setTop (mkF m 17 #[.val (.int p1), .unset, .unset, .unset, .unset, .unset] [(.ref b1)])) _
    refine XS.dup X7.here hx rfl (hb hby at_17) rfl rfl ?_
    show Steps p.tables e below (T7.setTop (mkF m 18 #[.val (.int p1), .unset, .unset, .unset, .unset, .unset] [(.ref b1), (.ref b1)])) _
    refine XS.iconst X7.here hx rfl (hb hby at_18) ?_
    show Steps p.tables e below (T7.setTop (mkF m 19 #[.val (.int p1), .unset, .unset, .unset, .unset, .unset] [(.int (2 : Int32)), (.ref b1), (.ref b1)])) _
    refine st8 _ ?_
    show Steps p.tables e below (T8.setTop (mkF m 22 #[.val (.int p1), .unset, .unset, .unset, .unset, .unset] [(.ref a_UNREAD), (.int (2 : Int32)), (.ref b1), (.ref b1)])) _
    refine st10 _ ?_
    show Steps p.tables e below (T10.setTop (mkF m 23 #[.val (.int p1), .unset, .unset, .unset, .unset, .unset] [(.ref b1)])) _
    refine XS.dup X10.here hx rfl (hb hby at_23) rfl rfl ?_
    show Steps p.tables e below (T10.setTop (mkF m 24 #[.val (.int p1), .unset, .unset, .unset, .unset, .unset] [(.ref b1), (.ref b1)])) _
    refine XS.iconst X10.here hx rfl (hb hby at_24) ?_
    show Steps p.tables e below (T10.setTop (mkF m 25 #[.val (.int p1), .unset, .unset, .unset, .unset, .unset] [(.int (3 : Int32)), (.ref b1), (.ref b1)])) _
    refine st11 _ ?_
    show Steps p.tables e below (T11.setTop (mkF m 28 #[.val (.int p1), .unset, .unset, .unset, .unset, .unset] [(.ref a_POWER_ON), (.int (3 : Int32)), (.ref b1), (.ref b1)])) _
    refine st13 _ ?_
    show Steps p.tables e below (T13.setTop (mkF m 29 #[.val (.int p1), .unset, .unset, .unset, .unset, .unset] [(.ref b1)])) _
    refine XS.dup X13.here hx rfl (hb hby at_29) rfl rfl ?_
    show Steps p.tables e below (T13.setTop (mkF m 30 #[.val (.int p1), .unset, .unset, .unset, .unset, .unset] [(.ref b1), (.ref b1)])) _
    refine XS.iconst X13.here hx rfl (hb hby at_30) ?_
    show Steps p.tables e below (T13.setTop (mkF m 31 #[.val (.int p1), .unset, .unset, .unset, .unset, .unset] [(.int (4 : Int32)), (.ref b1), (.ref b1)])) _
    refine st14 _ ?_
    show Steps p.tables e below (T14.setTop (mkF m 34 #[.val (.int p1), .unset, .unset, .unset, .unset, .unset] [(.ref a_POWER_OFF), (.int (4 : Int32)), (.ref b1), (.ref b1)])) _
    refine st16 _ ?_
    show Steps p.tables e below (T16.setTop (mkF m 35 #[.val (.int p1), .unset, .unset, .unset, .unset, .unset] [(.ref b1)])) _
    refine XS.dup X16.here hx rfl (hb hby at_35) rfl rfl ?_
    show Steps p.tables e below (T16.setTop (mkF m 36 #[.val (.int p1), .unset, .unset, .unset, .unset, .unset] [(.ref b1), (.ref b1)])) _
    refine XS.iconst X16.here hx rfl (hb hby at_36) ?_
    show Steps p.tables e below (T16.setTop (mkF m 37 #[.val (.int p1), .unset, .unset, .unset, .unset, .unset] [(.int (5 : Int32)), (.ref b1), (.ref b1)])) _
    refine st17 _ ?_
    show Steps p.tables e below (T17.setTop (mkF m 40 #[.val (.int p1), .unset, .unset, .unset, .unset, .unset] [(.ref a_HOLD_ON), (.int (5 : Int32)), (.ref b1), (.ref b1)])) _
    refine st19 _ ?_
    show Steps p.tables e below (T19.setTop (mkF m 41 #[.val (.int p1), .unset, .unset, .unset, .unset, .unset] [(.ref b1)])) _
    refine XS.dup X19.here hx rfl (hb hby at_41) rfl rfl ?_
    show Steps p.tables e below (T19.setTop (mkF m 42 #[.val (.int p1), .unset, .unset, .unset, .unset, .unset] [(.ref b1), (.ref b1)])) _
    refine XS.bipush X19.here hx rfl (hb hby at_42) ?_
    show Steps p.tables e below (T19.setTop (mkF m 44 #[.val (.int p1), .unset, .unset, .unset, .unset, .unset] [(.int (6 : Int32)), (.ref b1), (.ref b1)])) _
    refine st20 _ ?_
    show Steps p.tables e below (T20.setTop (mkF m 47 #[.val (.int p1), .unset, .unset, .unset, .unset, .unset] [(.ref a_HOLD_OFF), (.int (6 : Int32)), (.ref b1), (.ref b1)])) _
    refine st22 _ ?_
    show Steps p.tables e below (T22.setTop (mkF m 48 #[.val (.int p1), .unset, .unset, .unset, .unset, .unset] [(.ref b1)])) _
    refine XS.dup X22.here hx rfl (hb hby at_48) rfl rfl ?_
    show Steps p.tables e below (T22.setTop (mkF m 49 #[.val (.int p1), .unset, .unset, .unset, .unset, .unset] [(.ref b1), (.ref b1)])) _
    refine XS.bipush X22.here hx rfl (hb hby at_49) ?_
    show Steps p.tables e below (T22.setTop (mkF m 51 #[.val (.int p1), .unset, .unset, .unset, .unset, .unset] [(.int (7 : Int32)), (.ref b1), (.ref b1)])) _
    refine st23 _ ?_
    show Steps p.tables e below (T23.setTop (mkF m 54 #[.val (.int p1), .unset, .unset, .unset, .unset, .unset] [(.ref a_RELEASE), (.int (7 : Int32)), (.ref b1), (.ref b1)])) _
    refine st25 _ ?_
    show Steps p.tables e below (T25.setTop (mkF m 55 #[.val (.int p1), .unset, .unset, .unset, .unset, .unset] [(.ref b1)])) _
    refine XS.dup X25.here hx rfl (hb hby at_55) rfl rfl ?_
    show Steps p.tables e below (T25.setTop (mkF m 56 #[.val (.int p1), .unset, .unset, .unset, .unset, .unset] [(.ref b1), (.ref b1)])) _
    refine XS.bipush X25.here hx rfl (hb hby at_56) ?_
    show Steps p.tables e below (T25.setTop (mkF m 58 #[.val (.int p1), .unset, .unset, .unset, .unset, .unset] [(.int (8 : Int32)), (.ref b1), (.ref b1)])) _
    refine st26 _ ?_
    show Steps p.tables e below (T26.setTop (mkF m 61 #[.val (.int p1), .unset, .unset, .unset, .unset, .unset] [(.ref a_SPAN_START), (.int (8 : Int32)), (.ref b1), (.ref b1)])) _
    refine st28 _ ?_
    show Steps p.tables e below (T28.setTop (mkF m 62 #[.val (.int p1), .unset, .unset, .unset, .unset, .unset] [(.ref b1)])) _
    refine XS.dup X28.here hx rfl (hb hby at_62) rfl rfl ?_
    show Steps p.tables e below (T28.setTop (mkF m 63 #[.val (.int p1), .unset, .unset, .unset, .unset, .unset] [(.ref b1), (.ref b1)])) _
    refine XS.bipush X28.here hx rfl (hb hby at_63) ?_
    show Steps p.tables e below (T28.setTop (mkF m 65 #[.val (.int p1), .unset, .unset, .unset, .unset, .unset] [(.int (9 : Int32)), (.ref b1), (.ref b1)])) _
    refine st29 _ ?_
    show Steps p.tables e below (T29.setTop (mkF m 68 #[.val (.int p1), .unset, .unset, .unset, .unset, .unset] [(.ref a_SPAN_END), (.int (9 : Int32)), (.ref b1), (.ref b1)])) _
    refine st31 _ ?_
    show Steps p.tables e below (T31.setTop (mkF m 69 #[.val (.int p1), .unset, .unset, .unset, .unset, .unset] [(.ref b1)])) _
    refine XS.astoreN X31.here hx rfl (hb hby at_69) rfl rfl (l' := #[.val (.int p1), .val (.ref b1), .unset, .unset, .unset, .unset]) rfl ?_
    show Steps p.tables e below (T31.setTop (mkF m 70 #[.val (.int p1), .val (.ref b1), .unset, .unset, .unset, .unset] [])) _
    refine XS.aloadN X31.here hx rfl (hb hby at_70) rfl rfl ?_
    show Steps p.tables e below (T31.setTop (mkF m 71 #[.val (.int p1), .val (.ref b1), .unset, .unset, .unset, .unset] [(.ref b1)])) _
    refine XS.iloadN X31.here hx rfl (hb hby at_71) rfl ?_
    show Steps p.tables e below (T31.setTop (mkF m 72 #[.val (.int p1), .val (.ref b1), .unset, .unset, .unset, .unset] [(.int p1), (.ref b1)])) _
    refine X31.ldcInt hx hown (mvT hZ (hw _ (List.mem_of_getElem? (i := 24) rfl))) (g := (mkF m 72 #[.val (.int p1), .val (.ref b1), .unset, .unset, .unset, .unset] [(.int p1), (.ref b1)])) rfl (hb hby at_72) _ ?_
    show Steps p.tables e below (T31.setTop (mkF m 74 #[.val (.int p1), .val (.ref b1), .unset, .unset, .unset, .unset] [(.int (2147483647 : Int32)), (.int p1), (.ref b1)])) _
    refine XS.iand X31.here hx rfl (hb hby at_74) rfl ?_
    show Steps p.tables e below (T31.setTop (mkF m 75 #[.val (.int p1), .val (.ref b1), .unset, .unset, .unset, .unset] [(.int (p1 &&& (2147483647 : Int32))), (.ref b1)])) _
    refine XS.bipush X31.here hx rfl (hb hby at_75) ?_
    show Steps p.tables e below (T31.setTop (mkF m 77 #[.val (.int p1), .val (.ref b1), .unset, .unset, .unset, .unset] [(.int (10 : Int32)), (.int (p1 &&& (2147483647 : Int32))), (.ref b1)])) _
    refine Jvm.RoadKit.iremM (g := (mkF m 77 #[.val (.int p1), .val (.ref b1), .unset, .unset, .unset, .unset] [(.int (10 : Int32)), (.int (p1 &&& (2147483647 : Int32))), (.ref b1)])) X31 hx rfl (hb hby at_77) rfl (by decide) ?_
    rw [hi]
    show Steps p.tables e below (T31.setTop (mkF m 78 #[.val (.int p1), .val (.ref b1), .unset, .unset, .unset, .unset] [(.int (0 : Int32)), (.ref b1)])) _
    refine X31.aaload hx (j := (0 : Int32)) (v := (.ref a_START)) (by rw [e31]; exact Ar32.1) (State.isArrayOf_alike hZ.alike Ar32.2.1) rfl Ar32.2.2 hin32 hat32 (g := (mkF m 78 #[.val (.int p1), .val (.ref b1), .unset, .unset, .unset, .unset] [(.int (0 : Int32)), (.ref b1)])) rfl rfl (hb hby at_78) _ ?_
    show Steps p.tables e below (T31.setTop (mkF m 79 #[.val (.int p1), .val (.ref b1), .unset, .unset, .unset, .unset] [(.ref a_START)])) _
    refine XS.astoreN X31.here hx rfl (hb hby at_79) rfl rfl (l' := #[.val (.int p1), .val (.ref b1), .val (.ref a_START), .unset, .unset, .unset]) rfl ?_
    show Steps p.tables e below (T31.setTop (mkF m 80 #[.val (.int p1), .val (.ref b1), .val (.ref a_START), .unset, .unset, .unset] [])) _
    refine XS.aloadN X31.here hx rfl (hb hby at_80) rfl rfl ?_
    show Steps p.tables e below (T31.setTop (mkF m 81 #[.val (.int p1), .val (.ref b1), .val (.ref a_START), .unset, .unset, .unset] [(.ref a_START)])) _
    refine st33.trans ?_
    show Steps p.tables e below (T33.setTop (mkF m 84 #[.val (.int p1), .val (.ref b1), .val (.ref a_START), .unset, .unset, .unset] [(.int (0 : Int32))])) _
    refine XS.istoreN X33.here hx rfl (hb hby at_84) rfl (l' := #[.val (.int p1), .val (.ref b1), .val (.ref a_START), .val (.int (0 : Int32)), .unset, .unset]) rfl ?_
    show Steps p.tables e below (T33.setTop (mkF m 85 #[.val (.int p1), .val (.ref b1), .val (.ref a_START), .val (.int (0 : Int32)), .unset, .unset] [])) _
    refine XS.aloadN X33.here hx rfl (hb hby at_85) rfl rfl ?_
    show Steps p.tables e below (T33.setTop (mkF m 86 #[.val (.int p1), .val (.ref b1), .val (.ref a_START), .val (.int (0 : Int32)), .unset, .unset] [(.ref a_START)])) _
    refine st34.trans ?_
    show Steps p.tables e below (T34.setTop (mkF m 89 #[.val (.int p1), .val (.ref b1), .val (.ref a_START), .val (.int (0 : Int32)), .unset, .unset] [.null])) _
    refine XS.astore X34.here hx rfl (hb hby at_89) rfl rfl (l' := #[.val (.int p1), .val (.ref b1), .val (.ref a_START), .val (.int (0 : Int32)), .val .null, .unset]) rfl ?_
    show Steps p.tables e below (T34.setTop (mkF m 91 #[.val (.int p1), .val (.ref b1), .val (.ref a_START), .val (.int (0 : Int32)), .val .null, .unset] [])) _
    refine XS.aload X34.here hx rfl (hb hby at_91) rfl rfl ?_
    show Steps p.tables e below (T34.setTop (mkF m 93 #[.val (.int p1), .val (.ref b1), .val (.ref a_START), .val (.int (0 : Int32)), .val .null, .unset] [.null])) _
    refine st35 _ ?_
    show Steps p.tables e below (T35.setTop (mkF m 96 #[.val (.int p1), .val (.ref b1), .val (.ref a_START), .val (.int (0 : Int32)), .val .null, .unset] [(.ref a_RELEASE)])) _
    refine XS.aloadN X35.here hx rfl (hb hby at_96) rfl rfl ?_
    show Steps p.tables e below (T35.setTop (mkF m 97 #[.val (.int p1), .val (.ref b1), .val (.ref a_START), .val (.int (0 : Int32)), .val .null, .unset] [(.ref a_START), (.ref a_RELEASE)])) _
    refine Jvm.RoadKit.acmp (g := (mkF m 97 #[.val (.int p1), .val (.ref b1), .val (.ref a_START), .val (.int (0 : Int32)), .val .null, .unset] [(.ref a_START), (.ref a_RELEASE)])) X35 hx rfl rfl rfl (pc0 := 97) (pc' := 104) (same := false) rfl (hb hby at_97) rfl (decide_eq_false fun q => (Fld.ne F_RELEASE_ordinal F_START_ordinal (fun q => absurd (Value.int.inj q) (by decide))) (Value.ref.inj q)) (by decide) (by decide) ?_
    show Steps p.tables e below (T35.setTop (mkF m 104 #[.val (.int p1), .val (.ref b1), .val (.ref a_START), .val (.int (0 : Int32)), .val .null, .unset] [])) _
    refine XS.iconst X35.here hx rfl (hb hby at_104) ?_
    show Steps p.tables e below (T35.setTop (mkF m 105 #[.val (.int p1), .val (.ref b1), .val (.ref a_START), .val (.int (0 : Int32)), .val .null, .unset] [(.int (0 : Int32))])) _
    refine XS.istore X35.here hx rfl (hb hby at_105) rfl (l' := #[.val (.int p1), .val (.ref b1), .val (.ref a_START), .val (.int (0 : Int32)), .val .null, .val (.int (0 : Int32))]) rfl ?_
    show Steps p.tables e below (T35.setTop (mkF m 107 #[.val (.int p1), .val (.ref b1), .val (.ref a_START), .val (.int (0 : Int32)), .val .null, .val (.int (0 : Int32))] [])) _
    refine XS.iloadN X35.here hx rfl (hb hby at_107) rfl ?_
    show Steps p.tables e below (T35.setTop (mkF m 108 #[.val (.int p1), .val (.ref b1), .val (.ref a_START), .val (.int (0 : Int32)), .val .null, .val (.int (0 : Int32))] [(.int (0 : Int32))])) _
    refine XS.iload X35.here hx rfl (hb hby at_108) rfl ?_
    show Steps p.tables e below (T35.setTop (mkF m 110 #[.val (.int p1), .val (.ref b1), .val (.ref a_START), .val (.int (0 : Int32)), .val .null, .val (.int (0 : Int32))] [(.int (0 : Int32)), (.int (0 : Int32))])) _
    refine XS.icmpNo X35.here hx rfl (hb hby at_110) rfl (teq (by decide : (0 : Int32) = (0 : Int32))).2 ?_
    show Steps p.tables e below (T35.setTop (mkF m 113 #[.val (.int p1), .val (.ref b1), .val (.ref a_START), .val (.int (0 : Int32)), .val .null, .val (.int (0 : Int32))] [])) _
    refine XS.iconst X35.here hx rfl (hb hby at_113) ?_
    show Steps p.tables e below (T35.setTop (mkF m 114 #[.val (.int p1), .val (.ref b1), .val (.ref a_START), .val (.int (0 : Int32)), .val .null, .val (.int (0 : Int32))] [(.int (1 : Int32))])) _
    refine XS.goto X35.here hx rfl (pc0 := 114) (pc' := 118) rfl (hb hby at_114) (by decide) (by decide) ?_
    show Steps p.tables e below (T35.setTop (mkF m 118 #[.val (.int p1), .val (.ref b1), .val (.ref a_START), .val (.int (0 : Int32)), .val .null, .val (.int (0 : Int32))] [(.int (1 : Int32))])) _
    exact retN X35 hx (t := .boolean) Bd.returns (by simp) (hb hby at_118) hr
  · exact ⟨rfl, N35⟩
set_option maxRecDepth 65536 in
set_option maxHeartbeats 40000000 in
theorem rm1_7 (l : Launch) (Z : State) (a0 : Array Value) (hw : ∀ d ∈ tables_1, d.before a0 Z = true) (ws : List Jvm.Cond) (a_START : Addr) (a_READ : Addr) (a_UNREAD : Addr) (a_POWER_ON : Addr) (a_POWER_OFF : Addr) (a_HOLD_ON : Addr) (a_HOLD_OFF : Addr) (a_RELEASE : Addr) (a_SPAN_START : Addr) (a_SPAN_END : Addr) (a_ON : Addr) (a_OFF : Addr) (p1 : Int32) (h0 : Heap) (n0 : Nat) (Z0 : n0 ≤ h0.size) (hS : Wd Z h0 a_START a_READ a_UNREAD a_POWER_ON a_POWER_OFF a_HOLD_ON a_HOLD_OFF a_RELEASE a_SPAN_START a_SPAN_END a_ON a_OFF) :
    MetFree l (⟨"ebbtide/serve/History$Event", "holds", "()Z"⟩ : MethodName) (head1 (Jvm.Cond.code (⟨"ebbtide/serve/History$Event", "holds", "()Z"⟩ : MethodName) prog_171_method_7_code 1 (some .boolean) :: ws) ({ frames := 0, cells := 0, slots := 0, locals := 0 } : Room)) (fun a U => a = #[(.ref a_READ)] ∧ Z.Warmed39 U.vm ∧ U.heap = h0) (fun _ _ _ _ _ => True) (fun _ U o U' => ∃ v L, o = .returned v ∧ QP (some (.int (0 : Int32))) h0 n0 v U'.heap L ∧ FrameEnd U o U' L ({ frames := 0, cells := 0, slots := 0, locals := 0 } : Room).cells ({ frames := 0, cells := 0, slots := 0, locals := 0 } : Room).slots) := by
  refine MetFree.of_bodySF (plainFor_of_name pn_ebbtide_serve_History_Event) hisR ?_
  intro p e s m args below meth c s₁ Bd hml0 hP hK
  obtain ⟨rfl, hZ, hh⟩ := hP
  have hx := Bd.exec
  have hby := Bd.bytes
  have hml : c.maxLocals = 1 := hml0
  have hown : s.vm.findClass "ebbtide/serve/History$Event" = some m.cls := findClass_of_methodNamed Bd.named
  have X0 : Stand p l e ({ frames := 0, cells := 0, slots := 0, locals := 0 } : Room) s m #[(.ref a_READ)] below meth c s₁ [] 0 0 := Stand.of_body Bd
  have e0 : s₁.heap = h0 := by rw [← hh, Bd.state]; rfl
  have N0 := Fr.nil n0
  have pre0 : ∀ t, Steps p.tables e below (s₁.setTop (mkF m 0 #[.val (.ref a_READ)] [])) t → Steps p.tables e below (s₁.setTop (entryFrame m #[(.ref a_READ)] 1)) t := fun t k => castTop (by first | (simp [entryFrame, mkF, argsToLocals, Value.category]; done) | rfl) k
  obtain ⟨S_START, E_START, S_READ, E_READ, S_UNREAD, E_UNREAD, S_POWER_ON, E_POWER_ON, S_POWER_OFF, E_POWER_OFF, S_HOLD_ON, E_HOLD_ON, S_HOLD_OFF, E_HOLD_OFF, S_RELEASE, E_RELEASE, S_SPAN_START, E_SPAN_START, S_SPAN_END, E_SPAN_END, S_ON, E_ON, S_OFF, E_OFF, F_START_ordinal, F_HOLD_ON_ordinal, F_HOLD_OFF_ordinal, F_RELEASE_ordinal, F_POWER_ON_ordinal, F_READ_ordinal, F_POWER_OFF_ordinal, F_UNREAD_ordinal, F_SPAN_START_ordinal, F_SPAN_END_ordinal, F_OFF_ordinal, F_ON_ordinal⟩ := id hS
  obtain ⟨T1, X1, e1, st1⟩ := getS2 X0 hx hZ hown (host := "") (Or.inl (hw _ (List.mem_of_getElem? (i := 30) rfl))) Via.refl e0 S_HOLD_ON (g := (mkF m 1 #[.val (.ref a_READ)] [(.ref a_READ)])) rfl (hb hby d1_1)
  obtain ⟨T2, X2, e2, st2⟩ := getS2 X1 hx hZ hown (host := "") (Or.inl (hw _ (List.mem_of_getElem? (i := 31) rfl))) Via.refl e1 S_HOLD_OFF (g := (mkF m 8 #[.val (.ref a_READ)] [(.ref a_READ)])) rfl (hb hby d1_8)
  obtain ⟨T3, X3, e3, st3⟩ := getS2 X2 hx hZ hown (host := "") (Or.inl (hw _ (List.mem_of_getElem? (i := 32) rfl))) Via.refl e2 S_RELEASE (g := (mkF m 15 #[.val (.ref a_READ)] [(.ref a_READ)])) rfl (hb hby d1_15)
  obtain ⟨fs, hr, hrun, hended, hW, hsame⟩ := X3.leave (v := some (.int (0 : Int32))) (fun h => by rw [Bd.returns] at h; cases h)
  refine ⟨_, _, pre0 _ ?_, hrun, hended, _, _, rfl, ?_, ⟨_, rfl⟩, hW, hsame.mono (by decide) (by decide)⟩
  · show Steps p.tables e below (s₁.setTop (mkF m 0 #[.val (.ref a_READ)] [])) _
    refine XS.aloadN X0.here hx rfl (hb hby d1_0) rfl rfl ?_
    show Steps p.tables e below (s₁.setTop (mkF m 1 #[.val (.ref a_READ)] [(.ref a_READ)])) _
    refine st1 _ ?_
    show Steps p.tables e below (T1.setTop (mkF m 4 #[.val (.ref a_READ)] [(.ref a_HOLD_ON), (.ref a_READ)])) _
    refine Jvm.RoadKit.acmp (g := (mkF m 4 #[.val (.ref a_READ)] [(.ref a_HOLD_ON), (.ref a_READ)])) X1 hx rfl rfl rfl (pc0 := 4) (pc' := 7) (same := false) rfl (hb hby d1_4) rfl (decide_eq_false fun q => (Fld.ne F_READ_ordinal F_HOLD_ON_ordinal (fun q => absurd (Value.int.inj q) (by decide))) (Value.ref.inj q)) (by decide) (by decide) ?_
    show Steps p.tables e below (T1.setTop (mkF m 7 #[.val (.ref a_READ)] [])) _
    refine XS.aloadN X1.here hx rfl (hb hby d1_7) rfl rfl ?_
    show Steps p.tables e below (T1.setTop (mkF m 8 #[.val (.ref a_READ)] [(.ref a_READ)])) _
    refine st2 _ ?_
    show Steps p.tables e below (T2.setTop (mkF m 11 #[.val (.ref a_READ)] [(.ref a_HOLD_OFF), (.ref a_READ)])) _
    refine Jvm.RoadKit.acmp (g := (mkF m 11 #[.val (.ref a_READ)] [(.ref a_HOLD_OFF), (.ref a_READ)])) X2 hx rfl rfl rfl (pc0 := 11) (pc' := 14) (same := false) rfl (hb hby d1_11) rfl (decide_eq_false fun q => (Fld.ne F_READ_ordinal F_HOLD_OFF_ordinal (fun q => absurd (Value.int.inj q) (by decide))) (Value.ref.inj q)) (by decide) (by decide) ?_
    show Steps p.tables e below (T2.setTop (mkF m 14 #[.val (.ref a_READ)] [])) _
    refine XS.aloadN X2.here hx rfl (hb hby d1_14) rfl rfl ?_
    show Steps p.tables e below (T2.setTop (mkF m 15 #[.val (.ref a_READ)] [(.ref a_READ)])) _
    refine st3 _ ?_
    show Steps p.tables e below (T3.setTop (mkF m 18 #[.val (.ref a_READ)] [(.ref a_RELEASE), (.ref a_READ)])) _
    refine Jvm.RoadKit.acmp (g := (mkF m 18 #[.val (.ref a_READ)] [(.ref a_RELEASE), (.ref a_READ)])) X3 hx rfl rfl rfl (pc0 := 18) (pc' := 25) (same := false) rfl (hb hby d1_18) rfl (decide_eq_false fun q => (Fld.ne F_READ_ordinal F_RELEASE_ordinal (fun q => absurd (Value.int.inj q) (by decide))) (Value.ref.inj q)) (by decide) (by decide) ?_
    show Steps p.tables e below (T3.setTop (mkF m 25 #[.val (.ref a_READ)] [])) _
    refine XS.iconst X3.here hx rfl (hb hby d1_25) ?_
    show Steps p.tables e below (T3.setTop (mkF m 26 #[.val (.ref a_READ)] [(.int (0 : Int32))])) _
    exact retN X3 hx (t := .boolean) Bd.returns (by simp) (hb hby d1_26) hr
  · exact ⟨rfl, N0, e3⟩
set_option maxRecDepth 65536 in
set_option maxHeartbeats 40000000 in
theorem rm3_9 (l : Launch) (Z : State) (a0 : Array Value) (hw : ∀ d ∈ tables_1, d.before a0 Z = true) (ws : List Jvm.Cond) (a_START : Addr) (a_READ : Addr) (a_UNREAD : Addr) (a_POWER_ON : Addr) (a_POWER_OFF : Addr) (a_HOLD_ON : Addr) (a_HOLD_OFF : Addr) (a_RELEASE : Addr) (a_SPAN_START : Addr) (a_SPAN_END : Addr) (a_ON : Addr) (a_OFF : Addr) (p1 : Int32) (h0 : Heap) (n0 : Nat) (Z0 : n0 ≤ h0.size) (hS : Wd Z h0 a_START a_READ a_UNREAD a_POWER_ON a_POWER_OFF a_HOLD_ON a_HOLD_OFF a_RELEASE a_SPAN_START a_SPAN_END a_ON a_OFF) :
    MetFree l (⟨"java/lang/Enum", "ordinal", "()I"⟩ : MethodName) (head1 (Jvm.Cond.code (⟨"java/lang/Enum", "ordinal", "()I"⟩ : MethodName) jdk_37_method_2_code 1 (some .int) :: ws) ({ frames := 0, cells := 0, slots := 0, locals := 0 } : Room)) (fun a U => a = #[(.ref a_READ)] ∧ Z.Warmed39 U.vm ∧ U.heap = h0) (fun _ _ _ _ _ => True) (fun _ U o U' => ∃ v L, o = .returned v ∧ QP (some (.int (1 : Int32))) h0 n0 v U'.heap L ∧ FrameEnd U o U' L ({ frames := 0, cells := 0, slots := 0, locals := 0 } : Room).cells ({ frames := 0, cells := 0, slots := 0, locals := 0 } : Room).slots) := by
  refine MetFree.of_bodySF (plainFor_of_name pn_java_lang_Enum) hisR ?_
  intro p e s m args below meth c s₁ Bd hml0 hP hK
  obtain ⟨rfl, hZ, hh⟩ := hP
  have hx := Bd.exec
  have hby := Bd.bytes
  have hml : c.maxLocals = 1 := hml0
  have hown : s.vm.findClass "java/lang/Enum" = some m.cls := findClass_of_methodNamed Bd.named
  have X0 : Stand p l e ({ frames := 0, cells := 0, slots := 0, locals := 0 } : Room) s m #[(.ref a_READ)] below meth c s₁ [] 0 0 := Stand.of_body Bd
  have e0 : s₁.heap = h0 := by rw [← hh, Bd.state]; rfl
  have N0 := Fr.nil n0
  have pre0 : ∀ t, Steps p.tables e below (s₁.setTop (mkF m 0 #[.val (.ref a_READ)] [])) t → Steps p.tables e below (s₁.setTop (entryFrame m #[(.ref a_READ)] 1)) t := fun t k => castTop (by first | (simp [entryFrame, mkF, argsToLocals, Value.category]; done) | rfl) k
  obtain ⟨S_START, E_START, S_READ, E_READ, S_UNREAD, E_UNREAD, S_POWER_ON, E_POWER_ON, S_POWER_OFF, E_POWER_OFF, S_HOLD_ON, E_HOLD_ON, S_HOLD_OFF, E_HOLD_OFF, S_RELEASE, E_RELEASE, S_SPAN_START, E_SPAN_START, S_SPAN_END, E_SPAN_END, S_ON, E_ON, S_OFF, E_OFF, F_START_ordinal, F_HOLD_ON_ordinal, F_HOLD_OFF_ordinal, F_RELEASE_ordinal, F_POWER_ON_ordinal, F_READ_ordinal, F_POWER_OFF_ordinal, F_UNREAD_ordinal, F_SPAN_START_ordinal, F_SPAN_END_ordinal, F_OFF_ordinal, F_ON_ordinal⟩ := id hS
  obtain ⟨T1, X1, e1, st1⟩ := getF X0 hx hZ hown (host := "") (Or.inl (hw _ (List.mem_of_getElem? (i := 45) rfl))) Via.refl e0 F_READ_ordinal (g := (mkF m 1 #[.val (.ref a_READ)] [(.ref a_READ)])) rfl rfl (hb hby d3_1)
  obtain ⟨fs, hr, hrun, hended, hW, hsame⟩ := X1.leave (v := some (.int (1 : Int32))) (fun h => by rw [Bd.returns] at h; cases h)
  refine ⟨_, _, pre0 _ ?_, hrun, hended, _, _, rfl, ?_, ⟨_, rfl⟩, hW, hsame.mono (by decide) (by decide)⟩
  · show Steps p.tables e below (s₁.setTop (mkF m 0 #[.val (.ref a_READ)] [])) _
    refine XS.aloadN X0.here hx rfl (hb hby d3_0) rfl rfl ?_
    show Steps p.tables e below (s₁.setTop (mkF m 1 #[.val (.ref a_READ)] [(.ref a_READ)])) _
    refine st1 _ ?_
    show Steps p.tables e below (T1.setTop (mkF m 4 #[.val (.ref a_READ)] [(.int (1 : Int32))])) _
    exact own_retI X1 hx Bd.returns (hb hby d3_4) hr
  · exact ⟨rfl, N0, e1⟩
set_option maxRecDepth 65536 in
set_option maxHeartbeats 40000000 in
theorem rm2_8 (l : Launch) (Z : State) (a0 : Array Value) (hw : ∀ d ∈ tables_1, d.before a0 Z = true) (ws : List Jvm.Cond) (a_START : Addr) (a_READ : Addr) (a_UNREAD : Addr) (a_POWER_ON : Addr) (a_POWER_OFF : Addr) (a_HOLD_ON : Addr) (a_HOLD_OFF : Addr) (a_RELEASE : Addr) (a_SPAN_START : Addr) (a_SPAN_END : Addr) (a_ON : Addr) (a_OFF : Addr) (p1 : Int32) (h0 : Heap) (n0 : Nat) (Z0 : n0 ≤ h0.size) (hS : Wd Z h0 a_START a_READ a_UNREAD a_POWER_ON a_POWER_OFF a_HOLD_ON a_HOLD_OFF a_RELEASE a_SPAN_START a_SPAN_END a_ON a_OFF) :
    MetFree l (⟨"ebbtide/serve/History$Event", "hold", "()Lebbtide/serve/Hold;"⟩ : MethodName) (head1 (Jvm.Cond.code (⟨"ebbtide/serve/History$Event", "hold", "()Lebbtide/serve/Hold;"⟩ : MethodName) prog_171_method_6_code 1 (some (.object "ebbtide/serve/Hold")) :: ws) ({ frames := 1, cells := 0, slots := 0, locals := 12 } : Room)) (fun a U => a = #[(.ref a_READ)] ∧ Z.Warmed39 U.vm ∧ U.heap = h0) (fun _ _ _ _ _ => True) (fun _ U o U' => ∃ v L, o = .returned v ∧ QP (some .null) h0 n0 v U'.heap L ∧ FrameEnd U o U' L ({ frames := 1, cells := 0, slots := 0, locals := 12 } : Room).cells ({ frames := 1, cells := 0, slots := 0, locals := 12 } : Room).slots) := by
  refine MetFree.of_bodySF (plainFor_of_name pn_ebbtide_serve_History_Event) hisR ?_
  intro p e s m args below meth c s₁ Bd hml0 hP hK
  obtain ⟨rfl, hZ, hh⟩ := hP
  have hx := Bd.exec
  have hby := Bd.bytes
  have hml : c.maxLocals = 1 := hml0
  have hown : s.vm.findClass "ebbtide/serve/History$Event" = some m.cls := findClass_of_methodNamed Bd.named
  have X0 : Stand p l e ({ frames := 1, cells := 0, slots := 0, locals := 12 } : Room) s m #[(.ref a_READ)] below meth c s₁ [] 0 0 := Stand.of_body Bd
  have e0 : s₁.heap = h0 := by rw [← hh, Bd.state]; rfl
  have N0 := Fr.nil n0
  have pre0 : ∀ t, Steps p.tables e below (s₁.setTop (mkF m 0 #[.val (.ref a_READ)] [])) t → Steps p.tables e below (s₁.setTop (entryFrame m #[(.ref a_READ)] 1)) t := fun t k => castTop (by first | (simp [entryFrame, mkF, argsToLocals, Value.category]; done) | rfl) k
  obtain ⟨S_START, E_START, S_READ, E_READ, S_UNREAD, E_UNREAD, S_POWER_ON, E_POWER_ON, S_POWER_OFF, E_POWER_OFF, S_HOLD_ON, E_HOLD_ON, S_HOLD_OFF, E_HOLD_OFF, S_RELEASE, E_RELEASE, S_SPAN_START, E_SPAN_START, S_SPAN_END, E_SPAN_END, S_ON, E_ON, S_OFF, E_OFF, F_START_ordinal, F_HOLD_ON_ordinal, F_HOLD_OFF_ordinal, F_RELEASE_ordinal, F_POWER_ON_ordinal, F_READ_ordinal, F_POWER_OFF_ordinal, F_UNREAD_ordinal, F_SPAN_START_ordinal, F_SPAN_END_ordinal, F_OFF_ordinal, F_ON_ordinal⟩ := id hS
  obtain ⟨cq1, kq1, q1a, q1b, q1c⟩ := isOf hZ e0 E_READ
  obtain ⟨_, _, ⟨T1, L1, k1, n1⟩, -, X1, ⟨Lc1, hQ1, l1, y1, z1⟩, st1⟩ := X0.virtualBackUp hx (owner := "java/lang/Enum") (x := (⟨"ebbtide/serve/History$Event", "ordinal", "()I"⟩ : MethodName)) (y := (⟨"java/lang/Enum", "ordinal", "()I"⟩ : MethodName)) hown (mvT hZ (hw _ (List.mem_of_getElem? (i := 38) rfl))) (mvT hZ (hw _ (List.mem_of_getElem? (i := 39) rfl))) (mvT hZ (hw _ (List.mem_of_getElem? (i := 40) rfl))) (by decide) (mvT hZ (hw _ (List.mem_of_getElem? (i := 42) rfl))) (mvT hZ (hw _ (List.mem_of_getElem? (i := 41) rfl))) (backOf (W := 0) (rm3_9 l Z a0 hw [] a_START a_READ a_UNREAD a_POWER_ON a_POWER_OFF a_HOLD_ON a_HOLD_OFF a_RELEASE a_SPAN_START a_SPAN_END a_ON a_OFF p1 h0 n0 Z0 hS) hZ (hw _ (List.mem_of_getElem? (i := 44) rfl)) (hw _ (List.mem_of_getElem? (i := 43) rfl)) (by decide) (by decide)) q1a q1c (g := (mkF m 1 #[.val (.ref a_READ)] [(.ref a_READ)])) rfl (by rw [hml]; rfl) (Steps.refl _) (argsL := []) (rest := []) (lenOf pd_1 rfl) rfl (by show 2 * 0 + _ ≤ _; exact Nat.le_of_eq rfl) (hb hby d2_1) (fun _ _ => ⟨rfl, e0, (by decide : 0 + 0 ≤ _), (by decide : 0 + 0 ≤ _)⟩)
  dsimp only [Pt.U, Pt.locs, Pt.cells, Pt.slots] at X1 l1 y1 z1 st1 hQ1
  subst l1 y1 z1
  obtain ⟨rfl, N1q, e1⟩ := hQ1
  have N1 := Fr.app N0 N1q
  obtain ⟨fs, hr, hrun, hended, hW, hsame⟩ := X1.leave (v := some .null) (fun h => by rw [Bd.returns] at h; cases h)
  refine ⟨_, _, pre0 _ ?_, hrun, hended, _, _, rfl, ?_, ⟨_, rfl⟩, hW, hsame.mono (by decide) (by decide)⟩
  · show Steps p.tables e below (s₁.setTop (mkF m 0 #[.val (.ref a_READ)] [])) _
    refine XS.aloadN X0.here hx rfl (hb hby d2_0) rfl rfl ?_
    show Steps p.tables e below (s₁.setTop (mkF m 1 #[.val (.ref a_READ)] [(.ref a_READ)])) _
    refine st1.trans ?_
    show Steps p.tables e below (T1.setTop (mkF m 4 #[.val (.ref a_READ)] [(.int (1 : Int32))])) _
    refine X1.lookupswitchMiss hx (g := (mkF m 4 #[.val (.ref a_READ)] [(.int (1 : Int32))])) rfl rfl (hb hby d2_4) (by decide) (by first | decide | rfl | (simp; done)) (by show (0 : Int) ≤ ((4 : Nat) : Int) + 40; decide) _ ?_
    show Steps p.tables e below (T1.setTop (mkF m 44 #[.val (.ref a_READ)] [])) _
    refine XS.aconstNull X1.here hx rfl (hb hby d2_44) ?_
    show Steps p.tables e below (T1.setTop (mkF m 45 #[.val (.ref a_READ)] [.null])) _
    exact own_retA X1 hx Bd.returns rfl rfl (hb hby d2_45) hr
  · exact ⟨rfl, N1, e1⟩
set_option maxRecDepth 65536 in
set_option maxHeartbeats 40000000 in
theorem rm0_6 (l : Launch) (Z : State) (a0 : Array Value) (hw : ∀ d ∈ tables_1, d.before a0 Z = true) (ws : List Jvm.Cond) (a_START : Addr) (a_READ : Addr) (a_UNREAD : Addr) (a_POWER_ON : Addr) (a_POWER_OFF : Addr) (a_HOLD_ON : Addr) (a_HOLD_OFF : Addr) (a_RELEASE : Addr) (a_SPAN_START : Addr) (a_SPAN_END : Addr) (a_ON : Addr) (a_OFF : Addr) (p1 : Int32) (h0 : Heap) (n0 : Nat) (Z0 : n0 ≤ h0.size) (hS : Wd Z h0 a_START a_READ a_UNREAD a_POWER_ON a_POWER_OFF a_HOLD_ON a_HOLD_OFF a_RELEASE a_SPAN_START a_SPAN_END a_ON a_OFF) (hi : ((p1 &&& (2147483647 : Int32)) % (10 : Int32)) = (1 : Int32)) :
    MetFree l x (head1 (Jvm.Cond.code x code maxLocals ret :: ws) room_1) (fun a U => a = #[(.int p1)] ∧ Z.Warmed39 U.vm ∧ U.heap = h0) (fun _ _ _ _ _ => True) (fun _ U o U' => ∃ v L, o = .returned v ∧ Q0 n0 v L ∧ FrameEnd U o U' L room_1.cells room_1.slots) := by
  refine MetFree.of_bodySF (plainFor_of_name pn_ebbtide_serve_HistoryHoldsPinLaw) hisR ?_
  intro p e s m args below meth c s₁ Bd hml0 hP hK
  obtain ⟨rfl, hZ, hh⟩ := hP
  have hx := Bd.exec
  have hby := Bd.bytes
  have hml : c.maxLocals = 6 := hml0
  have hown : s.vm.findClass "ebbtide/serve/HistoryHoldsPinLaw" = some m.cls := findClass_of_methodNamed Bd.named
  have X0 : Stand p l e room_1 s m #[(.int p1)] below meth c s₁ [] 0 0 := Stand.of_body Bd
  have e0 : s₁.heap = h0 := by rw [← hh, Bd.state]; rfl
  have N0 := Fr.nil n0
  have pre0 : ∀ t, Steps p.tables e below (s₁.setTop (mkF m 0 #[.val (.int p1), .unset, .unset, .unset, .unset, .unset] [])) t → Steps p.tables e below (s₁.setTop (entryFrame m #[(.int p1)] maxLocals)) t := fun t k => castTop (by first | (simp [entryFrame, mkF, argsToLocals, Value.category, maxLocals]; done) | rfl) k
  obtain ⟨S_START, E_START, S_READ, E_READ, S_UNREAD, E_UNREAD, S_POWER_ON, E_POWER_ON, S_POWER_OFF, E_POWER_OFF, S_HOLD_ON, E_HOLD_ON, S_HOLD_OFF, E_HOLD_OFF, S_RELEASE, E_RELEASE, S_SPAN_START, E_SPAN_START, S_SPAN_END, E_SPAN_END, S_ON, E_ON, S_OFF, E_OFF, F_START_ordinal, F_HOLD_ON_ordinal, F_HOLD_OFF_ordinal, F_RELEASE_ordinal, F_POWER_ON_ordinal, F_READ_ordinal, F_POWER_OFF_ordinal, F_UNREAD_ordinal, F_SPAN_START_ordinal, F_SPAN_END_ordinal, F_OFF_ordinal, F_ON_ordinal⟩ := id hS
  obtain ⟨T1, h1, k1, X1, e1, E1, A1, O1, st1⟩ := newR X0 hx hZ hown (hw _ (List.mem_of_getElem? (i := 0) rfl)) (hw _ (List.mem_of_getElem? (i := 1) rfl)) e0 (g := (mkF m 2 #[.val (.int p1), .unset, .unset, .unset, .unset, .unset] [(.int (10 : Int32))])) rfl (hb hby at_2) rfl (by decide) (cap := 10) (by decide) (by decide) (by decide) (by decide)
  obtain ⟨b1, g1⟩ : ∃ z, z = h0.size := ⟨_, rfl⟩
  rw [← g1] at A1 st1
  have V1 : Arv Z h1 b1 k1 (.object "ebbtide/serve/History$Event") (10 : Int32) [.null, .null, .null, .null, .null, .null, .null, .null, .null, .null] .null := (Arv.new A1 (by decide)).pad (pad_rep [] .null 10)
  have K1 : Keep h0 h1 [] := (Keep.refl h0 []).ext E1
  have sz_b1 : h0.size ≤ b1 := Nat.le_trans (Keep.refl h0 []).1 (Nat.le_of_eq g1.symm)
  have gz_b1 : n0 ≤ b1 := Nat.le_trans Z0 sz_b1
  obtain ⟨T2, X2, e2, st2⟩ := getS2 X1 hx hZ hown (host := "") (Or.inl (hw _ (List.mem_of_getElem? (i := 2) rfl))) Via.refl e1 (own_sk S_START K1) (g := (mkF m 7 #[.val (.int p1), .unset, .unset, .unset, .unset, .unset] [(.int (0 : Int32)), (.ref b1), (.ref b1)])) rfl (hb hby at_7)
  obtain ⟨cl3, Ar3, qq3, Sz3, Ng3, Hs3, Gf3⟩ := V1
  have hin3 : ¬ ((0 : Int32) < 0 ∨ cl3.slots.size ≤ ((0 : Int32)).toNatClampNeg) := inb_of Sz3 ⟨by decide, by decide⟩
  obtain ⟨T4, h4, X4, e4, W4, st4⟩ := stR X2 hx hZ e2 Ar3 (j := (0 : Int32)) hin3 rfl (Sto.ofV Ar3 qq3 O1 (Ins.self (E_START.keep K1))) (g := (mkF m 10 #[.val (.int p1), .unset, .unset, .unset, .unset, .unset] [(.ref a_START), (.int (0 : Int32)), (.ref b1), (.ref b1)])) rfl rfl (hb hby at_10)
  have V4 : Arv Z h4 b1 k1 (.object "ebbtide/serve/History$Event") (10 : Int32) [(.ref a_START), .null, .null, .null, .null, .null, .null, .null, .null, .null] .null := Arv.set Ar3 qq3 Sz3 Ng3 Hs3 Gf3 rfl W4 0 rfl (Nat.le_of_ble_eq_true rfl)
  have K4 : Keep h0 h4 [] := K1.wr W4 (Or.inr sz_b1)
  have N4 := Fr.snoc X4 N0 gz_b1
  obtain ⟨T5, X5, e5, st5⟩ := getS2 X4 hx hZ hown (host := "") (Or.inl (hw _ (List.mem_of_getElem? (i := 6) rfl))) Via.refl e4 (own_sk S_READ K4) (g := (mkF m 13 #[.val (.int p1), .unset, .unset, .unset, .unset, .unset] [(.int (1 : Int32)), (.ref b1), (.ref b1)])) rfl (hb hby at_13)
  obtain ⟨cl6, Ar6, qq6, Sz6, Ng6, Hs6, Gf6⟩ := V4
  have hin6 : ¬ ((1 : Int32) < 0 ∨ cl6.slots.size ≤ ((1 : Int32)).toNatClampNeg) := inb_of Sz6 ⟨by decide, by decide⟩
  obtain ⟨T7, h7, X7, e7, W7, st7⟩ := stR X5 hx hZ e5 Ar6 (j := (1 : Int32)) hin6 rfl (Sto.ofV Ar6 qq6 O1 (Ins.self (E_READ.keep K4))) (g := (mkF m 16 #[.val (.int p1), .unset, .unset, .unset, .unset, .unset] [(.ref a_READ), (.int (1 : Int32)), (.ref b1), (.ref b1)])) rfl rfl (hb hby at_16)
  have V7 : Arv Z h7 b1 k1 (.object "ebbtide/serve/History$Event") (10 : Int32) [(.ref a_START), (.ref a_READ), .null, .null, .null, .null, .null, .null, .null, .null] .null := Arv.set Ar6 qq6 Sz6 Ng6 Hs6 Gf6 rfl W7 1 rfl (Nat.le_of_ble_eq_true rfl)
  have K7 : Keep h0 h7 [] := K4.wr W7 (Or.inr sz_b1)
  have N7 := Fr.snoc X7 N4 gz_b1
  obtain ⟨T8, X8, e8, st8⟩ := getS2 X7 hx hZ hown (host := "") (Or.inl (hw _ (List.mem_of_getElem? (i := 8) rfl))) Via.refl e7 (own_sk S_UNREAD K7) (g := (mkF m 19 #[.val (.int p1), .unset, .unset, .unset, .unset, .unset] [(.int (2 : Int32)), (.ref b1), (.ref b1)])) rfl (hb hby at_19)
  obtain ⟨cl9, Ar9, qq9, Sz9, Ng9, Hs9, Gf9⟩ := V7
  have hin9 : ¬ ((2 : Int32) < 0 ∨ cl9.slots.size ≤ ((2 : Int32)).toNatClampNeg) := inb_of Sz9 ⟨by decide, by decide⟩
  obtain ⟨T10, h10, X10, e10, W10, st10⟩ := stR X8 hx hZ e8 Ar9 (j := (2 : Int32)) hin9 rfl (Sto.ofV Ar9 qq9 O1 (Ins.self (E_UNREAD.keep K7))) (g := (mkF m 22 #[.val (.int p1), .unset, .unset, .unset, .unset, .unset] [(.ref a_UNREAD), (.int (2 : Int32)), (.ref b1), (.ref b1)])) rfl rfl (hb hby at_22)
  have V10 : Arv Z h10 b1 k1 (.object "ebbtide/serve/History$Event") (10 : Int32) [(.ref a_START), (.ref a_READ), (.ref a_UNREAD), .null, .null, .null, .null, .null, .null, .null] .null := Arv.set Ar9 qq9 Sz9 Ng9 Hs9 Gf9 rfl W10 2 rfl (Nat.le_of_ble_eq_true rfl)
  have K10 : Keep h0 h10 [] := K7.wr W10 (Or.inr sz_b1)
  have N10 := Fr.snoc X10 N7 gz_b1
  obtain ⟨T11, X11, e11, st11⟩ := getS2 X10 hx hZ hown (host := "") (Or.inl (hw _ (List.mem_of_getElem? (i := 10) rfl))) Via.refl e10 (own_sk S_POWER_ON K10) (g := (mkF m 25 #[.val (.int p1), .unset, .unset, .unset, .unset, .unset] [(.int (3 : Int32)), (.ref b1), (.ref b1)])) rfl (hb hby at_25)
  obtain ⟨cl12, Ar12, qq12, Sz12, Ng12, Hs12, Gf12⟩ := V10
  have hin12 : ¬ ((3 : Int32) < 0 ∨ cl12.slots.size ≤ ((3 : Int32)).toNatClampNeg) := inb_of Sz12 ⟨by decide, by decide⟩
  obtain ⟨T13, h13, X13, e13, W13, st13⟩ := stR X11 hx hZ e11 Ar12 (j := (3 : Int32)) hin12 rfl (Sto.ofV Ar12 qq12 O1 (Ins.self (E_POWER_ON.keep K10))) (g := (mkF m 28 #[.val (.int p1), .unset, .unset, .unset, .unset, .unset] [(.ref a_POWER_ON), (.int (3 : Int32)), (.ref b1), (.ref b1)])) rfl rfl (hb hby at_28)
  have V13 : Arv Z h13 b1 k1 (.object "ebbtide/serve/History$Event") (10 : Int32) [(.ref a_START), (.ref a_READ), (.ref a_UNREAD), (.ref a_POWER_ON), .null, .null, .null, .null, .null, .null] .null := Arv.set Ar12 qq12 Sz12 Ng12 Hs12 Gf12 rfl W13 3 rfl (Nat.le_of_ble_eq_true rfl)
  have K13 : Keep h0 h13 [] := K10.wr W13 (Or.inr sz_b1)
  have N13 := Fr.snoc X13 N10 gz_b1
  obtain ⟨T14, X14, e14, st14⟩ := getS2 X13 hx hZ hown (host := "") (Or.inl (hw _ (List.mem_of_getElem? (i := 12) rfl))) Via.refl e13 (own_sk S_POWER_OFF K13) (g := (mkF m 31 #[.val (.int p1), .unset, .unset, .unset, .unset, .unset] [(.int (4 : Int32)), (.ref b1), (.ref b1)])) rfl (hb hby at_31)
  obtain ⟨cl15, Ar15, qq15, Sz15, Ng15, Hs15, Gf15⟩ := V13
  have hin15 : ¬ ((4 : Int32) < 0 ∨ cl15.slots.size ≤ ((4 : Int32)).toNatClampNeg) := inb_of Sz15 ⟨by decide, by decide⟩
  obtain ⟨T16, h16, X16, e16, W16, st16⟩ := stR X14 hx hZ e14 Ar15 (j := (4 : Int32)) hin15 rfl (Sto.ofV Ar15 qq15 O1 (Ins.self (E_POWER_OFF.keep K13))) (g := (mkF m 34 #[.val (.int p1), .unset, .unset, .unset, .unset, .unset] [(.ref a_POWER_OFF), (.int (4 : Int32)), (.ref b1), (.ref b1)])) rfl rfl (hb hby at_34)
  have V16 : Arv Z h16 b1 k1 (.object "ebbtide/serve/History$Event") (10 : Int32) [(.ref a_START), (.ref a_READ), (.ref a_UNREAD), (.ref a_POWER_ON), (.ref a_POWER_OFF), .null, .null, .null, .null, .null] .null := Arv.set Ar15 qq15 Sz15 Ng15 Hs15 Gf15 rfl W16 4 rfl (Nat.le_of_ble_eq_true rfl)
  have K16 : Keep h0 h16 [] := K13.wr W16 (Or.inr sz_b1)
  have N16 := Fr.snoc X16 N13 gz_b1
  obtain ⟨T17, X17, e17, st17⟩ := getS2 X16 hx hZ hown (host := "") (Or.inl (hw _ (List.mem_of_getElem? (i := 14) rfl))) Via.refl e16 (own_sk S_HOLD_ON K16) (g := (mkF m 37 #[.val (.int p1), .unset, .unset, .unset, .unset, .unset] [(.int (5 : Int32)), (.ref b1), (.ref b1)])) rfl (hb hby at_37)
  obtain ⟨cl18, Ar18, qq18, Sz18, Ng18, Hs18, Gf18⟩ := V16
  have hin18 : ¬ ((5 : Int32) < 0 ∨ cl18.slots.size ≤ ((5 : Int32)).toNatClampNeg) := inb_of Sz18 ⟨by decide, by decide⟩
  obtain ⟨T19, h19, X19, e19, W19, st19⟩ := stR X17 hx hZ e17 Ar18 (j := (5 : Int32)) hin18 rfl (Sto.ofV Ar18 qq18 O1 (Ins.self (E_HOLD_ON.keep K16))) (g := (mkF m 40 #[.val (.int p1), .unset, .unset, .unset, .unset, .unset] [(.ref a_HOLD_ON), (.int (5 : Int32)), (.ref b1), (.ref b1)])) rfl rfl (hb hby at_40)
  have V19 : Arv Z h19 b1 k1 (.object "ebbtide/serve/History$Event") (10 : Int32) [(.ref a_START), (.ref a_READ), (.ref a_UNREAD), (.ref a_POWER_ON), (.ref a_POWER_OFF), (.ref a_HOLD_ON), .null, .null, .null, .null] .null := Arv.set Ar18 qq18 Sz18 Ng18 Hs18 Gf18 rfl W19 5 rfl (Nat.le_of_ble_eq_true rfl)
  have K19 : Keep h0 h19 [] := K16.wr W19 (Or.inr sz_b1)
  have N19 := Fr.snoc X19 N16 gz_b1
  obtain ⟨T20, X20, e20, st20⟩ := getS2 X19 hx hZ hown (host := "") (Or.inl (hw _ (List.mem_of_getElem? (i := 16) rfl))) Via.refl e19 (own_sk S_HOLD_OFF K19) (g := (mkF m 44 #[.val (.int p1), .unset, .unset, .unset, .unset, .unset] [(.int (6 : Int32)), (.ref b1), (.ref b1)])) rfl (hb hby at_44)
  obtain ⟨cl21, Ar21, qq21, Sz21, Ng21, Hs21, Gf21⟩ := V19
  have hin21 : ¬ ((6 : Int32) < 0 ∨ cl21.slots.size ≤ ((6 : Int32)).toNatClampNeg) := inb_of Sz21 ⟨by decide, by decide⟩
  obtain ⟨T22, h22, X22, e22, W22, st22⟩ := stR X20 hx hZ e20 Ar21 (j := (6 : Int32)) hin21 rfl (Sto.ofV Ar21 qq21 O1 (Ins.self (E_HOLD_OFF.keep K19))) (g := (mkF m 47 #[.val (.int p1), .unset, .unset, .unset, .unset, .unset] [(.ref a_HOLD_OFF), (.int (6 : Int32)), (.ref b1), (.ref b1)])) rfl rfl (hb hby at_47)
  have V22 : Arv Z h22 b1 k1 (.object "ebbtide/serve/History$Event") (10 : Int32) [(.ref a_START), (.ref a_READ), (.ref a_UNREAD), (.ref a_POWER_ON), (.ref a_POWER_OFF), (.ref a_HOLD_ON), (.ref a_HOLD_OFF), .null, .null, .null] .null := Arv.set Ar21 qq21 Sz21 Ng21 Hs21 Gf21 rfl W22 6 rfl (Nat.le_of_ble_eq_true rfl)
  have K22 : Keep h0 h22 [] := K19.wr W22 (Or.inr sz_b1)
  have N22 := Fr.snoc X22 N19 gz_b1
  obtain ⟨T23, X23, e23, st23⟩ := getS2 X22 hx hZ hown (host := "") (Or.inl (hw _ (List.mem_of_getElem? (i := 18) rfl))) Via.refl e22 (own_sk S_RELEASE K22) (g := (mkF m 51 #[.val (.int p1), .unset, .unset, .unset, .unset, .unset] [(.int (7 : Int32)), (.ref b1), (.ref b1)])) rfl (hb hby at_51)
  obtain ⟨cl24, Ar24, qq24, Sz24, Ng24, Hs24, Gf24⟩ := V22
  have hin24 : ¬ ((7 : Int32) < 0 ∨ cl24.slots.size ≤ ((7 : Int32)).toNatClampNeg) := inb_of Sz24 ⟨by decide, by decide⟩
  obtain ⟨T25, h25, X25, e25, W25, st25⟩ := stR X23 hx hZ e23 Ar24 (j := (7 : Int32)) hin24 rfl (Sto.ofV Ar24 qq24 O1 (Ins.self (E_RELEASE.keep K22))) (g := (mkF m 54 #[.val (.int p1), .unset, .unset, .unset, .unset, .unset] [(.ref a_RELEASE), (.int (7 : Int32)), (.ref b1), (.ref b1)])) rfl rfl (hb hby at_54)
  have V25 : Arv Z h25 b1 k1 (.object "ebbtide/serve/History$Event") (10 : Int32) [(.ref a_START), (.ref a_READ), (.ref a_UNREAD), (.ref a_POWER_ON), (.ref a_POWER_OFF), (.ref a_HOLD_ON), (.ref a_HOLD_OFF), (.ref a_RELEASE), .null, .null] .null := Arv.set Ar24 qq24 Sz24 Ng24 Hs24 Gf24 rfl W25 7 rfl (Nat.le_of_ble_eq_true rfl)
  have K25 : Keep h0 h25 [] := K22.wr W25 (Or.inr sz_b1)
  have N25 := Fr.snoc X25 N22 gz_b1
  obtain ⟨T26, X26, e26, st26⟩ := getS2 X25 hx hZ hown (host := "") (Or.inl (hw _ (List.mem_of_getElem? (i := 20) rfl))) Via.refl e25 (own_sk S_SPAN_START K25) (g := (mkF m 58 #[.val (.int p1), .unset, .unset, .unset, .unset, .unset] [(.int (8 : Int32)), (.ref b1), (.ref b1)])) rfl (hb hby at_58)
  obtain ⟨cl27, Ar27, qq27, Sz27, Ng27, Hs27, Gf27⟩ := V25
  have hin27 : ¬ ((8 : Int32) < 0 ∨ cl27.slots.size ≤ ((8 : Int32)).toNatClampNeg) := inb_of Sz27 ⟨by decide, by decide⟩
  obtain ⟨T28, h28, X28, e28, W28, st28⟩ := stR X26 hx hZ e26 Ar27 (j := (8 : Int32)) hin27 rfl (Sto.ofV Ar27 qq27 O1 (Ins.self (E_SPAN_START.keep K25))) (g := (mkF m 61 #[.val (.int p1), .unset, .unset, .unset, .unset, .unset] [(.ref a_SPAN_START), (.int (8 : Int32)), (.ref b1), (.ref b1)])) rfl rfl (hb hby at_61)
  have V28 : Arv Z h28 b1 k1 (.object "ebbtide/serve/History$Event") (10 : Int32) [(.ref a_START), (.ref a_READ), (.ref a_UNREAD), (.ref a_POWER_ON), (.ref a_POWER_OFF), (.ref a_HOLD_ON), (.ref a_HOLD_OFF), (.ref a_RELEASE), (.ref a_SPAN_START), .null] .null := Arv.set Ar27 qq27 Sz27 Ng27 Hs27 Gf27 rfl W28 8 rfl (Nat.le_of_ble_eq_true rfl)
  have K28 : Keep h0 h28 [] := K25.wr W28 (Or.inr sz_b1)
  have N28 := Fr.snoc X28 N25 gz_b1
  obtain ⟨T29, X29, e29, st29⟩ := getS2 X28 hx hZ hown (host := "") (Or.inl (hw _ (List.mem_of_getElem? (i := 22) rfl))) Via.refl e28 (own_sk S_SPAN_END K28) (g := (mkF m 65 #[.val (.int p1), .unset, .unset, .unset, .unset, .unset] [(.int (9 : Int32)), (.ref b1), (.ref b1)])) rfl (hb hby at_65)
  obtain ⟨cl30, Ar30, qq30, Sz30, Ng30, Hs30, Gf30⟩ := V28
  have hin30 : ¬ ((9 : Int32) < 0 ∨ cl30.slots.size ≤ ((9 : Int32)).toNatClampNeg) := inb_of Sz30 ⟨by decide, by decide⟩
  obtain ⟨T31, h31, X31, e31, W31, st31⟩ := stR X29 hx hZ e29 Ar30 (j := (9 : Int32)) hin30 rfl (Sto.ofV Ar30 qq30 O1 (Ins.self (E_SPAN_END.keep K28))) (g := (mkF m 68 #[.val (.int p1), .unset, .unset, .unset, .unset, .unset] [(.ref a_SPAN_END), (.int (9 : Int32)), (.ref b1), (.ref b1)])) rfl rfl (hb hby at_68)
  have V31 : Arv Z h31 b1 k1 (.object "ebbtide/serve/History$Event") (10 : Int32) [(.ref a_START), (.ref a_READ), (.ref a_UNREAD), (.ref a_POWER_ON), (.ref a_POWER_OFF), (.ref a_HOLD_ON), (.ref a_HOLD_OFF), (.ref a_RELEASE), (.ref a_SPAN_START), (.ref a_SPAN_END)] .null := Arv.set Ar30 qq30 Sz30 Ng30 Hs30 Gf30 rfl W31 9 rfl (Nat.le_of_ble_eq_true rfl)
  have K31 : Keep h0 h31 [] := K28.wr W31 (Or.inr sz_b1)
  have N31 := Fr.snoc X31 N28 gz_b1
  obtain ⟨cl32, Ar32, qq32, Sz32, Ng32, Hs32, Gf32⟩ := V31
  have hin32 : ¬ ((1 : Int32) < 0 ∨ cl32.slots.size ≤ ((1 : Int32)).toNatClampNeg) := inb_of Sz32 ⟨by decide, by decide⟩
  have hat32 : cl32.slots[((1 : Int32)).toNatClampNeg]? = some (.ref a_READ) := Hs32.at hin32 rfl
  obtain ⟨cq33, kq33, q33a, q33b, q33c⟩ := isOf hZ e31 (E_READ.keep K31)
  obtain ⟨_, _, ⟨T33, L33, k33, n33⟩, -, X33, ⟨Lc33, hQ33, l33, y33, z33⟩, st33⟩ := X31.virtualBack hx (y := (⟨"ebbtide/serve/History$Event", "holds", "()Z"⟩ : MethodName)) (z := (⟨"ebbtide/serve/History$Event", "holds", "()Z"⟩ : MethodName)) hown (mvT hZ (hw _ (List.mem_of_getElem? (i := 25) rfl))) (mvT hZ (hw _ (List.mem_of_getElem? (i := 26) rfl))) (notFace_of_selects (args := #[]) (mvT hZ (hw _ (List.mem_of_getElem? (i := 28) rfl)))) (mvT hZ (hw _ (List.mem_of_getElem? (i := 28) rfl))) (mvT hZ (hw _ (List.mem_of_getElem? (i := 27) rfl))) (by decide) (backOf (W := 0) (rm1_7 l Z a0 hw [] a_START a_READ a_UNREAD a_POWER_ON a_POWER_OFF a_HOLD_ON a_HOLD_OFF a_RELEASE a_SPAN_START a_SPAN_END a_ON a_OFF p1 h31 n0 (Nat.le_trans Z0 K31.1) (own_wk hS K31)) hZ (hw _ (List.mem_of_getElem? (i := 29) rfl)) (hw _ (List.mem_of_getElem? (i := 3) rfl)) (by decide) (by decide)) q33a q33c (g := (mkF m 81 #[.val (.int p1), .val (.ref b1), .val (.ref a_READ), .unset, .unset, .unset] [(.ref a_READ)])) rfl (by rw [hml]; rfl) (Steps.refl _) (argsL := []) (rest := []) (lenOf pd_0 rfl) rfl (by show 2 * 0 + _ ≤ _; exact Nat.le_of_eq rfl) (hb hby at_81) (fun _ _ => ⟨rfl, e31, (by decide : 1 + 0 ≤ _), (by decide : 10 + 0 ≤ _)⟩)
  dsimp only [Pt.U, Pt.locs, Pt.cells, Pt.slots] at X33 l33 y33 z33 st33 hQ33
  subst l33 y33 z33
  obtain ⟨rfl, N33q, e33⟩ := hQ33
  have N33 := Fr.app N31 N33q
  obtain ⟨cq34, kq34, q34a, q34b, q34c⟩ := isOf hZ e33 (E_READ.keep K31)
  obtain ⟨_, _, ⟨T34, L34, k34, n34⟩, -, X34, ⟨Lc34, hQ34, l34, y34, z34⟩, st34⟩ := X33.virtualBack hx (y := (⟨"ebbtide/serve/History$Event", "hold", "()Lebbtide/serve/Hold;"⟩ : MethodName)) (z := (⟨"ebbtide/serve/History$Event", "hold", "()Lebbtide/serve/Hold;"⟩ : MethodName)) hown (mvT hZ (hw _ (List.mem_of_getElem? (i := 33) rfl))) (mvT hZ (hw _ (List.mem_of_getElem? (i := 34) rfl))) (notFace_of_selects (args := #[]) (mvT hZ (hw _ (List.mem_of_getElem? (i := 36) rfl)))) (mvT hZ (hw _ (List.mem_of_getElem? (i := 36) rfl))) (mvT hZ (hw _ (List.mem_of_getElem? (i := 35) rfl))) (by decide) (backOf (W := 0) (rm2_8 l Z a0 hw [] a_START a_READ a_UNREAD a_POWER_ON a_POWER_OFF a_HOLD_ON a_HOLD_OFF a_RELEASE a_SPAN_START a_SPAN_END a_ON a_OFF p1 h31 n0 (Nat.le_trans Z0 K31.1) (own_wk hS K31)) hZ (hw _ (List.mem_of_getElem? (i := 37) rfl)) (hw _ (List.mem_of_getElem? (i := 3) rfl)) (by decide) (by decide)) q34a q34c (g := (mkF m 86 #[.val (.int p1), .val (.ref b1), .val (.ref a_READ), .val (.int (0 : Int32)), .unset, .unset] [(.ref a_READ)])) rfl (by rw [hml]; rfl) (Steps.refl _) (argsL := []) (rest := []) (lenOf pd_2 rfl) rfl (by show 2 * 0 + _ ≤ _; exact Nat.le_of_eq rfl) (hb hby at_86) (fun _ _ => ⟨rfl, e33, (by decide : 1 + 0 ≤ _), (by decide : 10 + 0 ≤ _)⟩)
  dsimp only [Pt.U, Pt.locs, Pt.cells, Pt.slots] at X34 l34 y34 z34 st34 hQ34
  subst l34 y34 z34
  obtain ⟨rfl, N34q, e34⟩ := hQ34
  have N34 := Fr.app N33 N34q
  obtain ⟨_, _, ⟨T35, L35, k35, n35⟩, -, X35, ⟨Lc35, hQ35, l35, y35, z35⟩, st35⟩ := Jvm.LawKit.callS X34 hx (y := (⟨"ebbtide/serve/History$Event", "of", "(Lebbtide/serve/Hold;)Lebbtide/serve/History$Event;"⟩ : MethodName)) hown (mvT hZ (hw _ (List.mem_of_getElem? (i := 47) rfl))) (mvT hZ (hw _ (List.mem_of_getElem? (i := 48) rfl))) (mvT hZ (hw _ (List.mem_of_getElem? (i := 3) rfl))) (mvT hZ (hw _ (List.mem_of_getElem? (i := 49) rfl))) (by decide) (backOf (W := 0) (rm4_5 l Z a0 hw [] a_START a_READ a_UNREAD a_POWER_ON a_POWER_OFF a_HOLD_ON a_HOLD_OFF a_RELEASE a_SPAN_START a_SPAN_END a_ON a_OFF p1 h31 n0 (Nat.le_trans Z0 K31.1) (own_wk hS K31)) hZ (hw _ (List.mem_of_getElem? (i := 49) rfl)) (hw _ (List.mem_of_getElem? (i := 3) rfl)) (by decide) (by decide)) (g := (mkF m 93 #[.val (.int p1), .val (.ref b1), .val (.ref a_READ), .val (.int (0 : Int32)), .val .null, .unset] [.null])) rfl (by rw [hml]; rfl) (argsL := [.null]) (rest := []) (lenOf pd_3 rfl) rfl (by show 2 * 0 + _ ≤ _; exact Nat.le_of_eq rfl) (hb hby at_93) (fun _ _ => ⟨rfl, e34, (by decide : 1 + 0 ≤ _), (by decide : 10 + 0 ≤ _)⟩)
  dsimp only [Pt.U, Pt.locs, Pt.cells, Pt.slots] at X35 l35 y35 z35 st35 hQ35
  subst l35 y35 z35
  obtain ⟨rfl, N35q, e35⟩ := hQ35
  have N35 := Fr.app N34 N35q
  obtain ⟨fs, hr, hrun, hended, hW, hsame⟩ := X35.leave (v := some (.int (1 : Int32))) (fun h => by rw [Bd.returns] at h; cases h)
  refine ⟨_, _, pre0 _ ?_, hrun, hended, _, _, rfl, ?_, ⟨_, rfl⟩, hW, hsame.mono (by decide) (by decide)⟩
  · show Steps p.tables e below (s₁.setTop (mkF m 0 #[.val (.int p1), .unset, .unset, .unset, .unset, .unset] [])) _
    refine XS.bipush X0.here hx rfl (hb hby at_0) ?_
    show Steps p.tables e below (s₁.setTop (mkF m 2 #[.val (.int p1), .unset, .unset, .unset, .unset, .unset] [(.int (10 : Int32))])) _
    refine st1 _ ?_
    show Steps p.tables e below (T1.setTop (mkF m 5 #[.val (.int p1), .unset, .unset, .unset, .unset, .unset] [(.ref b1)])) _
    refine XS.dup X1.here hx rfl (hb hby at_5) rfl rfl ?_
    show Steps p.tables e below (T1.setTop (mkF m 6 #[.val (.int p1), .unset, .unset, .unset, .unset, .unset] [(.ref b1), (.ref b1)])) _
    refine XS.iconst X1.here hx rfl (hb hby at_6) ?_
    show Steps p.tables e below (T1.setTop (mkF m 7 #[.val (.int p1), .unset, .unset, .unset, .unset, .unset] [(.int (0 : Int32)), (.ref b1), (.ref b1)])) _
    refine st2 _ ?_
    show Steps p.tables e below (T2.setTop (mkF m 10 #[.val (.int p1), .unset, .unset, .unset, .unset, .unset] [(.ref a_START), (.int (0 : Int32)), (.ref b1), (.ref b1)])) _
    refine st4 _ ?_
    show Steps p.tables e below (T4.setTop (mkF m 11 #[.val (.int p1), .unset, .unset, .unset, .unset, .unset] [(.ref b1)])) _
    refine XS.dup X4.here hx rfl (hb hby at_11) rfl rfl ?_
    show Steps p.tables e below (T4.setTop (mkF m 12 #[.val (.int p1), .unset, .unset, .unset, .unset, .unset] [(.ref b1), (.ref b1)])) _
    refine XS.iconst X4.here hx rfl (hb hby at_12) ?_
    show Steps p.tables e below (T4.setTop (mkF m 13 #[.val (.int p1), .unset, .unset, .unset, .unset, .unset] [(.int (1 : Int32)), (.ref b1), (.ref b1)])) _
    refine st5 _ ?_
    show Steps p.tables e below (T5.setTop (mkF m 16 #[.val (.int p1), .unset, .unset, .unset, .unset, .unset] [(.ref a_READ), (.int (1 : Int32)), (.ref b1), (.ref b1)])) _
    refine st7 _ ?_
    show Steps p.tables e below (T7.setTop (mkF m 17 #[.val (.int p1), .unset, .unset, .unset, .unset, .unset] [(.ref b1)])) _
    refine XS.dup X7.here hx rfl (hb hby at_17) rfl rfl ?_
    show Steps p.tables e below (T7.setTop (mkF m 18 #[.val (.int p1), .unset, .unset, .unset, .unset, .unset] [(.ref b1), (.ref b1)])) _
    refine XS.iconst X7.here hx rfl (hb hby at_18) ?_
    show Steps p.tables e below (T7.setTop (mkF m 19 #[.val (.int p1), .unset, .unset, .unset, .unset, .unset] [(.int (2 : Int32)), (.ref b1), (.ref b1)])) _
    refine st8 _ ?_
    show Steps p.tables e below (T8.setTop (mkF m 22 #[.val (.int p1), .unset, .unset, .unset, .unset, .unset] [(.ref a_UNREAD), (.int (2 : Int32)), (.ref b1), (.ref b1)])) _
    refine st10 _ ?_
    show Steps p.tables e below (T10.setTop (mkF m 23 #[.val (.int p1), .unset, .unset, .unset, .unset, .unset] [(.ref b1)])) _
    refine XS.dup X10.here hx rfl (hb hby at_23) rfl rfl ?_
    show Steps p.tables e below (T10.setTop (mkF m 24 #[.val (.int p1), .unset, .unset, .unset, .unset, .unset] [(.ref b1), (.ref b1)])) _
    refine XS.iconst X10.here hx rfl (hb hby at_24) ?_
    show Steps p.tables e below (T10.setTop (mkF m 25 #[.val (.int p1), .unset, .unset, .unset, .unset, .unset] [(.int (3 : Int32)), (.ref b1), (.ref b1)])) _
    refine st11 _ ?_
    show Steps p.tables e below (T11.setTop (mkF m 28 #[.val (.int p1), .unset, .unset, .unset, .unset, .unset] [(.ref a_POWER_ON), (.int (3 : Int32)), (.ref b1), (.ref b1)])) _
    refine st13 _ ?_
    show Steps p.tables e below (T13.setTop (mkF m 29 #[.val (.int p1), .unset, .unset, .unset, .unset, .unset] [(.ref b1)])) _
    refine XS.dup X13.here hx rfl (hb hby at_29) rfl rfl ?_
    show Steps p.tables e below (T13.setTop (mkF m 30 #[.val (.int p1), .unset, .unset, .unset, .unset, .unset] [(.ref b1), (.ref b1)])) _
    refine XS.iconst X13.here hx rfl (hb hby at_30) ?_
    show Steps p.tables e below (T13.setTop (mkF m 31 #[.val (.int p1), .unset, .unset, .unset, .unset, .unset] [(.int (4 : Int32)), (.ref b1), (.ref b1)])) _
    refine st14 _ ?_
    show Steps p.tables e below (T14.setTop (mkF m 34 #[.val (.int p1), .unset, .unset, .unset, .unset, .unset] [(.ref a_POWER_OFF), (.int (4 : Int32)), (.ref b1), (.ref b1)])) _
    refine st16 _ ?_
    show Steps p.tables e below (T16.setTop (mkF m 35 #[.val (.int p1), .unset, .unset, .unset, .unset, .unset] [(.ref b1)])) _
    refine XS.dup X16.here hx rfl (hb hby at_35) rfl rfl ?_
    show Steps p.tables e below (T16.setTop (mkF m 36 #[.val (.int p1), .unset, .unset, .unset, .unset, .unset] [(.ref b1), (.ref b1)])) _
    refine XS.iconst X16.here hx rfl (hb hby at_36) ?_
    show Steps p.tables e below (T16.setTop (mkF m 37 #[.val (.int p1), .unset, .unset, .unset, .unset, .unset] [(.int (5 : Int32)), (.ref b1), (.ref b1)])) _
    refine st17 _ ?_
    show Steps p.tables e below (T17.setTop (mkF m 40 #[.val (.int p1), .unset, .unset, .unset, .unset, .unset] [(.ref a_HOLD_ON), (.int (5 : Int32)), (.ref b1), (.ref b1)])) _
    refine st19 _ ?_
    show Steps p.tables e below (T19.setTop (mkF m 41 #[.val (.int p1), .unset, .unset, .unset, .unset, .unset] [(.ref b1)])) _
    refine XS.dup X19.here hx rfl (hb hby at_41) rfl rfl ?_
    show Steps p.tables e below (T19.setTop (mkF m 42 #[.val (.int p1), .unset, .unset, .unset, .unset, .unset] [(.ref b1), (.ref b1)])) _
    refine XS.bipush X19.here hx rfl (hb hby at_42) ?_
    show Steps p.tables e below (T19.setTop (mkF m 44 #[.val (.int p1), .unset, .unset, .unset, .unset, .unset] [(.int (6 : Int32)), (.ref b1), (.ref b1)])) _
    refine st20 _ ?_
    show Steps p.tables e below (T20.setTop (mkF m 47 #[.val (.int p1), .unset, .unset, .unset, .unset, .unset] [(.ref a_HOLD_OFF), (.int (6 : Int32)), (.ref b1), (.ref b1)])) _
    refine st22 _ ?_
    show Steps p.tables e below (T22.setTop (mkF m 48 #[.val (.int p1), .unset, .unset, .unset, .unset, .unset] [(.ref b1)])) _
    refine XS.dup X22.here hx rfl (hb hby at_48) rfl rfl ?_
    show Steps p.tables e below (T22.setTop (mkF m 49 #[.val (.int p1), .unset, .unset, .unset, .unset, .unset] [(.ref b1), (.ref b1)])) _
    refine XS.bipush X22.here hx rfl (hb hby at_49) ?_
    show Steps p.tables e below (T22.setTop (mkF m 51 #[.val (.int p1), .unset, .unset, .unset, .unset, .unset] [(.int (7 : Int32)), (.ref b1), (.ref b1)])) _
    refine st23 _ ?_
    show Steps p.tables e below (T23.setTop (mkF m 54 #[.val (.int p1), .unset, .unset, .unset, .unset, .unset] [(.ref a_RELEASE), (.int (7 : Int32)), (.ref b1), (.ref b1)])) _
    refine st25 _ ?_
    show Steps p.tables e below (T25.setTop (mkF m 55 #[.val (.int p1), .unset, .unset, .unset, .unset, .unset] [(.ref b1)])) _
    refine XS.dup X25.here hx rfl (hb hby at_55) rfl rfl ?_
    show Steps p.tables e below (T25.setTop (mkF m 56 #[.val (.int p1), .unset, .unset, .unset, .unset, .unset] [(.ref b1), (.ref b1)])) _
    refine XS.bipush X25.here hx rfl (hb hby at_56) ?_
    show Steps p.tables e below (T25.setTop (mkF m 58 #[.val (.int p1), .unset, .unset, .unset, .unset, .unset] [(.int (8 : Int32)), (.ref b1), (.ref b1)])) _
    refine st26 _ ?_
    show Steps p.tables e below (T26.setTop (mkF m 61 #[.val (.int p1), .unset, .unset, .unset, .unset, .unset] [(.ref a_SPAN_START), (.int (8 : Int32)), (.ref b1), (.ref b1)])) _
    refine st28 _ ?_
    show Steps p.tables e below (T28.setTop (mkF m 62 #[.val (.int p1), .unset, .unset, .unset, .unset, .unset] [(.ref b1)])) _
    refine XS.dup X28.here hx rfl (hb hby at_62) rfl rfl ?_
    show Steps p.tables e below (T28.setTop (mkF m 63 #[.val (.int p1), .unset, .unset, .unset, .unset, .unset] [(.ref b1), (.ref b1)])) _
    refine XS.bipush X28.here hx rfl (hb hby at_63) ?_
    show Steps p.tables e below (T28.setTop (mkF m 65 #[.val (.int p1), .unset, .unset, .unset, .unset, .unset] [(.int (9 : Int32)), (.ref b1), (.ref b1)])) _
    refine st29 _ ?_
    show Steps p.tables e below (T29.setTop (mkF m 68 #[.val (.int p1), .unset, .unset, .unset, .unset, .unset] [(.ref a_SPAN_END), (.int (9 : Int32)), (.ref b1), (.ref b1)])) _
    refine st31 _ ?_
    show Steps p.tables e below (T31.setTop (mkF m 69 #[.val (.int p1), .unset, .unset, .unset, .unset, .unset] [(.ref b1)])) _
    refine XS.astoreN X31.here hx rfl (hb hby at_69) rfl rfl (l' := #[.val (.int p1), .val (.ref b1), .unset, .unset, .unset, .unset]) rfl ?_
    show Steps p.tables e below (T31.setTop (mkF m 70 #[.val (.int p1), .val (.ref b1), .unset, .unset, .unset, .unset] [])) _
    refine XS.aloadN X31.here hx rfl (hb hby at_70) rfl rfl ?_
    show Steps p.tables e below (T31.setTop (mkF m 71 #[.val (.int p1), .val (.ref b1), .unset, .unset, .unset, .unset] [(.ref b1)])) _
    refine XS.iloadN X31.here hx rfl (hb hby at_71) rfl ?_
    show Steps p.tables e below (T31.setTop (mkF m 72 #[.val (.int p1), .val (.ref b1), .unset, .unset, .unset, .unset] [(.int p1), (.ref b1)])) _
    refine X31.ldcInt hx hown (mvT hZ (hw _ (List.mem_of_getElem? (i := 24) rfl))) (g := (mkF m 72 #[.val (.int p1), .val (.ref b1), .unset, .unset, .unset, .unset] [(.int p1), (.ref b1)])) rfl (hb hby at_72) _ ?_
    show Steps p.tables e below (T31.setTop (mkF m 74 #[.val (.int p1), .val (.ref b1), .unset, .unset, .unset, .unset] [(.int (2147483647 : Int32)), (.int p1), (.ref b1)])) _
    refine XS.iand X31.here hx rfl (hb hby at_74) rfl ?_
    show Steps p.tables e below (T31.setTop (mkF m 75 #[.val (.int p1), .val (.ref b1), .unset, .unset, .unset, .unset] [(.int (p1 &&& (2147483647 : Int32))), (.ref b1)])) _
    refine XS.bipush X31.here hx rfl (hb hby at_75) ?_
    show Steps p.tables e below (T31.setTop (mkF m 77 #[.val (.int p1), .val (.ref b1), .unset, .unset, .unset, .unset] [(.int (10 : Int32)), (.int (p1 &&& (2147483647 : Int32))), (.ref b1)])) _
    refine Jvm.RoadKit.iremM (g := (mkF m 77 #[.val (.int p1), .val (.ref b1), .unset, .unset, .unset, .unset] [(.int (10 : Int32)), (.int (p1 &&& (2147483647 : Int32))), (.ref b1)])) X31 hx rfl (hb hby at_77) rfl (by decide) ?_
    rw [hi]
    show Steps p.tables e below (T31.setTop (mkF m 78 #[.val (.int p1), .val (.ref b1), .unset, .unset, .unset, .unset] [(.int (1 : Int32)), (.ref b1)])) _
    refine X31.aaload hx (j := (1 : Int32)) (v := (.ref a_READ)) (by rw [e31]; exact Ar32.1) (State.isArrayOf_alike hZ.alike Ar32.2.1) rfl Ar32.2.2 hin32 hat32 (g := (mkF m 78 #[.val (.int p1), .val (.ref b1), .unset, .unset, .unset, .unset] [(.int (1 : Int32)), (.ref b1)])) rfl rfl (hb hby at_78) _ ?_
    show Steps p.tables e below (T31.setTop (mkF m 79 #[.val (.int p1), .val (.ref b1), .unset, .unset, .unset, .unset] [(.ref a_READ)])) _
    refine XS.astoreN X31.here hx rfl (hb hby at_79) rfl rfl (l' := #[.val (.int p1), .val (.ref b1), .val (.ref a_READ), .unset, .unset, .unset]) rfl ?_
    show Steps p.tables e below (T31.setTop (mkF m 80 #[.val (.int p1), .val (.ref b1), .val (.ref a_READ), .unset, .unset, .unset] [])) _
    refine XS.aloadN X31.here hx rfl (hb hby at_80) rfl rfl ?_
    show Steps p.tables e below (T31.setTop (mkF m 81 #[.val (.int p1), .val (.ref b1), .val (.ref a_READ), .unset, .unset, .unset] [(.ref a_READ)])) _
    refine st33.trans ?_
    show Steps p.tables e below (T33.setTop (mkF m 84 #[.val (.int p1), .val (.ref b1), .val (.ref a_READ), .unset, .unset, .unset] [(.int (0 : Int32))])) _
    refine XS.istoreN X33.here hx rfl (hb hby at_84) rfl (l' := #[.val (.int p1), .val (.ref b1), .val (.ref a_READ), .val (.int (0 : Int32)), .unset, .unset]) rfl ?_
    show Steps p.tables e below (T33.setTop (mkF m 85 #[.val (.int p1), .val (.ref b1), .val (.ref a_READ), .val (.int (0 : Int32)), .unset, .unset] [])) _
    refine XS.aloadN X33.here hx rfl (hb hby at_85) rfl rfl ?_
    show Steps p.tables e below (T33.setTop (mkF m 86 #[.val (.int p1), .val (.ref b1), .val (.ref a_READ), .val (.int (0 : Int32)), .unset, .unset] [(.ref a_READ)])) _
    refine st34.trans ?_
    show Steps p.tables e below (T34.setTop (mkF m 89 #[.val (.int p1), .val (.ref b1), .val (.ref a_READ), .val (.int (0 : Int32)), .unset, .unset] [.null])) _
    refine XS.astore X34.here hx rfl (hb hby at_89) rfl rfl (l' := #[.val (.int p1), .val (.ref b1), .val (.ref a_READ), .val (.int (0 : Int32)), .val .null, .unset]) rfl ?_
    show Steps p.tables e below (T34.setTop (mkF m 91 #[.val (.int p1), .val (.ref b1), .val (.ref a_READ), .val (.int (0 : Int32)), .val .null, .unset] [])) _
    refine XS.aload X34.here hx rfl (hb hby at_91) rfl rfl ?_
    show Steps p.tables e below (T34.setTop (mkF m 93 #[.val (.int p1), .val (.ref b1), .val (.ref a_READ), .val (.int (0 : Int32)), .val .null, .unset] [.null])) _
    refine st35 _ ?_
    show Steps p.tables e below (T35.setTop (mkF m 96 #[.val (.int p1), .val (.ref b1), .val (.ref a_READ), .val (.int (0 : Int32)), .val .null, .unset] [(.ref a_RELEASE)])) _
    refine XS.aloadN X35.here hx rfl (hb hby at_96) rfl rfl ?_
    show Steps p.tables e below (T35.setTop (mkF m 97 #[.val (.int p1), .val (.ref b1), .val (.ref a_READ), .val (.int (0 : Int32)), .val .null, .unset] [(.ref a_READ), (.ref a_RELEASE)])) _
    refine Jvm.RoadKit.acmp (g := (mkF m 97 #[.val (.int p1), .val (.ref b1), .val (.ref a_READ), .val (.int (0 : Int32)), .val .null, .unset] [(.ref a_READ), (.ref a_RELEASE)])) X35 hx rfl rfl rfl (pc0 := 97) (pc' := 104) (same := false) rfl (hb hby at_97) rfl (decide_eq_false fun q => (Fld.ne F_RELEASE_ordinal F_READ_ordinal (fun q => absurd (Value.int.inj q) (by decide))) (Value.ref.inj q)) (by decide) (by decide) ?_
    show Steps p.tables e below (T35.setTop (mkF m 104 #[.val (.int p1), .val (.ref b1), .val (.ref a_READ), .val (.int (0 : Int32)), .val .null, .unset] [])) _
    refine XS.iconst X35.here hx rfl (hb hby at_104) ?_
    show Steps p.tables e below (T35.setTop (mkF m 105 #[.val (.int p1), .val (.ref b1), .val (.ref a_READ), .val (.int (0 : Int32)), .val .null, .unset] [(.int (0 : Int32))])) _
    refine XS.istore X35.here hx rfl (hb hby at_105) rfl (l' := #[.val (.int p1), .val (.ref b1), .val (.ref a_READ), .val (.int (0 : Int32)), .val .null, .val (.int (0 : Int32))]) rfl ?_
    show Steps p.tables e below (T35.setTop (mkF m 107 #[.val (.int p1), .val (.ref b1), .val (.ref a_READ), .val (.int (0 : Int32)), .val .null, .val (.int (0 : Int32))] [])) _
    refine XS.iloadN X35.here hx rfl (hb hby at_107) rfl ?_
    show Steps p.tables e below (T35.setTop (mkF m 108 #[.val (.int p1), .val (.ref b1), .val (.ref a_READ), .val (.int (0 : Int32)), .val .null, .val (.int (0 : Int32))] [(.int (0 : Int32))])) _
    refine XS.iload X35.here hx rfl (hb hby at_108) rfl ?_
    show Steps p.tables e below (T35.setTop (mkF m 110 #[.val (.int p1), .val (.ref b1), .val (.ref a_READ), .val (.int (0 : Int32)), .val .null, .val (.int (0 : Int32))] [(.int (0 : Int32)), (.int (0 : Int32))])) _
    refine XS.icmpNo X35.here hx rfl (hb hby at_110) rfl (teq (by decide : (0 : Int32) = (0 : Int32))).2 ?_
    show Steps p.tables e below (T35.setTop (mkF m 113 #[.val (.int p1), .val (.ref b1), .val (.ref a_READ), .val (.int (0 : Int32)), .val .null, .val (.int (0 : Int32))] [])) _
    refine XS.iconst X35.here hx rfl (hb hby at_113) ?_
    show Steps p.tables e below (T35.setTop (mkF m 114 #[.val (.int p1), .val (.ref b1), .val (.ref a_READ), .val (.int (0 : Int32)), .val .null, .val (.int (0 : Int32))] [(.int (1 : Int32))])) _
    refine XS.goto X35.here hx rfl (pc0 := 114) (pc' := 118) rfl (hb hby at_114) (by decide) (by decide) ?_
    show Steps p.tables e below (T35.setTop (mkF m 118 #[.val (.int p1), .val (.ref b1), .val (.ref a_READ), .val (.int (0 : Int32)), .val .null, .val (.int (0 : Int32))] [(.int (1 : Int32))])) _
    exact retN X35 hx (t := .boolean) Bd.returns (by simp) (hb hby at_118) hr
  · exact ⟨rfl, N35⟩
set_option maxRecDepth 65536 in
set_option maxHeartbeats 40000000 in
theorem rm1_11 (l : Launch) (Z : State) (a0 : Array Value) (hw : ∀ d ∈ tables_1, d.before a0 Z = true) (ws : List Jvm.Cond) (a_START : Addr) (a_READ : Addr) (a_UNREAD : Addr) (a_POWER_ON : Addr) (a_POWER_OFF : Addr) (a_HOLD_ON : Addr) (a_HOLD_OFF : Addr) (a_RELEASE : Addr) (a_SPAN_START : Addr) (a_SPAN_END : Addr) (a_ON : Addr) (a_OFF : Addr) (p1 : Int32) (h0 : Heap) (n0 : Nat) (Z0 : n0 ≤ h0.size) (hS : Wd Z h0 a_START a_READ a_UNREAD a_POWER_ON a_POWER_OFF a_HOLD_ON a_HOLD_OFF a_RELEASE a_SPAN_START a_SPAN_END a_ON a_OFF) :
    MetFree l (⟨"ebbtide/serve/History$Event", "holds", "()Z"⟩ : MethodName) (head1 (Jvm.Cond.code (⟨"ebbtide/serve/History$Event", "holds", "()Z"⟩ : MethodName) prog_171_method_7_code 1 (some .boolean) :: ws) ({ frames := 0, cells := 0, slots := 0, locals := 0 } : Room)) (fun a U => a = #[(.ref a_UNREAD)] ∧ Z.Warmed39 U.vm ∧ U.heap = h0) (fun _ _ _ _ _ => True) (fun _ U o U' => ∃ v L, o = .returned v ∧ QP (some (.int (0 : Int32))) h0 n0 v U'.heap L ∧ FrameEnd U o U' L ({ frames := 0, cells := 0, slots := 0, locals := 0 } : Room).cells ({ frames := 0, cells := 0, slots := 0, locals := 0 } : Room).slots) := by
  refine MetFree.of_bodySF (plainFor_of_name pn_ebbtide_serve_History_Event) hisR ?_
  intro p e s m args below meth c s₁ Bd hml0 hP hK
  obtain ⟨rfl, hZ, hh⟩ := hP
  have hx := Bd.exec
  have hby := Bd.bytes
  have hml : c.maxLocals = 1 := hml0
  have hown : s.vm.findClass "ebbtide/serve/History$Event" = some m.cls := findClass_of_methodNamed Bd.named
  have X0 : Stand p l e ({ frames := 0, cells := 0, slots := 0, locals := 0 } : Room) s m #[(.ref a_UNREAD)] below meth c s₁ [] 0 0 := Stand.of_body Bd
  have e0 : s₁.heap = h0 := by rw [← hh, Bd.state]; rfl
  have N0 := Fr.nil n0
  have pre0 : ∀ t, Steps p.tables e below (s₁.setTop (mkF m 0 #[.val (.ref a_UNREAD)] [])) t → Steps p.tables e below (s₁.setTop (entryFrame m #[(.ref a_UNREAD)] 1)) t := fun t k => castTop (by first | (simp [entryFrame, mkF, argsToLocals, Value.category]; done) | rfl) k
  obtain ⟨S_START, E_START, S_READ, E_READ, S_UNREAD, E_UNREAD, S_POWER_ON, E_POWER_ON, S_POWER_OFF, E_POWER_OFF, S_HOLD_ON, E_HOLD_ON, S_HOLD_OFF, E_HOLD_OFF, S_RELEASE, E_RELEASE, S_SPAN_START, E_SPAN_START, S_SPAN_END, E_SPAN_END, S_ON, E_ON, S_OFF, E_OFF, F_START_ordinal, F_HOLD_ON_ordinal, F_HOLD_OFF_ordinal, F_RELEASE_ordinal, F_POWER_ON_ordinal, F_READ_ordinal, F_POWER_OFF_ordinal, F_UNREAD_ordinal, F_SPAN_START_ordinal, F_SPAN_END_ordinal, F_OFF_ordinal, F_ON_ordinal⟩ := id hS
  obtain ⟨T1, X1, e1, st1⟩ := getS2 X0 hx hZ hown (host := "") (Or.inl (hw _ (List.mem_of_getElem? (i := 30) rfl))) Via.refl e0 S_HOLD_ON (g := (mkF m 1 #[.val (.ref a_UNREAD)] [(.ref a_UNREAD)])) rfl (hb hby d1_1)
  obtain ⟨T2, X2, e2, st2⟩ := getS2 X1 hx hZ hown (host := "") (Or.inl (hw _ (List.mem_of_getElem? (i := 31) rfl))) Via.refl e1 S_HOLD_OFF (g := (mkF m 8 #[.val (.ref a_UNREAD)] [(.ref a_UNREAD)])) rfl (hb hby d1_8)
  obtain ⟨T3, X3, e3, st3⟩ := getS2 X2 hx hZ hown (host := "") (Or.inl (hw _ (List.mem_of_getElem? (i := 32) rfl))) Via.refl e2 S_RELEASE (g := (mkF m 15 #[.val (.ref a_UNREAD)] [(.ref a_UNREAD)])) rfl (hb hby d1_15)
  obtain ⟨fs, hr, hrun, hended, hW, hsame⟩ := X3.leave (v := some (.int (0 : Int32))) (fun h => by rw [Bd.returns] at h; cases h)
  refine ⟨_, _, pre0 _ ?_, hrun, hended, _, _, rfl, ?_, ⟨_, rfl⟩, hW, hsame.mono (by decide) (by decide)⟩
  · show Steps p.tables e below (s₁.setTop (mkF m 0 #[.val (.ref a_UNREAD)] [])) _
    refine XS.aloadN X0.here hx rfl (hb hby d1_0) rfl rfl ?_
    show Steps p.tables e below (s₁.setTop (mkF m 1 #[.val (.ref a_UNREAD)] [(.ref a_UNREAD)])) _
    refine st1 _ ?_
    show Steps p.tables e below (T1.setTop (mkF m 4 #[.val (.ref a_UNREAD)] [(.ref a_HOLD_ON), (.ref a_UNREAD)])) _
    refine Jvm.RoadKit.acmp (g := (mkF m 4 #[.val (.ref a_UNREAD)] [(.ref a_HOLD_ON), (.ref a_UNREAD)])) X1 hx rfl rfl rfl (pc0 := 4) (pc' := 7) (same := false) rfl (hb hby d1_4) rfl (decide_eq_false fun q => (Fld.ne F_UNREAD_ordinal F_HOLD_ON_ordinal (fun q => absurd (Value.int.inj q) (by decide))) (Value.ref.inj q)) (by decide) (by decide) ?_
    show Steps p.tables e below (T1.setTop (mkF m 7 #[.val (.ref a_UNREAD)] [])) _
    refine XS.aloadN X1.here hx rfl (hb hby d1_7) rfl rfl ?_
    show Steps p.tables e below (T1.setTop (mkF m 8 #[.val (.ref a_UNREAD)] [(.ref a_UNREAD)])) _
    refine st2 _ ?_
    show Steps p.tables e below (T2.setTop (mkF m 11 #[.val (.ref a_UNREAD)] [(.ref a_HOLD_OFF), (.ref a_UNREAD)])) _
    refine Jvm.RoadKit.acmp (g := (mkF m 11 #[.val (.ref a_UNREAD)] [(.ref a_HOLD_OFF), (.ref a_UNREAD)])) X2 hx rfl rfl rfl (pc0 := 11) (pc' := 14) (same := false) rfl (hb hby d1_11) rfl (decide_eq_false fun q => (Fld.ne F_UNREAD_ordinal F_HOLD_OFF_ordinal (fun q => absurd (Value.int.inj q) (by decide))) (Value.ref.inj q)) (by decide) (by decide) ?_
    show Steps p.tables e below (T2.setTop (mkF m 14 #[.val (.ref a_UNREAD)] [])) _
    refine XS.aloadN X2.here hx rfl (hb hby d1_14) rfl rfl ?_
    show Steps p.tables e below (T2.setTop (mkF m 15 #[.val (.ref a_UNREAD)] [(.ref a_UNREAD)])) _
    refine st3 _ ?_
    show Steps p.tables e below (T3.setTop (mkF m 18 #[.val (.ref a_UNREAD)] [(.ref a_RELEASE), (.ref a_UNREAD)])) _
    refine Jvm.RoadKit.acmp (g := (mkF m 18 #[.val (.ref a_UNREAD)] [(.ref a_RELEASE), (.ref a_UNREAD)])) X3 hx rfl rfl rfl (pc0 := 18) (pc' := 25) (same := false) rfl (hb hby d1_18) rfl (decide_eq_false fun q => (Fld.ne F_UNREAD_ordinal F_RELEASE_ordinal (fun q => absurd (Value.int.inj q) (by decide))) (Value.ref.inj q)) (by decide) (by decide) ?_
    show Steps p.tables e below (T3.setTop (mkF m 25 #[.val (.ref a_UNREAD)] [])) _
    refine XS.iconst X3.here hx rfl (hb hby d1_25) ?_
    show Steps p.tables e below (T3.setTop (mkF m 26 #[.val (.ref a_UNREAD)] [(.int (0 : Int32))])) _
    exact retN X3 hx (t := .boolean) Bd.returns (by simp) (hb hby d1_26) hr
  · exact ⟨rfl, N0, e3⟩
set_option maxRecDepth 65536 in
set_option maxHeartbeats 40000000 in
theorem rm3_13 (l : Launch) (Z : State) (a0 : Array Value) (hw : ∀ d ∈ tables_1, d.before a0 Z = true) (ws : List Jvm.Cond) (a_START : Addr) (a_READ : Addr) (a_UNREAD : Addr) (a_POWER_ON : Addr) (a_POWER_OFF : Addr) (a_HOLD_ON : Addr) (a_HOLD_OFF : Addr) (a_RELEASE : Addr) (a_SPAN_START : Addr) (a_SPAN_END : Addr) (a_ON : Addr) (a_OFF : Addr) (p1 : Int32) (h0 : Heap) (n0 : Nat) (Z0 : n0 ≤ h0.size) (hS : Wd Z h0 a_START a_READ a_UNREAD a_POWER_ON a_POWER_OFF a_HOLD_ON a_HOLD_OFF a_RELEASE a_SPAN_START a_SPAN_END a_ON a_OFF) :
    MetFree l (⟨"java/lang/Enum", "ordinal", "()I"⟩ : MethodName) (head1 (Jvm.Cond.code (⟨"java/lang/Enum", "ordinal", "()I"⟩ : MethodName) jdk_37_method_2_code 1 (some .int) :: ws) ({ frames := 0, cells := 0, slots := 0, locals := 0 } : Room)) (fun a U => a = #[(.ref a_UNREAD)] ∧ Z.Warmed39 U.vm ∧ U.heap = h0) (fun _ _ _ _ _ => True) (fun _ U o U' => ∃ v L, o = .returned v ∧ QP (some (.int (2 : Int32))) h0 n0 v U'.heap L ∧ FrameEnd U o U' L ({ frames := 0, cells := 0, slots := 0, locals := 0 } : Room).cells ({ frames := 0, cells := 0, slots := 0, locals := 0 } : Room).slots) := by
  refine MetFree.of_bodySF (plainFor_of_name pn_java_lang_Enum) hisR ?_
  intro p e s m args below meth c s₁ Bd hml0 hP hK
  obtain ⟨rfl, hZ, hh⟩ := hP
  have hx := Bd.exec
  have hby := Bd.bytes
  have hml : c.maxLocals = 1 := hml0
  have hown : s.vm.findClass "java/lang/Enum" = some m.cls := findClass_of_methodNamed Bd.named
  have X0 : Stand p l e ({ frames := 0, cells := 0, slots := 0, locals := 0 } : Room) s m #[(.ref a_UNREAD)] below meth c s₁ [] 0 0 := Stand.of_body Bd
  have e0 : s₁.heap = h0 := by rw [← hh, Bd.state]; rfl
  have N0 := Fr.nil n0
  have pre0 : ∀ t, Steps p.tables e below (s₁.setTop (mkF m 0 #[.val (.ref a_UNREAD)] [])) t → Steps p.tables e below (s₁.setTop (entryFrame m #[(.ref a_UNREAD)] 1)) t := fun t k => castTop (by first | (simp [entryFrame, mkF, argsToLocals, Value.category]; done) | rfl) k
  obtain ⟨S_START, E_START, S_READ, E_READ, S_UNREAD, E_UNREAD, S_POWER_ON, E_POWER_ON, S_POWER_OFF, E_POWER_OFF, S_HOLD_ON, E_HOLD_ON, S_HOLD_OFF, E_HOLD_OFF, S_RELEASE, E_RELEASE, S_SPAN_START, E_SPAN_START, S_SPAN_END, E_SPAN_END, S_ON, E_ON, S_OFF, E_OFF, F_START_ordinal, F_HOLD_ON_ordinal, F_HOLD_OFF_ordinal, F_RELEASE_ordinal, F_POWER_ON_ordinal, F_READ_ordinal, F_POWER_OFF_ordinal, F_UNREAD_ordinal, F_SPAN_START_ordinal, F_SPAN_END_ordinal, F_OFF_ordinal, F_ON_ordinal⟩ := id hS
  obtain ⟨T1, X1, e1, st1⟩ := getF X0 hx hZ hown (host := "") (Or.inl (hw _ (List.mem_of_getElem? (i := 45) rfl))) Via.refl e0 F_UNREAD_ordinal (g := (mkF m 1 #[.val (.ref a_UNREAD)] [(.ref a_UNREAD)])) rfl rfl (hb hby d3_1)
  obtain ⟨fs, hr, hrun, hended, hW, hsame⟩ := X1.leave (v := some (.int (2 : Int32))) (fun h => by rw [Bd.returns] at h; cases h)
  refine ⟨_, _, pre0 _ ?_, hrun, hended, _, _, rfl, ?_, ⟨_, rfl⟩, hW, hsame.mono (by decide) (by decide)⟩
  · show Steps p.tables e below (s₁.setTop (mkF m 0 #[.val (.ref a_UNREAD)] [])) _
    refine XS.aloadN X0.here hx rfl (hb hby d3_0) rfl rfl ?_
    show Steps p.tables e below (s₁.setTop (mkF m 1 #[.val (.ref a_UNREAD)] [(.ref a_UNREAD)])) _
    refine st1 _ ?_
    show Steps p.tables e below (T1.setTop (mkF m 4 #[.val (.ref a_UNREAD)] [(.int (2 : Int32))])) _
    exact own_retI X1 hx Bd.returns (hb hby d3_4) hr
  · exact ⟨rfl, N0, e1⟩
set_option maxRecDepth 65536 in
set_option maxHeartbeats 40000000 in
theorem rm2_12 (l : Launch) (Z : State) (a0 : Array Value) (hw : ∀ d ∈ tables_1, d.before a0 Z = true) (ws : List Jvm.Cond) (a_START : Addr) (a_READ : Addr) (a_UNREAD : Addr) (a_POWER_ON : Addr) (a_POWER_OFF : Addr) (a_HOLD_ON : Addr) (a_HOLD_OFF : Addr) (a_RELEASE : Addr) (a_SPAN_START : Addr) (a_SPAN_END : Addr) (a_ON : Addr) (a_OFF : Addr) (p1 : Int32) (h0 : Heap) (n0 : Nat) (Z0 : n0 ≤ h0.size) (hS : Wd Z h0 a_START a_READ a_UNREAD a_POWER_ON a_POWER_OFF a_HOLD_ON a_HOLD_OFF a_RELEASE a_SPAN_START a_SPAN_END a_ON a_OFF) :
    MetFree l (⟨"ebbtide/serve/History$Event", "hold", "()Lebbtide/serve/Hold;"⟩ : MethodName) (head1 (Jvm.Cond.code (⟨"ebbtide/serve/History$Event", "hold", "()Lebbtide/serve/Hold;"⟩ : MethodName) prog_171_method_6_code 1 (some (.object "ebbtide/serve/Hold")) :: ws) ({ frames := 1, cells := 0, slots := 0, locals := 12 } : Room)) (fun a U => a = #[(.ref a_UNREAD)] ∧ Z.Warmed39 U.vm ∧ U.heap = h0) (fun _ _ _ _ _ => True) (fun _ U o U' => ∃ v L, o = .returned v ∧ QP (some .null) h0 n0 v U'.heap L ∧ FrameEnd U o U' L ({ frames := 1, cells := 0, slots := 0, locals := 12 } : Room).cells ({ frames := 1, cells := 0, slots := 0, locals := 12 } : Room).slots) := by
  refine MetFree.of_bodySF (plainFor_of_name pn_ebbtide_serve_History_Event) hisR ?_
  intro p e s m args below meth c s₁ Bd hml0 hP hK
  obtain ⟨rfl, hZ, hh⟩ := hP
  have hx := Bd.exec
  have hby := Bd.bytes
  have hml : c.maxLocals = 1 := hml0
  have hown : s.vm.findClass "ebbtide/serve/History$Event" = some m.cls := findClass_of_methodNamed Bd.named
  have X0 : Stand p l e ({ frames := 1, cells := 0, slots := 0, locals := 12 } : Room) s m #[(.ref a_UNREAD)] below meth c s₁ [] 0 0 := Stand.of_body Bd
  have e0 : s₁.heap = h0 := by rw [← hh, Bd.state]; rfl
  have N0 := Fr.nil n0
  have pre0 : ∀ t, Steps p.tables e below (s₁.setTop (mkF m 0 #[.val (.ref a_UNREAD)] [])) t → Steps p.tables e below (s₁.setTop (entryFrame m #[(.ref a_UNREAD)] 1)) t := fun t k => castTop (by first | (simp [entryFrame, mkF, argsToLocals, Value.category]; done) | rfl) k
  obtain ⟨S_START, E_START, S_READ, E_READ, S_UNREAD, E_UNREAD, S_POWER_ON, E_POWER_ON, S_POWER_OFF, E_POWER_OFF, S_HOLD_ON, E_HOLD_ON, S_HOLD_OFF, E_HOLD_OFF, S_RELEASE, E_RELEASE, S_SPAN_START, E_SPAN_START, S_SPAN_END, E_SPAN_END, S_ON, E_ON, S_OFF, E_OFF, F_START_ordinal, F_HOLD_ON_ordinal, F_HOLD_OFF_ordinal, F_RELEASE_ordinal, F_POWER_ON_ordinal, F_READ_ordinal, F_POWER_OFF_ordinal, F_UNREAD_ordinal, F_SPAN_START_ordinal, F_SPAN_END_ordinal, F_OFF_ordinal, F_ON_ordinal⟩ := id hS
  obtain ⟨cq1, kq1, q1a, q1b, q1c⟩ := isOf hZ e0 E_UNREAD
  obtain ⟨_, _, ⟨T1, L1, k1, n1⟩, -, X1, ⟨Lc1, hQ1, l1, y1, z1⟩, st1⟩ := X0.virtualBackUp hx (owner := "java/lang/Enum") (x := (⟨"ebbtide/serve/History$Event", "ordinal", "()I"⟩ : MethodName)) (y := (⟨"java/lang/Enum", "ordinal", "()I"⟩ : MethodName)) hown (mvT hZ (hw _ (List.mem_of_getElem? (i := 38) rfl))) (mvT hZ (hw _ (List.mem_of_getElem? (i := 39) rfl))) (mvT hZ (hw _ (List.mem_of_getElem? (i := 40) rfl))) (by decide) (mvT hZ (hw _ (List.mem_of_getElem? (i := 42) rfl))) (mvT hZ (hw _ (List.mem_of_getElem? (i := 41) rfl))) (backOf (W := 0) (rm3_13 l Z a0 hw [] a_START a_READ a_UNREAD a_POWER_ON a_POWER_OFF a_HOLD_ON a_HOLD_OFF a_RELEASE a_SPAN_START a_SPAN_END a_ON a_OFF p1 h0 n0 Z0 hS) hZ (hw _ (List.mem_of_getElem? (i := 44) rfl)) (hw _ (List.mem_of_getElem? (i := 43) rfl)) (by decide) (by decide)) q1a q1c (g := (mkF m 1 #[.val (.ref a_UNREAD)] [(.ref a_UNREAD)])) rfl (by rw [hml]; rfl) (Steps.refl _) (argsL := []) (rest := []) (lenOf pd_1 rfl) rfl (by show 2 * 0 + _ ≤ _; exact Nat.le_of_eq rfl) (hb hby d2_1) (fun _ _ => ⟨rfl, e0, (by decide : 0 + 0 ≤ _), (by decide : 0 + 0 ≤ _)⟩)
  dsimp only [Pt.U, Pt.locs, Pt.cells, Pt.slots] at X1 l1 y1 z1 st1 hQ1
  subst l1 y1 z1
  obtain ⟨rfl, N1q, e1⟩ := hQ1
  have N1 := Fr.app N0 N1q
  obtain ⟨fs, hr, hrun, hended, hW, hsame⟩ := X1.leave (v := some .null) (fun h => by rw [Bd.returns] at h; cases h)
  refine ⟨_, _, pre0 _ ?_, hrun, hended, _, _, rfl, ?_, ⟨_, rfl⟩, hW, hsame.mono (by decide) (by decide)⟩
  · show Steps p.tables e below (s₁.setTop (mkF m 0 #[.val (.ref a_UNREAD)] [])) _
    refine XS.aloadN X0.here hx rfl (hb hby d2_0) rfl rfl ?_
    show Steps p.tables e below (s₁.setTop (mkF m 1 #[.val (.ref a_UNREAD)] [(.ref a_UNREAD)])) _
    refine st1.trans ?_
    show Steps p.tables e below (T1.setTop (mkF m 4 #[.val (.ref a_UNREAD)] [(.int (2 : Int32))])) _
    refine X1.lookupswitchMiss hx (g := (mkF m 4 #[.val (.ref a_UNREAD)] [(.int (2 : Int32))])) rfl rfl (hb hby d2_4) (by decide) (by first | decide | rfl | (simp; done)) (by show (0 : Int) ≤ ((4 : Nat) : Int) + 40; decide) _ ?_
    show Steps p.tables e below (T1.setTop (mkF m 44 #[.val (.ref a_UNREAD)] [])) _
    refine XS.aconstNull X1.here hx rfl (hb hby d2_44) ?_
    show Steps p.tables e below (T1.setTop (mkF m 45 #[.val (.ref a_UNREAD)] [.null])) _
    exact own_retA X1 hx Bd.returns rfl rfl (hb hby d2_45) hr
  · exact ⟨rfl, N1, e1⟩
set_option maxRecDepth 65536 in
set_option maxHeartbeats 40000000 in
theorem rm0_10 (l : Launch) (Z : State) (a0 : Array Value) (hw : ∀ d ∈ tables_1, d.before a0 Z = true) (ws : List Jvm.Cond) (a_START : Addr) (a_READ : Addr) (a_UNREAD : Addr) (a_POWER_ON : Addr) (a_POWER_OFF : Addr) (a_HOLD_ON : Addr) (a_HOLD_OFF : Addr) (a_RELEASE : Addr) (a_SPAN_START : Addr) (a_SPAN_END : Addr) (a_ON : Addr) (a_OFF : Addr) (p1 : Int32) (h0 : Heap) (n0 : Nat) (Z0 : n0 ≤ h0.size) (hS : Wd Z h0 a_START a_READ a_UNREAD a_POWER_ON a_POWER_OFF a_HOLD_ON a_HOLD_OFF a_RELEASE a_SPAN_START a_SPAN_END a_ON a_OFF) (hi : ((p1 &&& (2147483647 : Int32)) % (10 : Int32)) = (2 : Int32)) :
    MetFree l x (head1 (Jvm.Cond.code x code maxLocals ret :: ws) room_1) (fun a U => a = #[(.int p1)] ∧ Z.Warmed39 U.vm ∧ U.heap = h0) (fun _ _ _ _ _ => True) (fun _ U o U' => ∃ v L, o = .returned v ∧ Q0 n0 v L ∧ FrameEnd U o U' L room_1.cells room_1.slots) := by
  refine MetFree.of_bodySF (plainFor_of_name pn_ebbtide_serve_HistoryHoldsPinLaw) hisR ?_
  intro p e s m args below meth c s₁ Bd hml0 hP hK
  obtain ⟨rfl, hZ, hh⟩ := hP
  have hx := Bd.exec
  have hby := Bd.bytes
  have hml : c.maxLocals = 6 := hml0
  have hown : s.vm.findClass "ebbtide/serve/HistoryHoldsPinLaw" = some m.cls := findClass_of_methodNamed Bd.named
  have X0 : Stand p l e room_1 s m #[(.int p1)] below meth c s₁ [] 0 0 := Stand.of_body Bd
  have e0 : s₁.heap = h0 := by rw [← hh, Bd.state]; rfl
  have N0 := Fr.nil n0
  have pre0 : ∀ t, Steps p.tables e below (s₁.setTop (mkF m 0 #[.val (.int p1), .unset, .unset, .unset, .unset, .unset] [])) t → Steps p.tables e below (s₁.setTop (entryFrame m #[(.int p1)] maxLocals)) t := fun t k => castTop (by first | (simp [entryFrame, mkF, argsToLocals, Value.category, maxLocals]; done) | rfl) k
  obtain ⟨S_START, E_START, S_READ, E_READ, S_UNREAD, E_UNREAD, S_POWER_ON, E_POWER_ON, S_POWER_OFF, E_POWER_OFF, S_HOLD_ON, E_HOLD_ON, S_HOLD_OFF, E_HOLD_OFF, S_RELEASE, E_RELEASE, S_SPAN_START, E_SPAN_START, S_SPAN_END, E_SPAN_END, S_ON, E_ON, S_OFF, E_OFF, F_START_ordinal, F_HOLD_ON_ordinal, F_HOLD_OFF_ordinal, F_RELEASE_ordinal, F_POWER_ON_ordinal, F_READ_ordinal, F_POWER_OFF_ordinal, F_UNREAD_ordinal, F_SPAN_START_ordinal, F_SPAN_END_ordinal, F_OFF_ordinal, F_ON_ordinal⟩ := id hS
  obtain ⟨T1, h1, k1, X1, e1, E1, A1, O1, st1⟩ := newR X0 hx hZ hown (hw _ (List.mem_of_getElem? (i := 0) rfl)) (hw _ (List.mem_of_getElem? (i := 1) rfl)) e0 (g := (mkF m 2 #[.val (.int p1), .unset, .unset, .unset, .unset, .unset] [(.int (10 : Int32))])) rfl (hb hby at_2) rfl (by decide) (cap := 10) (by decide) (by decide) (by decide) (by decide)
  obtain ⟨b1, g1⟩ : ∃ z, z = h0.size := ⟨_, rfl⟩
  rw [← g1] at A1 st1
  have V1 : Arv Z h1 b1 k1 (.object "ebbtide/serve/History$Event") (10 : Int32) [.null, .null, .null, .null, .null, .null, .null, .null, .null, .null] .null := (Arv.new A1 (by decide)).pad (pad_rep [] .null 10)
  have K1 : Keep h0 h1 [] := (Keep.refl h0 []).ext E1
  have sz_b1 : h0.size ≤ b1 := Nat.le_trans (Keep.refl h0 []).1 (Nat.le_of_eq g1.symm)
  have gz_b1 : n0 ≤ b1 := Nat.le_trans Z0 sz_b1
  obtain ⟨T2, X2, e2, st2⟩ := getS2 X1 hx hZ hown (host := "") (Or.inl (hw _ (List.mem_of_getElem? (i := 2) rfl))) Via.refl e1 (own_sk S_START K1) (g := (mkF m 7 #[.val (.int p1), .unset, .unset, .unset, .unset, .unset] [(.int (0 : Int32)), (.ref b1), (.ref b1)])) rfl (hb hby at_7)
  obtain ⟨cl3, Ar3, qq3, Sz3, Ng3, Hs3, Gf3⟩ := V1
  have hin3 : ¬ ((0 : Int32) < 0 ∨ cl3.slots.size ≤ ((0 : Int32)).toNatClampNeg) := inb_of Sz3 ⟨by decide, by decide⟩
  obtain ⟨T4, h4, X4, e4, W4, st4⟩ := stR X2 hx hZ e2 Ar3 (j := (0 : Int32)) hin3 rfl (Sto.ofV Ar3 qq3 O1 (Ins.self (E_START.keep K1))) (g := (mkF m 10 #[.val (.int p1), .unset, .unset, .unset, .unset, .unset] [(.ref a_START), (.int (0 : Int32)), (.ref b1), (.ref b1)])) rfl rfl (hb hby at_10)
  have V4 : Arv Z h4 b1 k1 (.object "ebbtide/serve/History$Event") (10 : Int32) [(.ref a_START), .null, .null, .null, .null, .null, .null, .null, .null, .null] .null := Arv.set Ar3 qq3 Sz3 Ng3 Hs3 Gf3 rfl W4 0 rfl (Nat.le_of_ble_eq_true rfl)
  have K4 : Keep h0 h4 [] := K1.wr W4 (Or.inr sz_b1)
  have N4 := Fr.snoc X4 N0 gz_b1
  obtain ⟨T5, X5, e5, st5⟩ := getS2 X4 hx hZ hown (host := "") (Or.inl (hw _ (List.mem_of_getElem? (i := 6) rfl))) Via.refl e4 (own_sk S_READ K4) (g := (mkF m 13 #[.val (.int p1), .unset, .unset, .unset, .unset, .unset] [(.int (1 : Int32)), (.ref b1), (.ref b1)])) rfl (hb hby at_13)
  obtain ⟨cl6, Ar6, qq6, Sz6, Ng6, Hs6, Gf6⟩ := V4
  have hin6 : ¬ ((1 : Int32) < 0 ∨ cl6.slots.size ≤ ((1 : Int32)).toNatClampNeg) := inb_of Sz6 ⟨by decide, by decide⟩
  obtain ⟨T7, h7, X7, e7, W7, st7⟩ := stR X5 hx hZ e5 Ar6 (j := (1 : Int32)) hin6 rfl (Sto.ofV Ar6 qq6 O1 (Ins.self (E_READ.keep K4))) (g := (mkF m 16 #[.val (.int p1), .unset, .unset, .unset, .unset, .unset] [(.ref a_READ), (.int (1 : Int32)), (.ref b1), (.ref b1)])) rfl rfl (hb hby at_16)
  have V7 : Arv Z h7 b1 k1 (.object "ebbtide/serve/History$Event") (10 : Int32) [(.ref a_START), (.ref a_READ), .null, .null, .null, .null, .null, .null, .null, .null] .null := Arv.set Ar6 qq6 Sz6 Ng6 Hs6 Gf6 rfl W7 1 rfl (Nat.le_of_ble_eq_true rfl)
  have K7 : Keep h0 h7 [] := K4.wr W7 (Or.inr sz_b1)
  have N7 := Fr.snoc X7 N4 gz_b1
  obtain ⟨T8, X8, e8, st8⟩ := getS2 X7 hx hZ hown (host := "") (Or.inl (hw _ (List.mem_of_getElem? (i := 8) rfl))) Via.refl e7 (own_sk S_UNREAD K7) (g := (mkF m 19 #[.val (.int p1), .unset, .unset, .unset, .unset, .unset] [(.int (2 : Int32)), (.ref b1), (.ref b1)])) rfl (hb hby at_19)
  obtain ⟨cl9, Ar9, qq9, Sz9, Ng9, Hs9, Gf9⟩ := V7
  have hin9 : ¬ ((2 : Int32) < 0 ∨ cl9.slots.size ≤ ((2 : Int32)).toNatClampNeg) := inb_of Sz9 ⟨by decide, by decide⟩
  obtain ⟨T10, h10, X10, e10, W10, st10⟩ := stR X8 hx hZ e8 Ar9 (j := (2 : Int32)) hin9 rfl (Sto.ofV Ar9 qq9 O1 (Ins.self (E_UNREAD.keep K7))) (g := (mkF m 22 #[.val (.int p1), .unset, .unset, .unset, .unset, .unset] [(.ref a_UNREAD), (.int (2 : Int32)), (.ref b1), (.ref b1)])) rfl rfl (hb hby at_22)
  have V10 : Arv Z h10 b1 k1 (.object "ebbtide/serve/History$Event") (10 : Int32) [(.ref a_START), (.ref a_READ), (.ref a_UNREAD), .null, .null, .null, .null, .null, .null, .null] .null := Arv.set Ar9 qq9 Sz9 Ng9 Hs9 Gf9 rfl W10 2 rfl (Nat.le_of_ble_eq_true rfl)
  have K10 : Keep h0 h10 [] := K7.wr W10 (Or.inr sz_b1)
  have N10 := Fr.snoc X10 N7 gz_b1
  obtain ⟨T11, X11, e11, st11⟩ := getS2 X10 hx hZ hown (host := "") (Or.inl (hw _ (List.mem_of_getElem? (i := 10) rfl))) Via.refl e10 (own_sk S_POWER_ON K10) (g := (mkF m 25 #[.val (.int p1), .unset, .unset, .unset, .unset, .unset] [(.int (3 : Int32)), (.ref b1), (.ref b1)])) rfl (hb hby at_25)
  obtain ⟨cl12, Ar12, qq12, Sz12, Ng12, Hs12, Gf12⟩ := V10
  have hin12 : ¬ ((3 : Int32) < 0 ∨ cl12.slots.size ≤ ((3 : Int32)).toNatClampNeg) := inb_of Sz12 ⟨by decide, by decide⟩
  obtain ⟨T13, h13, X13, e13, W13, st13⟩ := stR X11 hx hZ e11 Ar12 (j := (3 : Int32)) hin12 rfl (Sto.ofV Ar12 qq12 O1 (Ins.self (E_POWER_ON.keep K10))) (g := (mkF m 28 #[.val (.int p1), .unset, .unset, .unset, .unset, .unset] [(.ref a_POWER_ON), (.int (3 : Int32)), (.ref b1), (.ref b1)])) rfl rfl (hb hby at_28)
  have V13 : Arv Z h13 b1 k1 (.object "ebbtide/serve/History$Event") (10 : Int32) [(.ref a_START), (.ref a_READ), (.ref a_UNREAD), (.ref a_POWER_ON), .null, .null, .null, .null, .null, .null] .null := Arv.set Ar12 qq12 Sz12 Ng12 Hs12 Gf12 rfl W13 3 rfl (Nat.le_of_ble_eq_true rfl)
  have K13 : Keep h0 h13 [] := K10.wr W13 (Or.inr sz_b1)
  have N13 := Fr.snoc X13 N10 gz_b1
  obtain ⟨T14, X14, e14, st14⟩ := getS2 X13 hx hZ hown (host := "") (Or.inl (hw _ (List.mem_of_getElem? (i := 12) rfl))) Via.refl e13 (own_sk S_POWER_OFF K13) (g := (mkF m 31 #[.val (.int p1), .unset, .unset, .unset, .unset, .unset] [(.int (4 : Int32)), (.ref b1), (.ref b1)])) rfl (hb hby at_31)
  obtain ⟨cl15, Ar15, qq15, Sz15, Ng15, Hs15, Gf15⟩ := V13
  have hin15 : ¬ ((4 : Int32) < 0 ∨ cl15.slots.size ≤ ((4 : Int32)).toNatClampNeg) := inb_of Sz15 ⟨by decide, by decide⟩
  obtain ⟨T16, h16, X16, e16, W16, st16⟩ := stR X14 hx hZ e14 Ar15 (j := (4 : Int32)) hin15 rfl (Sto.ofV Ar15 qq15 O1 (Ins.self (E_POWER_OFF.keep K13))) (g := (mkF m 34 #[.val (.int p1), .unset, .unset, .unset, .unset, .unset] [(.ref a_POWER_OFF), (.int (4 : Int32)), (.ref b1), (.ref b1)])) rfl rfl (hb hby at_34)
  have V16 : Arv Z h16 b1 k1 (.object "ebbtide/serve/History$Event") (10 : Int32) [(.ref a_START), (.ref a_READ), (.ref a_UNREAD), (.ref a_POWER_ON), (.ref a_POWER_OFF), .null, .null, .null, .null, .null] .null := Arv.set Ar15 qq15 Sz15 Ng15 Hs15 Gf15 rfl W16 4 rfl (Nat.le_of_ble_eq_true rfl)
  have K16 : Keep h0 h16 [] := K13.wr W16 (Or.inr sz_b1)
  have N16 := Fr.snoc X16 N13 gz_b1
  obtain ⟨T17, X17, e17, st17⟩ := getS2 X16 hx hZ hown (host := "") (Or.inl (hw _ (List.mem_of_getElem? (i := 14) rfl))) Via.refl e16 (own_sk S_HOLD_ON K16) (g := (mkF m 37 #[.val (.int p1), .unset, .unset, .unset, .unset, .unset] [(.int (5 : Int32)), (.ref b1), (.ref b1)])) rfl (hb hby at_37)
  obtain ⟨cl18, Ar18, qq18, Sz18, Ng18, Hs18, Gf18⟩ := V16
  have hin18 : ¬ ((5 : Int32) < 0 ∨ cl18.slots.size ≤ ((5 : Int32)).toNatClampNeg) := inb_of Sz18 ⟨by decide, by decide⟩
  obtain ⟨T19, h19, X19, e19, W19, st19⟩ := stR X17 hx hZ e17 Ar18 (j := (5 : Int32)) hin18 rfl (Sto.ofV Ar18 qq18 O1 (Ins.self (E_HOLD_ON.keep K16))) (g := (mkF m 40 #[.val (.int p1), .unset, .unset, .unset, .unset, .unset] [(.ref a_HOLD_ON), (.int (5 : Int32)), (.ref b1), (.ref b1)])) rfl rfl (hb hby at_40)
  have V19 : Arv Z h19 b1 k1 (.object "ebbtide/serve/History$Event") (10 : Int32) [(.ref a_START), (.ref a_READ), (.ref a_UNREAD), (.ref a_POWER_ON), (.ref a_POWER_OFF), (.ref a_HOLD_ON), .null, .null, .null, .null] .null := Arv.set Ar18 qq18 Sz18 Ng18 Hs18 Gf18 rfl W19 5 rfl (Nat.le_of_ble_eq_true rfl)
  have K19 : Keep h0 h19 [] := K16.wr W19 (Or.inr sz_b1)
  have N19 := Fr.snoc X19 N16 gz_b1
  obtain ⟨T20, X20, e20, st20⟩ := getS2 X19 hx hZ hown (host := "") (Or.inl (hw _ (List.mem_of_getElem? (i := 16) rfl))) Via.refl e19 (own_sk S_HOLD_OFF K19) (g := (mkF m 44 #[.val (.int p1), .unset, .unset, .unset, .unset, .unset] [(.int (6 : Int32)), (.ref b1), (.ref b1)])) rfl (hb hby at_44)
  obtain ⟨cl21, Ar21, qq21, Sz21, Ng21, Hs21, Gf21⟩ := V19
  have hin21 : ¬ ((6 : Int32) < 0 ∨ cl21.slots.size ≤ ((6 : Int32)).toNatClampNeg) := inb_of Sz21 ⟨by decide, by decide⟩
  obtain ⟨T22, h22, X22, e22, W22, st22⟩ := stR X20 hx hZ e20 Ar21 (j := (6 : Int32)) hin21 rfl (Sto.ofV Ar21 qq21 O1 (Ins.self (E_HOLD_OFF.keep K19))) (g := (mkF m 47 #[.val (.int p1), .unset, .unset, .unset, .unset, .unset] [(.ref a_HOLD_OFF), (.int (6 : Int32)), (.ref b1), (.ref b1)])) rfl rfl (hb hby at_47)
  have V22 : Arv Z h22 b1 k1 (.object "ebbtide/serve/History$Event") (10 : Int32) [(.ref a_START), (.ref a_READ), (.ref a_UNREAD), (.ref a_POWER_ON), (.ref a_POWER_OFF), (.ref a_HOLD_ON), (.ref a_HOLD_OFF), .null, .null, .null] .null := Arv.set Ar21 qq21 Sz21 Ng21 Hs21 Gf21 rfl W22 6 rfl (Nat.le_of_ble_eq_true rfl)
  have K22 : Keep h0 h22 [] := K19.wr W22 (Or.inr sz_b1)
  have N22 := Fr.snoc X22 N19 gz_b1
  obtain ⟨T23, X23, e23, st23⟩ := getS2 X22 hx hZ hown (host := "") (Or.inl (hw _ (List.mem_of_getElem? (i := 18) rfl))) Via.refl e22 (own_sk S_RELEASE K22) (g := (mkF m 51 #[.val (.int p1), .unset, .unset, .unset, .unset, .unset] [(.int (7 : Int32)), (.ref b1), (.ref b1)])) rfl (hb hby at_51)
  obtain ⟨cl24, Ar24, qq24, Sz24, Ng24, Hs24, Gf24⟩ := V22
  have hin24 : ¬ ((7 : Int32) < 0 ∨ cl24.slots.size ≤ ((7 : Int32)).toNatClampNeg) := inb_of Sz24 ⟨by decide, by decide⟩
  obtain ⟨T25, h25, X25, e25, W25, st25⟩ := stR X23 hx hZ e23 Ar24 (j := (7 : Int32)) hin24 rfl (Sto.ofV Ar24 qq24 O1 (Ins.self (E_RELEASE.keep K22))) (g := (mkF m 54 #[.val (.int p1), .unset, .unset, .unset, .unset, .unset] [(.ref a_RELEASE), (.int (7 : Int32)), (.ref b1), (.ref b1)])) rfl rfl (hb hby at_54)
  have V25 : Arv Z h25 b1 k1 (.object "ebbtide/serve/History$Event") (10 : Int32) [(.ref a_START), (.ref a_READ), (.ref a_UNREAD), (.ref a_POWER_ON), (.ref a_POWER_OFF), (.ref a_HOLD_ON), (.ref a_HOLD_OFF), (.ref a_RELEASE), .null, .null] .null := Arv.set Ar24 qq24 Sz24 Ng24 Hs24 Gf24 rfl W25 7 rfl (Nat.le_of_ble_eq_true rfl)
  have K25 : Keep h0 h25 [] := K22.wr W25 (Or.inr sz_b1)
  have N25 := Fr.snoc X25 N22 gz_b1
  obtain ⟨T26, X26, e26, st26⟩ := getS2 X25 hx hZ hown (host := "") (Or.inl (hw _ (List.mem_of_getElem? (i := 20) rfl))) Via.refl e25 (own_sk S_SPAN_START K25) (g := (mkF m 58 #[.val (.int p1), .unset, .unset, .unset, .unset, .unset] [(.int (8 : Int32)), (.ref b1), (.ref b1)])) rfl (hb hby at_58)
  obtain ⟨cl27, Ar27, qq27, Sz27, Ng27, Hs27, Gf27⟩ := V25
  have hin27 : ¬ ((8 : Int32) < 0 ∨ cl27.slots.size ≤ ((8 : Int32)).toNatClampNeg) := inb_of Sz27 ⟨by decide, by decide⟩
  obtain ⟨T28, h28, X28, e28, W28, st28⟩ := stR X26 hx hZ e26 Ar27 (j := (8 : Int32)) hin27 rfl (Sto.ofV Ar27 qq27 O1 (Ins.self (E_SPAN_START.keep K25))) (g := (mkF m 61 #[.val (.int p1), .unset, .unset, .unset, .unset, .unset] [(.ref a_SPAN_START), (.int (8 : Int32)), (.ref b1), (.ref b1)])) rfl rfl (hb hby at_61)
  have V28 : Arv Z h28 b1 k1 (.object "ebbtide/serve/History$Event") (10 : Int32) [(.ref a_START), (.ref a_READ), (.ref a_UNREAD), (.ref a_POWER_ON), (.ref a_POWER_OFF), (.ref a_HOLD_ON), (.ref a_HOLD_OFF), (.ref a_RELEASE), (.ref a_SPAN_START), .null] .null := Arv.set Ar27 qq27 Sz27 Ng27 Hs27 Gf27 rfl W28 8 rfl (Nat.le_of_ble_eq_true rfl)
  have K28 : Keep h0 h28 [] := K25.wr W28 (Or.inr sz_b1)
  have N28 := Fr.snoc X28 N25 gz_b1
  obtain ⟨T29, X29, e29, st29⟩ := getS2 X28 hx hZ hown (host := "") (Or.inl (hw _ (List.mem_of_getElem? (i := 22) rfl))) Via.refl e28 (own_sk S_SPAN_END K28) (g := (mkF m 65 #[.val (.int p1), .unset, .unset, .unset, .unset, .unset] [(.int (9 : Int32)), (.ref b1), (.ref b1)])) rfl (hb hby at_65)
  obtain ⟨cl30, Ar30, qq30, Sz30, Ng30, Hs30, Gf30⟩ := V28
  have hin30 : ¬ ((9 : Int32) < 0 ∨ cl30.slots.size ≤ ((9 : Int32)).toNatClampNeg) := inb_of Sz30 ⟨by decide, by decide⟩
  obtain ⟨T31, h31, X31, e31, W31, st31⟩ := stR X29 hx hZ e29 Ar30 (j := (9 : Int32)) hin30 rfl (Sto.ofV Ar30 qq30 O1 (Ins.self (E_SPAN_END.keep K28))) (g := (mkF m 68 #[.val (.int p1), .unset, .unset, .unset, .unset, .unset] [(.ref a_SPAN_END), (.int (9 : Int32)), (.ref b1), (.ref b1)])) rfl rfl (hb hby at_68)
  have V31 : Arv Z h31 b1 k1 (.object "ebbtide/serve/History$Event") (10 : Int32) [(.ref a_START), (.ref a_READ), (.ref a_UNREAD), (.ref a_POWER_ON), (.ref a_POWER_OFF), (.ref a_HOLD_ON), (.ref a_HOLD_OFF), (.ref a_RELEASE), (.ref a_SPAN_START), (.ref a_SPAN_END)] .null := Arv.set Ar30 qq30 Sz30 Ng30 Hs30 Gf30 rfl W31 9 rfl (Nat.le_of_ble_eq_true rfl)
  have K31 : Keep h0 h31 [] := K28.wr W31 (Or.inr sz_b1)
  have N31 := Fr.snoc X31 N28 gz_b1
  obtain ⟨cl32, Ar32, qq32, Sz32, Ng32, Hs32, Gf32⟩ := V31
  have hin32 : ¬ ((2 : Int32) < 0 ∨ cl32.slots.size ≤ ((2 : Int32)).toNatClampNeg) := inb_of Sz32 ⟨by decide, by decide⟩
  have hat32 : cl32.slots[((2 : Int32)).toNatClampNeg]? = some (.ref a_UNREAD) := Hs32.at hin32 rfl
  obtain ⟨cq33, kq33, q33a, q33b, q33c⟩ := isOf hZ e31 (E_UNREAD.keep K31)
  obtain ⟨_, _, ⟨T33, L33, k33, n33⟩, -, X33, ⟨Lc33, hQ33, l33, y33, z33⟩, st33⟩ := X31.virtualBack hx (y := (⟨"ebbtide/serve/History$Event", "holds", "()Z"⟩ : MethodName)) (z := (⟨"ebbtide/serve/History$Event", "holds", "()Z"⟩ : MethodName)) hown (mvT hZ (hw _ (List.mem_of_getElem? (i := 25) rfl))) (mvT hZ (hw _ (List.mem_of_getElem? (i := 26) rfl))) (notFace_of_selects (args := #[]) (mvT hZ (hw _ (List.mem_of_getElem? (i := 28) rfl)))) (mvT hZ (hw _ (List.mem_of_getElem? (i := 28) rfl))) (mvT hZ (hw _ (List.mem_of_getElem? (i := 27) rfl))) (by decide) (backOf (W := 0) (rm1_11 l Z a0 hw [] a_START a_READ a_UNREAD a_POWER_ON a_POWER_OFF a_HOLD_ON a_HOLD_OFF a_RELEASE a_SPAN_START a_SPAN_END a_ON a_OFF p1 h31 n0 (Nat.le_trans Z0 K31.1) (own_wk hS K31)) hZ (hw _ (List.mem_of_getElem? (i := 29) rfl)) (hw _ (List.mem_of_getElem? (i := 3) rfl)) (by decide) (by decide)) q33a q33c (g := (mkF m 81 #[.val (.int p1), .val (.ref b1), .val (.ref a_UNREAD), .unset, .unset, .unset] [(.ref a_UNREAD)])) rfl (by rw [hml]; rfl) (Steps.refl _) (argsL := []) (rest := []) (lenOf pd_0 rfl) rfl (by show 2 * 0 + _ ≤ _; exact Nat.le_of_eq rfl) (hb hby at_81) (fun _ _ => ⟨rfl, e31, (by decide : 1 + 0 ≤ _), (by decide : 10 + 0 ≤ _)⟩)
  dsimp only [Pt.U, Pt.locs, Pt.cells, Pt.slots] at X33 l33 y33 z33 st33 hQ33
  subst l33 y33 z33
  obtain ⟨rfl, N33q, e33⟩ := hQ33
  have N33 := Fr.app N31 N33q
  obtain ⟨cq34, kq34, q34a, q34b, q34c⟩ := isOf hZ e33 (E_UNREAD.keep K31)
  obtain ⟨_, _, ⟨T34, L34, k34, n34⟩, -, X34, ⟨Lc34, hQ34, l34, y34, z34⟩, st34⟩ := X33.virtualBack hx (y := (⟨"ebbtide/serve/History$Event", "hold", "()Lebbtide/serve/Hold;"⟩ : MethodName)) (z := (⟨"ebbtide/serve/History$Event", "hold", "()Lebbtide/serve/Hold;"⟩ : MethodName)) hown (mvT hZ (hw _ (List.mem_of_getElem? (i := 33) rfl))) (mvT hZ (hw _ (List.mem_of_getElem? (i := 34) rfl))) (notFace_of_selects (args := #[]) (mvT hZ (hw _ (List.mem_of_getElem? (i := 36) rfl)))) (mvT hZ (hw _ (List.mem_of_getElem? (i := 36) rfl))) (mvT hZ (hw _ (List.mem_of_getElem? (i := 35) rfl))) (by decide) (backOf (W := 0) (rm2_12 l Z a0 hw [] a_START a_READ a_UNREAD a_POWER_ON a_POWER_OFF a_HOLD_ON a_HOLD_OFF a_RELEASE a_SPAN_START a_SPAN_END a_ON a_OFF p1 h31 n0 (Nat.le_trans Z0 K31.1) (own_wk hS K31)) hZ (hw _ (List.mem_of_getElem? (i := 37) rfl)) (hw _ (List.mem_of_getElem? (i := 3) rfl)) (by decide) (by decide)) q34a q34c (g := (mkF m 86 #[.val (.int p1), .val (.ref b1), .val (.ref a_UNREAD), .val (.int (0 : Int32)), .unset, .unset] [(.ref a_UNREAD)])) rfl (by rw [hml]; rfl) (Steps.refl _) (argsL := []) (rest := []) (lenOf pd_2 rfl) rfl (by show 2 * 0 + _ ≤ _; exact Nat.le_of_eq rfl) (hb hby at_86) (fun _ _ => ⟨rfl, e33, (by decide : 1 + 0 ≤ _), (by decide : 10 + 0 ≤ _)⟩)
  dsimp only [Pt.U, Pt.locs, Pt.cells, Pt.slots] at X34 l34 y34 z34 st34 hQ34
  subst l34 y34 z34
  obtain ⟨rfl, N34q, e34⟩ := hQ34
  have N34 := Fr.app N33 N34q
  obtain ⟨_, _, ⟨T35, L35, k35, n35⟩, -, X35, ⟨Lc35, hQ35, l35, y35, z35⟩, st35⟩ := Jvm.LawKit.callS X34 hx (y := (⟨"ebbtide/serve/History$Event", "of", "(Lebbtide/serve/Hold;)Lebbtide/serve/History$Event;"⟩ : MethodName)) hown (mvT hZ (hw _ (List.mem_of_getElem? (i := 47) rfl))) (mvT hZ (hw _ (List.mem_of_getElem? (i := 48) rfl))) (mvT hZ (hw _ (List.mem_of_getElem? (i := 3) rfl))) (mvT hZ (hw _ (List.mem_of_getElem? (i := 49) rfl))) (by decide) (backOf (W := 0) (rm4_5 l Z a0 hw [] a_START a_READ a_UNREAD a_POWER_ON a_POWER_OFF a_HOLD_ON a_HOLD_OFF a_RELEASE a_SPAN_START a_SPAN_END a_ON a_OFF p1 h31 n0 (Nat.le_trans Z0 K31.1) (own_wk hS K31)) hZ (hw _ (List.mem_of_getElem? (i := 49) rfl)) (hw _ (List.mem_of_getElem? (i := 3) rfl)) (by decide) (by decide)) (g := (mkF m 93 #[.val (.int p1), .val (.ref b1), .val (.ref a_UNREAD), .val (.int (0 : Int32)), .val .null, .unset] [.null])) rfl (by rw [hml]; rfl) (argsL := [.null]) (rest := []) (lenOf pd_3 rfl) rfl (by show 2 * 0 + _ ≤ _; exact Nat.le_of_eq rfl) (hb hby at_93) (fun _ _ => ⟨rfl, e34, (by decide : 1 + 0 ≤ _), (by decide : 10 + 0 ≤ _)⟩)
  dsimp only [Pt.U, Pt.locs, Pt.cells, Pt.slots] at X35 l35 y35 z35 st35 hQ35
  subst l35 y35 z35
  obtain ⟨rfl, N35q, e35⟩ := hQ35
  have N35 := Fr.app N34 N35q
  obtain ⟨fs, hr, hrun, hended, hW, hsame⟩ := X35.leave (v := some (.int (1 : Int32))) (fun h => by rw [Bd.returns] at h; cases h)
  refine ⟨_, _, pre0 _ ?_, hrun, hended, _, _, rfl, ?_, ⟨_, rfl⟩, hW, hsame.mono (by decide) (by decide)⟩
  · show Steps p.tables e below (s₁.setTop (mkF m 0 #[.val (.int p1), .unset, .unset, .unset, .unset, .unset] [])) _
    refine XS.bipush X0.here hx rfl (hb hby at_0) ?_
    show Steps p.tables e below (s₁.setTop (mkF m 2 #[.val (.int p1), .unset, .unset, .unset, .unset, .unset] [(.int (10 : Int32))])) _
    refine st1 _ ?_
    show Steps p.tables e below (T1.setTop (mkF m 5 #[.val (.int p1), .unset, .unset, .unset, .unset, .unset] [(.ref b1)])) _
    refine XS.dup X1.here hx rfl (hb hby at_5) rfl rfl ?_
    show Steps p.tables e below (T1.setTop (mkF m 6 #[.val (.int p1), .unset, .unset, .unset, .unset, .unset] [(.ref b1), (.ref b1)])) _
    refine XS.iconst X1.here hx rfl (hb hby at_6) ?_
    show Steps p.tables e below (T1.setTop (mkF m 7 #[.val (.int p1), .unset, .unset, .unset, .unset, .unset] [(.int (0 : Int32)), (.ref b1), (.ref b1)])) _
    refine st2 _ ?_
    show Steps p.tables e below (T2.setTop (mkF m 10 #[.val (.int p1), .unset, .unset, .unset, .unset, .unset] [(.ref a_START), (.int (0 : Int32)), (.ref b1), (.ref b1)])) _
    refine st4 _ ?_
    show Steps p.tables e below (T4.setTop (mkF m 11 #[.val (.int p1), .unset, .unset, .unset, .unset, .unset] [(.ref b1)])) _
    refine XS.dup X4.here hx rfl (hb hby at_11) rfl rfl ?_
    show Steps p.tables e below (T4.setTop (mkF m 12 #[.val (.int p1), .unset, .unset, .unset, .unset, .unset] [(.ref b1), (.ref b1)])) _
    refine XS.iconst X4.here hx rfl (hb hby at_12) ?_
    show Steps p.tables e below (T4.setTop (mkF m 13 #[.val (.int p1), .unset, .unset, .unset, .unset, .unset] [(.int (1 : Int32)), (.ref b1), (.ref b1)])) _
    refine st5 _ ?_
    show Steps p.tables e below (T5.setTop (mkF m 16 #[.val (.int p1), .unset, .unset, .unset, .unset, .unset] [(.ref a_READ), (.int (1 : Int32)), (.ref b1), (.ref b1)])) _
    refine st7 _ ?_
    show Steps p.tables e below (T7.setTop (mkF m 17 #[.val (.int p1), .unset, .unset, .unset, .unset, .unset] [(.ref b1)])) _
    refine XS.dup X7.here hx rfl (hb hby at_17) rfl rfl ?_
    show Steps p.tables e below (T7.setTop (mkF m 18 #[.val (.int p1), .unset, .unset, .unset, .unset, .unset] [(.ref b1), (.ref b1)])) _
    refine XS.iconst X7.here hx rfl (hb hby at_18) ?_
    show Steps p.tables e below (T7.setTop (mkF m 19 #[.val (.int p1), .unset, .unset, .unset, .unset, .unset] [(.int (2 : Int32)), (.ref b1), (.ref b1)])) _
    refine st8 _ ?_
    show Steps p.tables e below (T8.setTop (mkF m 22 #[.val (.int p1), .unset, .unset, .unset, .unset, .unset] [(.ref a_UNREAD), (.int (2 : Int32)), (.ref b1), (.ref b1)])) _
    refine st10 _ ?_
    show Steps p.tables e below (T10.setTop (mkF m 23 #[.val (.int p1), .unset, .unset, .unset, .unset, .unset] [(.ref b1)])) _
    refine XS.dup X10.here hx rfl (hb hby at_23) rfl rfl ?_
    show Steps p.tables e below (T10.setTop (mkF m 24 #[.val (.int p1), .unset, .unset, .unset, .unset, .unset] [(.ref b1), (.ref b1)])) _
    refine XS.iconst X10.here hx rfl (hb hby at_24) ?_
    show Steps p.tables e below (T10.setTop (mkF m 25 #[.val (.int p1), .unset, .unset, .unset, .unset, .unset] [(.int (3 : Int32)), (.ref b1), (.ref b1)])) _
    refine st11 _ ?_
    show Steps p.tables e below (T11.setTop (mkF m 28 #[.val (.int p1), .unset, .unset, .unset, .unset, .unset] [(.ref a_POWER_ON), (.int (3 : Int32)), (.ref b1), (.ref b1)])) _
    refine st13 _ ?_
    show Steps p.tables e below (T13.setTop (mkF m 29 #[.val (.int p1), .unset, .unset, .unset, .unset, .unset] [(.ref b1)])) _
    refine XS.dup X13.here hx rfl (hb hby at_29) rfl rfl ?_
    show Steps p.tables e below (T13.setTop (mkF m 30 #[.val (.int p1), .unset, .unset, .unset, .unset, .unset] [(.ref b1), (.ref b1)])) _
    refine XS.iconst X13.here hx rfl (hb hby at_30) ?_
    show Steps p.tables e below (T13.setTop (mkF m 31 #[.val (.int p1), .unset, .unset, .unset, .unset, .unset] [(.int (4 : Int32)), (.ref b1), (.ref b1)])) _
    refine st14 _ ?_
    show Steps p.tables e below (T14.setTop (mkF m 34 #[.val (.int p1), .unset, .unset, .unset, .unset, .unset] [(.ref a_POWER_OFF), (.int (4 : Int32)), (.ref b1), (.ref b1)])) _
    refine st16 _ ?_
    show Steps p.tables e below (T16.setTop (mkF m 35 #[.val (.int p1), .unset, .unset, .unset, .unset, .unset] [(.ref b1)])) _
    refine XS.dup X16.here hx rfl (hb hby at_35) rfl rfl ?_
    show Steps p.tables e below (T16.setTop (mkF m 36 #[.val (.int p1), .unset, .unset, .unset, .unset, .unset] [(.ref b1), (.ref b1)])) _
    refine XS.iconst X16.here hx rfl (hb hby at_36) ?_
    show Steps p.tables e below (T16.setTop (mkF m 37 #[.val (.int p1), .unset, .unset, .unset, .unset, .unset] [(.int (5 : Int32)), (.ref b1), (.ref b1)])) _
    refine st17 _ ?_
    show Steps p.tables e below (T17.setTop (mkF m 40 #[.val (.int p1), .unset, .unset, .unset, .unset, .unset] [(.ref a_HOLD_ON), (.int (5 : Int32)), (.ref b1), (.ref b1)])) _
    refine st19 _ ?_
    show Steps p.tables e below (T19.setTop (mkF m 41 #[.val (.int p1), .unset, .unset, .unset, .unset, .unset] [(.ref b1)])) _
    refine XS.dup X19.here hx rfl (hb hby at_41) rfl rfl ?_
    show Steps p.tables e below (T19.setTop (mkF m 42 #[.val (.int p1), .unset, .unset, .unset, .unset, .unset] [(.ref b1), (.ref b1)])) _
    refine XS.bipush X19.here hx rfl (hb hby at_42) ?_
    show Steps p.tables e below (T19.setTop (mkF m 44 #[.val (.int p1), .unset, .unset, .unset, .unset, .unset] [(.int (6 : Int32)), (.ref b1), (.ref b1)])) _
    refine st20 _ ?_
    show Steps p.tables e below (T20.setTop (mkF m 47 #[.val (.int p1), .unset, .unset, .unset, .unset, .unset] [(.ref a_HOLD_OFF), (.int (6 : Int32)), (.ref b1), (.ref b1)])) _
    refine st22 _ ?_
    show Steps p.tables e below (T22.setTop (mkF m 48 #[.val (.int p1), .unset, .unset, .unset, .unset, .unset] [(.ref b1)])) _
    refine XS.dup X22.here hx rfl (hb hby at_48) rfl rfl ?_
    show Steps p.tables e below (T22.setTop (mkF m 49 #[.val (.int p1), .unset, .unset, .unset, .unset, .unset] [(.ref b1), (.ref b1)])) _
    refine XS.bipush X22.here hx rfl (hb hby at_49) ?_
    show Steps p.tables e below (T22.setTop (mkF m 51 #[.val (.int p1), .unset, .unset, .unset, .unset, .unset] [(.int (7 : Int32)), (.ref b1), (.ref b1)])) _
    refine st23 _ ?_
    show Steps p.tables e below (T23.setTop (mkF m 54 #[.val (.int p1), .unset, .unset, .unset, .unset, .unset] [(.ref a_RELEASE), (.int (7 : Int32)), (.ref b1), (.ref b1)])) _
    refine st25 _ ?_
    show Steps p.tables e below (T25.setTop (mkF m 55 #[.val (.int p1), .unset, .unset, .unset, .unset, .unset] [(.ref b1)])) _
    refine XS.dup X25.here hx rfl (hb hby at_55) rfl rfl ?_
    show Steps p.tables e below (T25.setTop (mkF m 56 #[.val (.int p1), .unset, .unset, .unset, .unset, .unset] [(.ref b1), (.ref b1)])) _
    refine XS.bipush X25.here hx rfl (hb hby at_56) ?_
    show Steps p.tables e below (T25.setTop (mkF m 58 #[.val (.int p1), .unset, .unset, .unset, .unset, .unset] [(.int (8 : Int32)), (.ref b1), (.ref b1)])) _
    refine st26 _ ?_
    show Steps p.tables e below (T26.setTop (mkF m 61 #[.val (.int p1), .unset, .unset, .unset, .unset, .unset] [(.ref a_SPAN_START), (.int (8 : Int32)), (.ref b1), (.ref b1)])) _
    refine st28 _ ?_
    show Steps p.tables e below (T28.setTop (mkF m 62 #[.val (.int p1), .unset, .unset, .unset, .unset, .unset] [(.ref b1)])) _
    refine XS.dup X28.here hx rfl (hb hby at_62) rfl rfl ?_
    show Steps p.tables e below (T28.setTop (mkF m 63 #[.val (.int p1), .unset, .unset, .unset, .unset, .unset] [(.ref b1), (.ref b1)])) _
    refine XS.bipush X28.here hx rfl (hb hby at_63) ?_
    show Steps p.tables e below (T28.setTop (mkF m 65 #[.val (.int p1), .unset, .unset, .unset, .unset, .unset] [(.int (9 : Int32)), (.ref b1), (.ref b1)])) _
    refine st29 _ ?_
    show Steps p.tables e below (T29.setTop (mkF m 68 #[.val (.int p1), .unset, .unset, .unset, .unset, .unset] [(.ref a_SPAN_END), (.int (9 : Int32)), (.ref b1), (.ref b1)])) _
    refine st31 _ ?_
    show Steps p.tables e below (T31.setTop (mkF m 69 #[.val (.int p1), .unset, .unset, .unset, .unset, .unset] [(.ref b1)])) _
    refine XS.astoreN X31.here hx rfl (hb hby at_69) rfl rfl (l' := #[.val (.int p1), .val (.ref b1), .unset, .unset, .unset, .unset]) rfl ?_
    show Steps p.tables e below (T31.setTop (mkF m 70 #[.val (.int p1), .val (.ref b1), .unset, .unset, .unset, .unset] [])) _
    refine XS.aloadN X31.here hx rfl (hb hby at_70) rfl rfl ?_
    show Steps p.tables e below (T31.setTop (mkF m 71 #[.val (.int p1), .val (.ref b1), .unset, .unset, .unset, .unset] [(.ref b1)])) _
    refine XS.iloadN X31.here hx rfl (hb hby at_71) rfl ?_
    show Steps p.tables e below (T31.setTop (mkF m 72 #[.val (.int p1), .val (.ref b1), .unset, .unset, .unset, .unset] [(.int p1), (.ref b1)])) _
    refine X31.ldcInt hx hown (mvT hZ (hw _ (List.mem_of_getElem? (i := 24) rfl))) (g := (mkF m 72 #[.val (.int p1), .val (.ref b1), .unset, .unset, .unset, .unset] [(.int p1), (.ref b1)])) rfl (hb hby at_72) _ ?_
    show Steps p.tables e below (T31.setTop (mkF m 74 #[.val (.int p1), .val (.ref b1), .unset, .unset, .unset, .unset] [(.int (2147483647 : Int32)), (.int p1), (.ref b1)])) _
    refine XS.iand X31.here hx rfl (hb hby at_74) rfl ?_
    show Steps p.tables e below (T31.setTop (mkF m 75 #[.val (.int p1), .val (.ref b1), .unset, .unset, .unset, .unset] [(.int (p1 &&& (2147483647 : Int32))), (.ref b1)])) _
    refine XS.bipush X31.here hx rfl (hb hby at_75) ?_
    show Steps p.tables e below (T31.setTop (mkF m 77 #[.val (.int p1), .val (.ref b1), .unset, .unset, .unset, .unset] [(.int (10 : Int32)), (.int (p1 &&& (2147483647 : Int32))), (.ref b1)])) _
    refine Jvm.RoadKit.iremM (g := (mkF m 77 #[.val (.int p1), .val (.ref b1), .unset, .unset, .unset, .unset] [(.int (10 : Int32)), (.int (p1 &&& (2147483647 : Int32))), (.ref b1)])) X31 hx rfl (hb hby at_77) rfl (by decide) ?_
    rw [hi]
    show Steps p.tables e below (T31.setTop (mkF m 78 #[.val (.int p1), .val (.ref b1), .unset, .unset, .unset, .unset] [(.int (2 : Int32)), (.ref b1)])) _
    refine X31.aaload hx (j := (2 : Int32)) (v := (.ref a_UNREAD)) (by rw [e31]; exact Ar32.1) (State.isArrayOf_alike hZ.alike Ar32.2.1) rfl Ar32.2.2 hin32 hat32 (g := (mkF m 78 #[.val (.int p1), .val (.ref b1), .unset, .unset, .unset, .unset] [(.int (2 : Int32)), (.ref b1)])) rfl rfl (hb hby at_78) _ ?_
    show Steps p.tables e below (T31.setTop (mkF m 79 #[.val (.int p1), .val (.ref b1), .unset, .unset, .unset, .unset] [(.ref a_UNREAD)])) _
    refine XS.astoreN X31.here hx rfl (hb hby at_79) rfl rfl (l' := #[.val (.int p1), .val (.ref b1), .val (.ref a_UNREAD), .unset, .unset, .unset]) rfl ?_
    show Steps p.tables e below (T31.setTop (mkF m 80 #[.val (.int p1), .val (.ref b1), .val (.ref a_UNREAD), .unset, .unset, .unset] [])) _
    refine XS.aloadN X31.here hx rfl (hb hby at_80) rfl rfl ?_
    show Steps p.tables e below (T31.setTop (mkF m 81 #[.val (.int p1), .val (.ref b1), .val (.ref a_UNREAD), .unset, .unset, .unset] [(.ref a_UNREAD)])) _
    refine st33.trans ?_
    show Steps p.tables e below (T33.setTop (mkF m 84 #[.val (.int p1), .val (.ref b1), .val (.ref a_UNREAD), .unset, .unset, .unset] [(.int (0 : Int32))])) _
    refine XS.istoreN X33.here hx rfl (hb hby at_84) rfl (l' := #[.val (.int p1), .val (.ref b1), .val (.ref a_UNREAD), .val (.int (0 : Int32)), .unset, .unset]) rfl ?_
    show Steps p.tables e below (T33.setTop (mkF m 85 #[.val (.int p1), .val (.ref b1), .val (.ref a_UNREAD), .val (.int (0 : Int32)), .unset, .unset] [])) _
    refine XS.aloadN X33.here hx rfl (hb hby at_85) rfl rfl ?_
    show Steps p.tables e below (T33.setTop (mkF m 86 #[.val (.int p1), .val (.ref b1), .val (.ref a_UNREAD), .val (.int (0 : Int32)), .unset, .unset] [(.ref a_UNREAD)])) _
    refine st34.trans ?_
    show Steps p.tables e below (T34.setTop (mkF m 89 #[.val (.int p1), .val (.ref b1), .val (.ref a_UNREAD), .val (.int (0 : Int32)), .unset, .unset] [.null])) _
    refine XS.astore X34.here hx rfl (hb hby at_89) rfl rfl (l' := #[.val (.int p1), .val (.ref b1), .val (.ref a_UNREAD), .val (.int (0 : Int32)), .val .null, .unset]) rfl ?_
    show Steps p.tables e below (T34.setTop (mkF m 91 #[.val (.int p1), .val (.ref b1), .val (.ref a_UNREAD), .val (.int (0 : Int32)), .val .null, .unset] [])) _
    refine XS.aload X34.here hx rfl (hb hby at_91) rfl rfl ?_
    show Steps p.tables e below (T34.setTop (mkF m 93 #[.val (.int p1), .val (.ref b1), .val (.ref a_UNREAD), .val (.int (0 : Int32)), .val .null, .unset] [.null])) _
    refine st35 _ ?_
    show Steps p.tables e below (T35.setTop (mkF m 96 #[.val (.int p1), .val (.ref b1), .val (.ref a_UNREAD), .val (.int (0 : Int32)), .val .null, .unset] [(.ref a_RELEASE)])) _
    refine XS.aloadN X35.here hx rfl (hb hby at_96) rfl rfl ?_
    show Steps p.tables e below (T35.setTop (mkF m 97 #[.val (.int p1), .val (.ref b1), .val (.ref a_UNREAD), .val (.int (0 : Int32)), .val .null, .unset] [(.ref a_UNREAD), (.ref a_RELEASE)])) _
    refine Jvm.RoadKit.acmp (g := (mkF m 97 #[.val (.int p1), .val (.ref b1), .val (.ref a_UNREAD), .val (.int (0 : Int32)), .val .null, .unset] [(.ref a_UNREAD), (.ref a_RELEASE)])) X35 hx rfl rfl rfl (pc0 := 97) (pc' := 104) (same := false) rfl (hb hby at_97) rfl (decide_eq_false fun q => (Fld.ne F_RELEASE_ordinal F_UNREAD_ordinal (fun q => absurd (Value.int.inj q) (by decide))) (Value.ref.inj q)) (by decide) (by decide) ?_
    show Steps p.tables e below (T35.setTop (mkF m 104 #[.val (.int p1), .val (.ref b1), .val (.ref a_UNREAD), .val (.int (0 : Int32)), .val .null, .unset] [])) _
    refine XS.iconst X35.here hx rfl (hb hby at_104) ?_
    show Steps p.tables e below (T35.setTop (mkF m 105 #[.val (.int p1), .val (.ref b1), .val (.ref a_UNREAD), .val (.int (0 : Int32)), .val .null, .unset] [(.int (0 : Int32))])) _
    refine XS.istore X35.here hx rfl (hb hby at_105) rfl (l' := #[.val (.int p1), .val (.ref b1), .val (.ref a_UNREAD), .val (.int (0 : Int32)), .val .null, .val (.int (0 : Int32))]) rfl ?_
    show Steps p.tables e below (T35.setTop (mkF m 107 #[.val (.int p1), .val (.ref b1), .val (.ref a_UNREAD), .val (.int (0 : Int32)), .val .null, .val (.int (0 : Int32))] [])) _
    refine XS.iloadN X35.here hx rfl (hb hby at_107) rfl ?_
    show Steps p.tables e below (T35.setTop (mkF m 108 #[.val (.int p1), .val (.ref b1), .val (.ref a_UNREAD), .val (.int (0 : Int32)), .val .null, .val (.int (0 : Int32))] [(.int (0 : Int32))])) _
    refine XS.iload X35.here hx rfl (hb hby at_108) rfl ?_
    show Steps p.tables e below (T35.setTop (mkF m 110 #[.val (.int p1), .val (.ref b1), .val (.ref a_UNREAD), .val (.int (0 : Int32)), .val .null, .val (.int (0 : Int32))] [(.int (0 : Int32)), (.int (0 : Int32))])) _
    refine XS.icmpNo X35.here hx rfl (hb hby at_110) rfl (teq (by decide : (0 : Int32) = (0 : Int32))).2 ?_
    show Steps p.tables e below (T35.setTop (mkF m 113 #[.val (.int p1), .val (.ref b1), .val (.ref a_UNREAD), .val (.int (0 : Int32)), .val .null, .val (.int (0 : Int32))] [])) _
    refine XS.iconst X35.here hx rfl (hb hby at_113) ?_
    show Steps p.tables e below (T35.setTop (mkF m 114 #[.val (.int p1), .val (.ref b1), .val (.ref a_UNREAD), .val (.int (0 : Int32)), .val .null, .val (.int (0 : Int32))] [(.int (1 : Int32))])) _
    refine XS.goto X35.here hx rfl (pc0 := 114) (pc' := 118) rfl (hb hby at_114) (by decide) (by decide) ?_
    show Steps p.tables e below (T35.setTop (mkF m 118 #[.val (.int p1), .val (.ref b1), .val (.ref a_UNREAD), .val (.int (0 : Int32)), .val .null, .val (.int (0 : Int32))] [(.int (1 : Int32))])) _
    exact retN X35 hx (t := .boolean) Bd.returns (by simp) (hb hby at_118) hr
  · exact ⟨rfl, N35⟩
set_option maxRecDepth 65536 in
set_option maxHeartbeats 40000000 in
theorem rm1_15 (l : Launch) (Z : State) (a0 : Array Value) (hw : ∀ d ∈ tables_1, d.before a0 Z = true) (ws : List Jvm.Cond) (a_START : Addr) (a_READ : Addr) (a_UNREAD : Addr) (a_POWER_ON : Addr) (a_POWER_OFF : Addr) (a_HOLD_ON : Addr) (a_HOLD_OFF : Addr) (a_RELEASE : Addr) (a_SPAN_START : Addr) (a_SPAN_END : Addr) (a_ON : Addr) (a_OFF : Addr) (p1 : Int32) (h0 : Heap) (n0 : Nat) (Z0 : n0 ≤ h0.size) (hS : Wd Z h0 a_START a_READ a_UNREAD a_POWER_ON a_POWER_OFF a_HOLD_ON a_HOLD_OFF a_RELEASE a_SPAN_START a_SPAN_END a_ON a_OFF) :
    MetFree l (⟨"ebbtide/serve/History$Event", "holds", "()Z"⟩ : MethodName) (head1 (Jvm.Cond.code (⟨"ebbtide/serve/History$Event", "holds", "()Z"⟩ : MethodName) prog_171_method_7_code 1 (some .boolean) :: ws) ({ frames := 0, cells := 0, slots := 0, locals := 0 } : Room)) (fun a U => a = #[(.ref a_POWER_ON)] ∧ Z.Warmed39 U.vm ∧ U.heap = h0) (fun _ _ _ _ _ => True) (fun _ U o U' => ∃ v L, o = .returned v ∧ QP (some (.int (0 : Int32))) h0 n0 v U'.heap L ∧ FrameEnd U o U' L ({ frames := 0, cells := 0, slots := 0, locals := 0 } : Room).cells ({ frames := 0, cells := 0, slots := 0, locals := 0 } : Room).slots) := by
  refine MetFree.of_bodySF (plainFor_of_name pn_ebbtide_serve_History_Event) hisR ?_
  intro p e s m args below meth c s₁ Bd hml0 hP hK
  obtain ⟨rfl, hZ, hh⟩ := hP
  have hx := Bd.exec
  have hby := Bd.bytes
  have hml : c.maxLocals = 1 := hml0
  have hown : s.vm.findClass "ebbtide/serve/History$Event" = some m.cls := findClass_of_methodNamed Bd.named
  have X0 : Stand p l e ({ frames := 0, cells := 0, slots := 0, locals := 0 } : Room) s m #[(.ref a_POWER_ON)] below meth c s₁ [] 0 0 := Stand.of_body Bd
  have e0 : s₁.heap = h0 := by rw [← hh, Bd.state]; rfl
  have N0 := Fr.nil n0
  have pre0 : ∀ t, Steps p.tables e below (s₁.setTop (mkF m 0 #[.val (.ref a_POWER_ON)] [])) t → Steps p.tables e below (s₁.setTop (entryFrame m #[(.ref a_POWER_ON)] 1)) t := fun t k => castTop (by first | (simp [entryFrame, mkF, argsToLocals, Value.category]; done) | rfl) k
  obtain ⟨S_START, E_START, S_READ, E_READ, S_UNREAD, E_UNREAD, S_POWER_ON, E_POWER_ON, S_POWER_OFF, E_POWER_OFF, S_HOLD_ON, E_HOLD_ON, S_HOLD_OFF, E_HOLD_OFF, S_RELEASE, E_RELEASE, S_SPAN_START, E_SPAN_START, S_SPAN_END, E_SPAN_END, S_ON, E_ON, S_OFF, E_OFF, F_START_ordinal, F_HOLD_ON_ordinal, F_HOLD_OFF_ordinal, F_RELEASE_ordinal, F_POWER_ON_ordinal, F_READ_ordinal, F_POWER_OFF_ordinal, F_UNREAD_ordinal, F_SPAN_START_ordinal, F_SPAN_END_ordinal, F_OFF_ordinal, F_ON_ordinal⟩ := id hS
  obtain ⟨T1, X1, e1, st1⟩ := getS2 X0 hx hZ hown (host := "") (Or.inl (hw _ (List.mem_of_getElem? (i := 30) rfl))) Via.refl e0 S_HOLD_ON (g := (mkF m 1 #[.val (.ref a_POWER_ON)] [(.ref a_POWER_ON)])) rfl (hb hby d1_1)
  obtain ⟨T2, X2, e2, st2⟩ := getS2 X1 hx hZ hown (host := "") (Or.inl (hw _ (List.mem_of_getElem? (i := 31) rfl))) Via.refl e1 S_HOLD_OFF (g := (mkF m 8 #[.val (.ref a_POWER_ON)] [(.ref a_POWER_ON)])) rfl (hb hby d1_8)
  obtain ⟨T3, X3, e3, st3⟩ := getS2 X2 hx hZ hown (host := "") (Or.inl (hw _ (List.mem_of_getElem? (i := 32) rfl))) Via.refl e2 S_RELEASE (g := (mkF m 15 #[.val (.ref a_POWER_ON)] [(.ref a_POWER_ON)])) rfl (hb hby d1_15)
  obtain ⟨fs, hr, hrun, hended, hW, hsame⟩ := X3.leave (v := some (.int (0 : Int32))) (fun h => by rw [Bd.returns] at h; cases h)
  refine ⟨_, _, pre0 _ ?_, hrun, hended, _, _, rfl, ?_, ⟨_, rfl⟩, hW, hsame.mono (by decide) (by decide)⟩
  · show Steps p.tables e below (s₁.setTop (mkF m 0 #[.val (.ref a_POWER_ON)] [])) _
    refine XS.aloadN X0.here hx rfl (hb hby d1_0) rfl rfl ?_
    show Steps p.tables e below (s₁.setTop (mkF m 1 #[.val (.ref a_POWER_ON)] [(.ref a_POWER_ON)])) _
    refine st1 _ ?_
    show Steps p.tables e below (T1.setTop (mkF m 4 #[.val (.ref a_POWER_ON)] [(.ref a_HOLD_ON), (.ref a_POWER_ON)])) _
    refine Jvm.RoadKit.acmp (g := (mkF m 4 #[.val (.ref a_POWER_ON)] [(.ref a_HOLD_ON), (.ref a_POWER_ON)])) X1 hx rfl rfl rfl (pc0 := 4) (pc' := 7) (same := false) rfl (hb hby d1_4) rfl (decide_eq_false fun q => (Fld.ne F_POWER_ON_ordinal F_HOLD_ON_ordinal (fun q => absurd (Value.int.inj q) (by decide))) (Value.ref.inj q)) (by decide) (by decide) ?_
    show Steps p.tables e below (T1.setTop (mkF m 7 #[.val (.ref a_POWER_ON)] [])) _
    refine XS.aloadN X1.here hx rfl (hb hby d1_7) rfl rfl ?_
    show Steps p.tables e below (T1.setTop (mkF m 8 #[.val (.ref a_POWER_ON)] [(.ref a_POWER_ON)])) _
    refine st2 _ ?_
    show Steps p.tables e below (T2.setTop (mkF m 11 #[.val (.ref a_POWER_ON)] [(.ref a_HOLD_OFF), (.ref a_POWER_ON)])) _
    refine Jvm.RoadKit.acmp (g := (mkF m 11 #[.val (.ref a_POWER_ON)] [(.ref a_HOLD_OFF), (.ref a_POWER_ON)])) X2 hx rfl rfl rfl (pc0 := 11) (pc' := 14) (same := false) rfl (hb hby d1_11) rfl (decide_eq_false fun q => (Fld.ne F_POWER_ON_ordinal F_HOLD_OFF_ordinal (fun q => absurd (Value.int.inj q) (by decide))) (Value.ref.inj q)) (by decide) (by decide) ?_
    show Steps p.tables e below (T2.setTop (mkF m 14 #[.val (.ref a_POWER_ON)] [])) _
    refine XS.aloadN X2.here hx rfl (hb hby d1_14) rfl rfl ?_
    show Steps p.tables e below (T2.setTop (mkF m 15 #[.val (.ref a_POWER_ON)] [(.ref a_POWER_ON)])) _
    refine st3 _ ?_
    show Steps p.tables e below (T3.setTop (mkF m 18 #[.val (.ref a_POWER_ON)] [(.ref a_RELEASE), (.ref a_POWER_ON)])) _
    refine Jvm.RoadKit.acmp (g := (mkF m 18 #[.val (.ref a_POWER_ON)] [(.ref a_RELEASE), (.ref a_POWER_ON)])) X3 hx rfl rfl rfl (pc0 := 18) (pc' := 25) (same := false) rfl (hb hby d1_18) rfl (decide_eq_false fun q => (Fld.ne F_POWER_ON_ordinal F_RELEASE_ordinal (fun q => absurd (Value.int.inj q) (by decide))) (Value.ref.inj q)) (by decide) (by decide) ?_
    show Steps p.tables e below (T3.setTop (mkF m 25 #[.val (.ref a_POWER_ON)] [])) _
    refine XS.iconst X3.here hx rfl (hb hby d1_25) ?_
    show Steps p.tables e below (T3.setTop (mkF m 26 #[.val (.ref a_POWER_ON)] [(.int (0 : Int32))])) _
    exact retN X3 hx (t := .boolean) Bd.returns (by simp) (hb hby d1_26) hr
  · exact ⟨rfl, N0, e3⟩
set_option maxRecDepth 65536 in
set_option maxHeartbeats 40000000 in
theorem rm3_17 (l : Launch) (Z : State) (a0 : Array Value) (hw : ∀ d ∈ tables_1, d.before a0 Z = true) (ws : List Jvm.Cond) (a_START : Addr) (a_READ : Addr) (a_UNREAD : Addr) (a_POWER_ON : Addr) (a_POWER_OFF : Addr) (a_HOLD_ON : Addr) (a_HOLD_OFF : Addr) (a_RELEASE : Addr) (a_SPAN_START : Addr) (a_SPAN_END : Addr) (a_ON : Addr) (a_OFF : Addr) (p1 : Int32) (h0 : Heap) (n0 : Nat) (Z0 : n0 ≤ h0.size) (hS : Wd Z h0 a_START a_READ a_UNREAD a_POWER_ON a_POWER_OFF a_HOLD_ON a_HOLD_OFF a_RELEASE a_SPAN_START a_SPAN_END a_ON a_OFF) :
    MetFree l (⟨"java/lang/Enum", "ordinal", "()I"⟩ : MethodName) (head1 (Jvm.Cond.code (⟨"java/lang/Enum", "ordinal", "()I"⟩ : MethodName) jdk_37_method_2_code 1 (some .int) :: ws) ({ frames := 0, cells := 0, slots := 0, locals := 0 } : Room)) (fun a U => a = #[(.ref a_POWER_ON)] ∧ Z.Warmed39 U.vm ∧ U.heap = h0) (fun _ _ _ _ _ => True) (fun _ U o U' => ∃ v L, o = .returned v ∧ QP (some (.int (3 : Int32))) h0 n0 v U'.heap L ∧ FrameEnd U o U' L ({ frames := 0, cells := 0, slots := 0, locals := 0 } : Room).cells ({ frames := 0, cells := 0, slots := 0, locals := 0 } : Room).slots) := by
  refine MetFree.of_bodySF (plainFor_of_name pn_java_lang_Enum) hisR ?_
  intro p e s m args below meth c s₁ Bd hml0 hP hK
  obtain ⟨rfl, hZ, hh⟩ := hP
  have hx := Bd.exec
  have hby := Bd.bytes
  have hml : c.maxLocals = 1 := hml0
  have hown : s.vm.findClass "java/lang/Enum" = some m.cls := findClass_of_methodNamed Bd.named
  have X0 : Stand p l e ({ frames := 0, cells := 0, slots := 0, locals := 0 } : Room) s m #[(.ref a_POWER_ON)] below meth c s₁ [] 0 0 := Stand.of_body Bd
  have e0 : s₁.heap = h0 := by rw [← hh, Bd.state]; rfl
  have N0 := Fr.nil n0
  have pre0 : ∀ t, Steps p.tables e below (s₁.setTop (mkF m 0 #[.val (.ref a_POWER_ON)] [])) t → Steps p.tables e below (s₁.setTop (entryFrame m #[(.ref a_POWER_ON)] 1)) t := fun t k => castTop (by first | (simp [entryFrame, mkF, argsToLocals, Value.category]; done) | rfl) k
  obtain ⟨S_START, E_START, S_READ, E_READ, S_UNREAD, E_UNREAD, S_POWER_ON, E_POWER_ON, S_POWER_OFF, E_POWER_OFF, S_HOLD_ON, E_HOLD_ON, S_HOLD_OFF, E_HOLD_OFF, S_RELEASE, E_RELEASE, S_SPAN_START, E_SPAN_START, S_SPAN_END, E_SPAN_END, S_ON, E_ON, S_OFF, E_OFF, F_START_ordinal, F_HOLD_ON_ordinal, F_HOLD_OFF_ordinal, F_RELEASE_ordinal, F_POWER_ON_ordinal, F_READ_ordinal, F_POWER_OFF_ordinal, F_UNREAD_ordinal, F_SPAN_START_ordinal, F_SPAN_END_ordinal, F_OFF_ordinal, F_ON_ordinal⟩ := id hS
  obtain ⟨T1, X1, e1, st1⟩ := getF X0 hx hZ hown (host := "") (Or.inl (hw _ (List.mem_of_getElem? (i := 45) rfl))) Via.refl e0 F_POWER_ON_ordinal (g := (mkF m 1 #[.val (.ref a_POWER_ON)] [(.ref a_POWER_ON)])) rfl rfl (hb hby d3_1)
  obtain ⟨fs, hr, hrun, hended, hW, hsame⟩ := X1.leave (v := some (.int (3 : Int32))) (fun h => by rw [Bd.returns] at h; cases h)
  refine ⟨_, _, pre0 _ ?_, hrun, hended, _, _, rfl, ?_, ⟨_, rfl⟩, hW, hsame.mono (by decide) (by decide)⟩
  · show Steps p.tables e below (s₁.setTop (mkF m 0 #[.val (.ref a_POWER_ON)] [])) _
    refine XS.aloadN X0.here hx rfl (hb hby d3_0) rfl rfl ?_
    show Steps p.tables e below (s₁.setTop (mkF m 1 #[.val (.ref a_POWER_ON)] [(.ref a_POWER_ON)])) _
    refine st1 _ ?_
    show Steps p.tables e below (T1.setTop (mkF m 4 #[.val (.ref a_POWER_ON)] [(.int (3 : Int32))])) _
    exact own_retI X1 hx Bd.returns (hb hby d3_4) hr
  · exact ⟨rfl, N0, e1⟩
set_option maxRecDepth 65536 in
set_option maxHeartbeats 40000000 in
theorem rm2_16 (l : Launch) (Z : State) (a0 : Array Value) (hw : ∀ d ∈ tables_1, d.before a0 Z = true) (ws : List Jvm.Cond) (a_START : Addr) (a_READ : Addr) (a_UNREAD : Addr) (a_POWER_ON : Addr) (a_POWER_OFF : Addr) (a_HOLD_ON : Addr) (a_HOLD_OFF : Addr) (a_RELEASE : Addr) (a_SPAN_START : Addr) (a_SPAN_END : Addr) (a_ON : Addr) (a_OFF : Addr) (p1 : Int32) (h0 : Heap) (n0 : Nat) (Z0 : n0 ≤ h0.size) (hS : Wd Z h0 a_START a_READ a_UNREAD a_POWER_ON a_POWER_OFF a_HOLD_ON a_HOLD_OFF a_RELEASE a_SPAN_START a_SPAN_END a_ON a_OFF) :
    MetFree l (⟨"ebbtide/serve/History$Event", "hold", "()Lebbtide/serve/Hold;"⟩ : MethodName) (head1 (Jvm.Cond.code (⟨"ebbtide/serve/History$Event", "hold", "()Lebbtide/serve/Hold;"⟩ : MethodName) prog_171_method_6_code 1 (some (.object "ebbtide/serve/Hold")) :: ws) ({ frames := 1, cells := 0, slots := 0, locals := 12 } : Room)) (fun a U => a = #[(.ref a_POWER_ON)] ∧ Z.Warmed39 U.vm ∧ U.heap = h0) (fun _ _ _ _ _ => True) (fun _ U o U' => ∃ v L, o = .returned v ∧ QP (some .null) h0 n0 v U'.heap L ∧ FrameEnd U o U' L ({ frames := 1, cells := 0, slots := 0, locals := 12 } : Room).cells ({ frames := 1, cells := 0, slots := 0, locals := 12 } : Room).slots) := by
  refine MetFree.of_bodySF (plainFor_of_name pn_ebbtide_serve_History_Event) hisR ?_
  intro p e s m args below meth c s₁ Bd hml0 hP hK
  obtain ⟨rfl, hZ, hh⟩ := hP
  have hx := Bd.exec
  have hby := Bd.bytes
  have hml : c.maxLocals = 1 := hml0
  have hown : s.vm.findClass "ebbtide/serve/History$Event" = some m.cls := findClass_of_methodNamed Bd.named
  have X0 : Stand p l e ({ frames := 1, cells := 0, slots := 0, locals := 12 } : Room) s m #[(.ref a_POWER_ON)] below meth c s₁ [] 0 0 := Stand.of_body Bd
  have e0 : s₁.heap = h0 := by rw [← hh, Bd.state]; rfl
  have N0 := Fr.nil n0
  have pre0 : ∀ t, Steps p.tables e below (s₁.setTop (mkF m 0 #[.val (.ref a_POWER_ON)] [])) t → Steps p.tables e below (s₁.setTop (entryFrame m #[(.ref a_POWER_ON)] 1)) t := fun t k => castTop (by first | (simp [entryFrame, mkF, argsToLocals, Value.category]; done) | rfl) k
  obtain ⟨S_START, E_START, S_READ, E_READ, S_UNREAD, E_UNREAD, S_POWER_ON, E_POWER_ON, S_POWER_OFF, E_POWER_OFF, S_HOLD_ON, E_HOLD_ON, S_HOLD_OFF, E_HOLD_OFF, S_RELEASE, E_RELEASE, S_SPAN_START, E_SPAN_START, S_SPAN_END, E_SPAN_END, S_ON, E_ON, S_OFF, E_OFF, F_START_ordinal, F_HOLD_ON_ordinal, F_HOLD_OFF_ordinal, F_RELEASE_ordinal, F_POWER_ON_ordinal, F_READ_ordinal, F_POWER_OFF_ordinal, F_UNREAD_ordinal, F_SPAN_START_ordinal, F_SPAN_END_ordinal, F_OFF_ordinal, F_ON_ordinal⟩ := id hS
  obtain ⟨cq1, kq1, q1a, q1b, q1c⟩ := isOf hZ e0 E_POWER_ON
  obtain ⟨_, _, ⟨T1, L1, k1, n1⟩, -, X1, ⟨Lc1, hQ1, l1, y1, z1⟩, st1⟩ := X0.virtualBackUp hx (owner := "java/lang/Enum") (x := (⟨"ebbtide/serve/History$Event", "ordinal", "()I"⟩ : MethodName)) (y := (⟨"java/lang/Enum", "ordinal", "()I"⟩ : MethodName)) hown (mvT hZ (hw _ (List.mem_of_getElem? (i := 38) rfl))) (mvT hZ (hw _ (List.mem_of_getElem? (i := 39) rfl))) (mvT hZ (hw _ (List.mem_of_getElem? (i := 40) rfl))) (by decide) (mvT hZ (hw _ (List.mem_of_getElem? (i := 42) rfl))) (mvT hZ (hw _ (List.mem_of_getElem? (i := 41) rfl))) (backOf (W := 0) (rm3_17 l Z a0 hw [] a_START a_READ a_UNREAD a_POWER_ON a_POWER_OFF a_HOLD_ON a_HOLD_OFF a_RELEASE a_SPAN_START a_SPAN_END a_ON a_OFF p1 h0 n0 Z0 hS) hZ (hw _ (List.mem_of_getElem? (i := 44) rfl)) (hw _ (List.mem_of_getElem? (i := 43) rfl)) (by decide) (by decide)) q1a q1c (g := (mkF m 1 #[.val (.ref a_POWER_ON)] [(.ref a_POWER_ON)])) rfl (by rw [hml]; rfl) (Steps.refl _) (argsL := []) (rest := []) (lenOf pd_1 rfl) rfl (by show 2 * 0 + _ ≤ _; exact Nat.le_of_eq rfl) (hb hby d2_1) (fun _ _ => ⟨rfl, e0, (by decide : 0 + 0 ≤ _), (by decide : 0 + 0 ≤ _)⟩)
  dsimp only [Pt.U, Pt.locs, Pt.cells, Pt.slots] at X1 l1 y1 z1 st1 hQ1
  subst l1 y1 z1
  obtain ⟨rfl, N1q, e1⟩ := hQ1
  have N1 := Fr.app N0 N1q
  obtain ⟨fs, hr, hrun, hended, hW, hsame⟩ := X1.leave (v := some .null) (fun h => by rw [Bd.returns] at h; cases h)
  refine ⟨_, _, pre0 _ ?_, hrun, hended, _, _, rfl, ?_, ⟨_, rfl⟩, hW, hsame.mono (by decide) (by decide)⟩
  · show Steps p.tables e below (s₁.setTop (mkF m 0 #[.val (.ref a_POWER_ON)] [])) _
    refine XS.aloadN X0.here hx rfl (hb hby d2_0) rfl rfl ?_
    show Steps p.tables e below (s₁.setTop (mkF m 1 #[.val (.ref a_POWER_ON)] [(.ref a_POWER_ON)])) _
    refine st1.trans ?_
    show Steps p.tables e below (T1.setTop (mkF m 4 #[.val (.ref a_POWER_ON)] [(.int (3 : Int32))])) _
    refine X1.lookupswitchMiss hx (g := (mkF m 4 #[.val (.ref a_POWER_ON)] [(.int (3 : Int32))])) rfl rfl (hb hby d2_4) (by decide) (by first | decide | rfl | (simp; done)) (by show (0 : Int) ≤ ((4 : Nat) : Int) + 40; decide) _ ?_
    show Steps p.tables e below (T1.setTop (mkF m 44 #[.val (.ref a_POWER_ON)] [])) _
    refine XS.aconstNull X1.here hx rfl (hb hby d2_44) ?_
    show Steps p.tables e below (T1.setTop (mkF m 45 #[.val (.ref a_POWER_ON)] [.null])) _
    exact own_retA X1 hx Bd.returns rfl rfl (hb hby d2_45) hr
  · exact ⟨rfl, N1, e1⟩
set_option maxRecDepth 65536 in
set_option maxHeartbeats 40000000 in
theorem rm0_14 (l : Launch) (Z : State) (a0 : Array Value) (hw : ∀ d ∈ tables_1, d.before a0 Z = true) (ws : List Jvm.Cond) (a_START : Addr) (a_READ : Addr) (a_UNREAD : Addr) (a_POWER_ON : Addr) (a_POWER_OFF : Addr) (a_HOLD_ON : Addr) (a_HOLD_OFF : Addr) (a_RELEASE : Addr) (a_SPAN_START : Addr) (a_SPAN_END : Addr) (a_ON : Addr) (a_OFF : Addr) (p1 : Int32) (h0 : Heap) (n0 : Nat) (Z0 : n0 ≤ h0.size) (hS : Wd Z h0 a_START a_READ a_UNREAD a_POWER_ON a_POWER_OFF a_HOLD_ON a_HOLD_OFF a_RELEASE a_SPAN_START a_SPAN_END a_ON a_OFF) (hi : ((p1 &&& (2147483647 : Int32)) % (10 : Int32)) = (3 : Int32)) :
    MetFree l x (head1 (Jvm.Cond.code x code maxLocals ret :: ws) room_1) (fun a U => a = #[(.int p1)] ∧ Z.Warmed39 U.vm ∧ U.heap = h0) (fun _ _ _ _ _ => True) (fun _ U o U' => ∃ v L, o = .returned v ∧ Q0 n0 v L ∧ FrameEnd U o U' L room_1.cells room_1.slots) := by
  refine MetFree.of_bodySF (plainFor_of_name pn_ebbtide_serve_HistoryHoldsPinLaw) hisR ?_
  intro p e s m args below meth c s₁ Bd hml0 hP hK
  obtain ⟨rfl, hZ, hh⟩ := hP
  have hx := Bd.exec
  have hby := Bd.bytes
  have hml : c.maxLocals = 6 := hml0
  have hown : s.vm.findClass "ebbtide/serve/HistoryHoldsPinLaw" = some m.cls := findClass_of_methodNamed Bd.named
  have X0 : Stand p l e room_1 s m #[(.int p1)] below meth c s₁ [] 0 0 := Stand.of_body Bd
  have e0 : s₁.heap = h0 := by rw [← hh, Bd.state]; rfl
  have N0 := Fr.nil n0
  have pre0 : ∀ t, Steps p.tables e below (s₁.setTop (mkF m 0 #[.val (.int p1), .unset, .unset, .unset, .unset, .unset] [])) t → Steps p.tables e below (s₁.setTop (entryFrame m #[(.int p1)] maxLocals)) t := fun t k => castTop (by first | (simp [entryFrame, mkF, argsToLocals, Value.category, maxLocals]; done) | rfl) k
  obtain ⟨S_START, E_START, S_READ, E_READ, S_UNREAD, E_UNREAD, S_POWER_ON, E_POWER_ON, S_POWER_OFF, E_POWER_OFF, S_HOLD_ON, E_HOLD_ON, S_HOLD_OFF, E_HOLD_OFF, S_RELEASE, E_RELEASE, S_SPAN_START, E_SPAN_START, S_SPAN_END, E_SPAN_END, S_ON, E_ON, S_OFF, E_OFF, F_START_ordinal, F_HOLD_ON_ordinal, F_HOLD_OFF_ordinal, F_RELEASE_ordinal, F_POWER_ON_ordinal, F_READ_ordinal, F_POWER_OFF_ordinal, F_UNREAD_ordinal, F_SPAN_START_ordinal, F_SPAN_END_ordinal, F_OFF_ordinal, F_ON_ordinal⟩ := id hS
  obtain ⟨T1, h1, k1, X1, e1, E1, A1, O1, st1⟩ := newR X0 hx hZ hown (hw _ (List.mem_of_getElem? (i := 0) rfl)) (hw _ (List.mem_of_getElem? (i := 1) rfl)) e0 (g := (mkF m 2 #[.val (.int p1), .unset, .unset, .unset, .unset, .unset] [(.int (10 : Int32))])) rfl (hb hby at_2) rfl (by decide) (cap := 10) (by decide) (by decide) (by decide) (by decide)
  obtain ⟨b1, g1⟩ : ∃ z, z = h0.size := ⟨_, rfl⟩
  rw [← g1] at A1 st1
  have V1 : Arv Z h1 b1 k1 (.object "ebbtide/serve/History$Event") (10 : Int32) [.null, .null, .null, .null, .null, .null, .null, .null, .null, .null] .null := (Arv.new A1 (by decide)).pad (pad_rep [] .null 10)
  have K1 : Keep h0 h1 [] := (Keep.refl h0 []).ext E1
  have sz_b1 : h0.size ≤ b1 := Nat.le_trans (Keep.refl h0 []).1 (Nat.le_of_eq g1.symm)
  have gz_b1 : n0 ≤ b1 := Nat.le_trans Z0 sz_b1
  obtain ⟨T2, X2, e2, st2⟩ := getS2 X1 hx hZ hown (host := "") (Or.inl (hw _ (List.mem_of_getElem? (i := 2) rfl))) Via.refl e1 (own_sk S_START K1) (g := (mkF m 7 #[.val (.int p1), .unset, .unset, .unset, .unset, .unset] [(.int (0 : Int32)), (.ref b1), (.ref b1)])) rfl (hb hby at_7)
  obtain ⟨cl3, Ar3, qq3, Sz3, Ng3, Hs3, Gf3⟩ := V1
  have hin3 : ¬ ((0 : Int32) < 0 ∨ cl3.slots.size ≤ ((0 : Int32)).toNatClampNeg) := inb_of Sz3 ⟨by decide, by decide⟩
  obtain ⟨T4, h4, X4, e4, W4, st4⟩ := stR X2 hx hZ e2 Ar3 (j := (0 : Int32)) hin3 rfl (Sto.ofV Ar3 qq3 O1 (Ins.self (E_START.keep K1))) (g := (mkF m 10 #[.val (.int p1), .unset, .unset, .unset, .unset, .unset] [(.ref a_START), (.int (0 : Int32)), (.ref b1), (.ref b1)])) rfl rfl (hb hby at_10)
  have V4 : Arv Z h4 b1 k1 (.object "ebbtide/serve/History$Event") (10 : Int32) [(.ref a_START), .null, .null, .null, .null, .null, .null, .null, .null, .null] .null := Arv.set Ar3 qq3 Sz3 Ng3 Hs3 Gf3 rfl W4 0 rfl (Nat.le_of_ble_eq_true rfl)
  have K4 : Keep h0 h4 [] := K1.wr W4 (Or.inr sz_b1)
  have N4 := Fr.snoc X4 N0 gz_b1
  obtain ⟨T5, X5, e5, st5⟩ := getS2 X4 hx hZ hown (host := "") (Or.inl (hw _ (List.mem_of_getElem? (i := 6) rfl))) Via.refl e4 (own_sk S_READ K4) (g := (mkF m 13 #[.val (.int p1), .unset, .unset, .unset, .unset, .unset] [(.int (1 : Int32)), (.ref b1), (.ref b1)])) rfl (hb hby at_13)
  obtain ⟨cl6, Ar6, qq6, Sz6, Ng6, Hs6, Gf6⟩ := V4
  have hin6 : ¬ ((1 : Int32) < 0 ∨ cl6.slots.size ≤ ((1 : Int32)).toNatClampNeg) := inb_of Sz6 ⟨by decide, by decide⟩
  obtain ⟨T7, h7, X7, e7, W7, st7⟩ := stR X5 hx hZ e5 Ar6 (j := (1 : Int32)) hin6 rfl (Sto.ofV Ar6 qq6 O1 (Ins.self (E_READ.keep K4))) (g := (mkF m 16 #[.val (.int p1), .unset, .unset, .unset, .unset, .unset] [(.ref a_READ), (.int (1 : Int32)), (.ref b1), (.ref b1)])) rfl rfl (hb hby at_16)
  have V7 : Arv Z h7 b1 k1 (.object "ebbtide/serve/History$Event") (10 : Int32) [(.ref a_START), (.ref a_READ), .null, .null, .null, .null, .null, .null, .null, .null] .null := Arv.set Ar6 qq6 Sz6 Ng6 Hs6 Gf6 rfl W7 1 rfl (Nat.le_of_ble_eq_true rfl)
  have K7 : Keep h0 h7 [] := K4.wr W7 (Or.inr sz_b1)
  have N7 := Fr.snoc X7 N4 gz_b1
  obtain ⟨T8, X8, e8, st8⟩ := getS2 X7 hx hZ hown (host := "") (Or.inl (hw _ (List.mem_of_getElem? (i := 8) rfl))) Via.refl e7 (own_sk S_UNREAD K7) (g := (mkF m 19 #[.val (.int p1), .unset, .unset, .unset, .unset, .unset] [(.int (2 : Int32)), (.ref b1), (.ref b1)])) rfl (hb hby at_19)
  obtain ⟨cl9, Ar9, qq9, Sz9, Ng9, Hs9, Gf9⟩ := V7
  have hin9 : ¬ ((2 : Int32) < 0 ∨ cl9.slots.size ≤ ((2 : Int32)).toNatClampNeg) := inb_of Sz9 ⟨by decide, by decide⟩
  obtain ⟨T10, h10, X10, e10, W10, st10⟩ := stR X8 hx hZ e8 Ar9 (j := (2 : Int32)) hin9 rfl (Sto.ofV Ar9 qq9 O1 (Ins.self (E_UNREAD.keep K7))) (g := (mkF m 22 #[.val (.int p1), .unset, .unset, .unset, .unset, .unset] [(.ref a_UNREAD), (.int (2 : Int32)), (.ref b1), (.ref b1)])) rfl rfl (hb hby at_22)
  have V10 : Arv Z h10 b1 k1 (.object "ebbtide/serve/History$Event") (10 : Int32) [(.ref a_START), (.ref a_READ), (.ref a_UNREAD), .null, .null, .null, .null, .null, .null, .null] .null := Arv.set Ar9 qq9 Sz9 Ng9 Hs9 Gf9 rfl W10 2 rfl (Nat.le_of_ble_eq_true rfl)
  have K10 : Keep h0 h10 [] := K7.wr W10 (Or.inr sz_b1)
  have N10 := Fr.snoc X10 N7 gz_b1
  obtain ⟨T11, X11, e11, st11⟩ := getS2 X10 hx hZ hown (host := "") (Or.inl (hw _ (List.mem_of_getElem? (i := 10) rfl))) Via.refl e10 (own_sk S_POWER_ON K10) (g := (mkF m 25 #[.val (.int p1), .unset, .unset, .unset, .unset, .unset] [(.int (3 : Int32)), (.ref b1), (.ref b1)])) rfl (hb hby at_25)
  obtain ⟨cl12, Ar12, qq12, Sz12, Ng12, Hs12, Gf12⟩ := V10
  have hin12 : ¬ ((3 : Int32) < 0 ∨ cl12.slots.size ≤ ((3 : Int32)).toNatClampNeg) := inb_of Sz12 ⟨by decide, by decide⟩
  obtain ⟨T13, h13, X13, e13, W13, st13⟩ := stR X11 hx hZ e11 Ar12 (j := (3 : Int32)) hin12 rfl (Sto.ofV Ar12 qq12 O1 (Ins.self (E_POWER_ON.keep K10))) (g := (mkF m 28 #[.val (.int p1), .unset, .unset, .unset, .unset, .unset] [(.ref a_POWER_ON), (.int (3 : Int32)), (.ref b1), (.ref b1)])) rfl rfl (hb hby at_28)
  have V13 : Arv Z h13 b1 k1 (.object "ebbtide/serve/History$Event") (10 : Int32) [(.ref a_START), (.ref a_READ), (.ref a_UNREAD), (.ref a_POWER_ON), .null, .null, .null, .null, .null, .null] .null := Arv.set Ar12 qq12 Sz12 Ng12 Hs12 Gf12 rfl W13 3 rfl (Nat.le_of_ble_eq_true rfl)
  have K13 : Keep h0 h13 [] := K10.wr W13 (Or.inr sz_b1)
  have N13 := Fr.snoc X13 N10 gz_b1
  obtain ⟨T14, X14, e14, st14⟩ := getS2 X13 hx hZ hown (host := "") (Or.inl (hw _ (List.mem_of_getElem? (i := 12) rfl))) Via.refl e13 (own_sk S_POWER_OFF K13) (g := (mkF m 31 #[.val (.int p1), .unset, .unset, .unset, .unset, .unset] [(.int (4 : Int32)), (.ref b1), (.ref b1)])) rfl (hb hby at_31)
  obtain ⟨cl15, Ar15, qq15, Sz15, Ng15, Hs15, Gf15⟩ := V13
  have hin15 : ¬ ((4 : Int32) < 0 ∨ cl15.slots.size ≤ ((4 : Int32)).toNatClampNeg) := inb_of Sz15 ⟨by decide, by decide⟩
  obtain ⟨T16, h16, X16, e16, W16, st16⟩ := stR X14 hx hZ e14 Ar15 (j := (4 : Int32)) hin15 rfl (Sto.ofV Ar15 qq15 O1 (Ins.self (E_POWER_OFF.keep K13))) (g := (mkF m 34 #[.val (.int p1), .unset, .unset, .unset, .unset, .unset] [(.ref a_POWER_OFF), (.int (4 : Int32)), (.ref b1), (.ref b1)])) rfl rfl (hb hby at_34)
  have V16 : Arv Z h16 b1 k1 (.object "ebbtide/serve/History$Event") (10 : Int32) [(.ref a_START), (.ref a_READ), (.ref a_UNREAD), (.ref a_POWER_ON), (.ref a_POWER_OFF), .null, .null, .null, .null, .null] .null := Arv.set Ar15 qq15 Sz15 Ng15 Hs15 Gf15 rfl W16 4 rfl (Nat.le_of_ble_eq_true rfl)
  have K16 : Keep h0 h16 [] := K13.wr W16 (Or.inr sz_b1)
  have N16 := Fr.snoc X16 N13 gz_b1
  obtain ⟨T17, X17, e17, st17⟩ := getS2 X16 hx hZ hown (host := "") (Or.inl (hw _ (List.mem_of_getElem? (i := 14) rfl))) Via.refl e16 (own_sk S_HOLD_ON K16) (g := (mkF m 37 #[.val (.int p1), .unset, .unset, .unset, .unset, .unset] [(.int (5 : Int32)), (.ref b1), (.ref b1)])) rfl (hb hby at_37)
  obtain ⟨cl18, Ar18, qq18, Sz18, Ng18, Hs18, Gf18⟩ := V16
  have hin18 : ¬ ((5 : Int32) < 0 ∨ cl18.slots.size ≤ ((5 : Int32)).toNatClampNeg) := inb_of Sz18 ⟨by decide, by decide⟩
  obtain ⟨T19, h19, X19, e19, W19, st19⟩ := stR X17 hx hZ e17 Ar18 (j := (5 : Int32)) hin18 rfl (Sto.ofV Ar18 qq18 O1 (Ins.self (E_HOLD_ON.keep K16))) (g := (mkF m 40 #[.val (.int p1), .unset, .unset, .unset, .unset, .unset] [(.ref a_HOLD_ON), (.int (5 : Int32)), (.ref b1), (.ref b1)])) rfl rfl (hb hby at_40)
  have V19 : Arv Z h19 b1 k1 (.object "ebbtide/serve/History$Event") (10 : Int32) [(.ref a_START), (.ref a_READ), (.ref a_UNREAD), (.ref a_POWER_ON), (.ref a_POWER_OFF), (.ref a_HOLD_ON), .null, .null, .null, .null] .null := Arv.set Ar18 qq18 Sz18 Ng18 Hs18 Gf18 rfl W19 5 rfl (Nat.le_of_ble_eq_true rfl)
  have K19 : Keep h0 h19 [] := K16.wr W19 (Or.inr sz_b1)
  have N19 := Fr.snoc X19 N16 gz_b1
  obtain ⟨T20, X20, e20, st20⟩ := getS2 X19 hx hZ hown (host := "") (Or.inl (hw _ (List.mem_of_getElem? (i := 16) rfl))) Via.refl e19 (own_sk S_HOLD_OFF K19) (g := (mkF m 44 #[.val (.int p1), .unset, .unset, .unset, .unset, .unset] [(.int (6 : Int32)), (.ref b1), (.ref b1)])) rfl (hb hby at_44)
  obtain ⟨cl21, Ar21, qq21, Sz21, Ng21, Hs21, Gf21⟩ := V19
  have hin21 : ¬ ((6 : Int32) < 0 ∨ cl21.slots.size ≤ ((6 : Int32)).toNatClampNeg) := inb_of Sz21 ⟨by decide, by decide⟩
  obtain ⟨T22, h22, X22, e22, W22, st22⟩ := stR X20 hx hZ e20 Ar21 (j := (6 : Int32)) hin21 rfl (Sto.ofV Ar21 qq21 O1 (Ins.self (E_HOLD_OFF.keep K19))) (g := (mkF m 47 #[.val (.int p1), .unset, .unset, .unset, .unset, .unset] [(.ref a_HOLD_OFF), (.int (6 : Int32)), (.ref b1), (.ref b1)])) rfl rfl (hb hby at_47)
  have V22 : Arv Z h22 b1 k1 (.object "ebbtide/serve/History$Event") (10 : Int32) [(.ref a_START), (.ref a_READ), (.ref a_UNREAD), (.ref a_POWER_ON), (.ref a_POWER_OFF), (.ref a_HOLD_ON), (.ref a_HOLD_OFF), .null, .null, .null] .null := Arv.set Ar21 qq21 Sz21 Ng21 Hs21 Gf21 rfl W22 6 rfl (Nat.le_of_ble_eq_true rfl)
  have K22 : Keep h0 h22 [] := K19.wr W22 (Or.inr sz_b1)
  have N22 := Fr.snoc X22 N19 gz_b1
  obtain ⟨T23, X23, e23, st23⟩ := getS2 X22 hx hZ hown (host := "") (Or.inl (hw _ (List.mem_of_getElem? (i := 18) rfl))) Via.refl e22 (own_sk S_RELEASE K22) (g := (mkF m 51 #[.val (.int p1), .unset, .unset, .unset, .unset, .unset] [(.int (7 : Int32)), (.ref b1), (.ref b1)])) rfl (hb hby at_51)
  obtain ⟨cl24, Ar24, qq24, Sz24, Ng24, Hs24, Gf24⟩ := V22
  have hin24 : ¬ ((7 : Int32) < 0 ∨ cl24.slots.size ≤ ((7 : Int32)).toNatClampNeg) := inb_of Sz24 ⟨by decide, by decide⟩
  obtain ⟨T25, h25, X25, e25, W25, st25⟩ := stR X23 hx hZ e23 Ar24 (j := (7 : Int32)) hin24 rfl (Sto.ofV Ar24 qq24 O1 (Ins.self (E_RELEASE.keep K22))) (g := (mkF m 54 #[.val (.int p1), .unset, .unset, .unset, .unset, .unset] [(.ref a_RELEASE), (.int (7 : Int32)), (.ref b1), (.ref b1)])) rfl rfl (hb hby at_54)
  have V25 : Arv Z h25 b1 k1 (.object "ebbtide/serve/History$Event") (10 : Int32) [(.ref a_START), (.ref a_READ), (.ref a_UNREAD), (.ref a_POWER_ON), (.ref a_POWER_OFF), (.ref a_HOLD_ON), (.ref a_HOLD_OFF), (.ref a_RELEASE), .null, .null] .null := Arv.set Ar24 qq24 Sz24 Ng24 Hs24 Gf24 rfl W25 7 rfl (Nat.le_of_ble_eq_true rfl)
  have K25 : Keep h0 h25 [] := K22.wr W25 (Or.inr sz_b1)
  have N25 := Fr.snoc X25 N22 gz_b1
  obtain ⟨T26, X26, e26, st26⟩ := getS2 X25 hx hZ hown (host := "") (Or.inl (hw _ (List.mem_of_getElem? (i := 20) rfl))) Via.refl e25 (own_sk S_SPAN_START K25) (g := (mkF m 58 #[.val (.int p1), .unset, .unset, .unset, .unset, .unset] [(.int (8 : Int32)), (.ref b1), (.ref b1)])) rfl (hb hby at_58)
  obtain ⟨cl27, Ar27, qq27, Sz27, Ng27, Hs27, Gf27⟩ := V25
  have hin27 : ¬ ((8 : Int32) < 0 ∨ cl27.slots.size ≤ ((8 : Int32)).toNatClampNeg) := inb_of Sz27 ⟨by decide, by decide⟩
  obtain ⟨T28, h28, X28, e28, W28, st28⟩ := stR X26 hx hZ e26 Ar27 (j := (8 : Int32)) hin27 rfl (Sto.ofV Ar27 qq27 O1 (Ins.self (E_SPAN_START.keep K25))) (g := (mkF m 61 #[.val (.int p1), .unset, .unset, .unset, .unset, .unset] [(.ref a_SPAN_START), (.int (8 : Int32)), (.ref b1), (.ref b1)])) rfl rfl (hb hby at_61)
  have V28 : Arv Z h28 b1 k1 (.object "ebbtide/serve/History$Event") (10 : Int32) [(.ref a_START), (.ref a_READ), (.ref a_UNREAD), (.ref a_POWER_ON), (.ref a_POWER_OFF), (.ref a_HOLD_ON), (.ref a_HOLD_OFF), (.ref a_RELEASE), (.ref a_SPAN_START), .null] .null := Arv.set Ar27 qq27 Sz27 Ng27 Hs27 Gf27 rfl W28 8 rfl (Nat.le_of_ble_eq_true rfl)
  have K28 : Keep h0 h28 [] := K25.wr W28 (Or.inr sz_b1)
  have N28 := Fr.snoc X28 N25 gz_b1
  obtain ⟨T29, X29, e29, st29⟩ := getS2 X28 hx hZ hown (host := "") (Or.inl (hw _ (List.mem_of_getElem? (i := 22) rfl))) Via.refl e28 (own_sk S_SPAN_END K28) (g := (mkF m 65 #[.val (.int p1), .unset, .unset, .unset, .unset, .unset] [(.int (9 : Int32)), (.ref b1), (.ref b1)])) rfl (hb hby at_65)
  obtain ⟨cl30, Ar30, qq30, Sz30, Ng30, Hs30, Gf30⟩ := V28
  have hin30 : ¬ ((9 : Int32) < 0 ∨ cl30.slots.size ≤ ((9 : Int32)).toNatClampNeg) := inb_of Sz30 ⟨by decide, by decide⟩
  obtain ⟨T31, h31, X31, e31, W31, st31⟩ := stR X29 hx hZ e29 Ar30 (j := (9 : Int32)) hin30 rfl (Sto.ofV Ar30 qq30 O1 (Ins.self (E_SPAN_END.keep K28))) (g := (mkF m 68 #[.val (.int p1), .unset, .unset, .unset, .unset, .unset] [(.ref a_SPAN_END), (.int (9 : Int32)), (.ref b1), (.ref b1)])) rfl rfl (hb hby at_68)
  have V31 : Arv Z h31 b1 k1 (.object "ebbtide/serve/History$Event") (10 : Int32) [(.ref a_START), (.ref a_READ), (.ref a_UNREAD), (.ref a_POWER_ON), (.ref a_POWER_OFF), (.ref a_HOLD_ON), (.ref a_HOLD_OFF), (.ref a_RELEASE), (.ref a_SPAN_START), (.ref a_SPAN_END)] .null := Arv.set Ar30 qq30 Sz30 Ng30 Hs30 Gf30 rfl W31 9 rfl (Nat.le_of_ble_eq_true rfl)
  have K31 : Keep h0 h31 [] := K28.wr W31 (Or.inr sz_b1)
  have N31 := Fr.snoc X31 N28 gz_b1
  obtain ⟨cl32, Ar32, qq32, Sz32, Ng32, Hs32, Gf32⟩ := V31
  have hin32 : ¬ ((3 : Int32) < 0 ∨ cl32.slots.size ≤ ((3 : Int32)).toNatClampNeg) := inb_of Sz32 ⟨by decide, by decide⟩
  have hat32 : cl32.slots[((3 : Int32)).toNatClampNeg]? = some (.ref a_POWER_ON) := Hs32.at hin32 rfl
  obtain ⟨cq33, kq33, q33a, q33b, q33c⟩ := isOf hZ e31 (E_POWER_ON.keep K31)
  obtain ⟨_, _, ⟨T33, L33, k33, n33⟩, -, X33, ⟨Lc33, hQ33, l33, y33, z33⟩, st33⟩ := X31.virtualBack hx (y := (⟨"ebbtide/serve/History$Event", "holds", "()Z"⟩ : MethodName)) (z := (⟨"ebbtide/serve/History$Event", "holds", "()Z"⟩ : MethodName)) hown (mvT hZ (hw _ (List.mem_of_getElem? (i := 25) rfl))) (mvT hZ (hw _ (List.mem_of_getElem? (i := 26) rfl))) (notFace_of_selects (args := #[]) (mvT hZ (hw _ (List.mem_of_getElem? (i := 28) rfl)))) (mvT hZ (hw _ (List.mem_of_getElem? (i := 28) rfl))) (mvT hZ (hw _ (List.mem_of_getElem? (i := 27) rfl))) (by decide) (backOf (W := 0) (rm1_15 l Z a0 hw [] a_START a_READ a_UNREAD a_POWER_ON a_POWER_OFF a_HOLD_ON a_HOLD_OFF a_RELEASE a_SPAN_START a_SPAN_END a_ON a_OFF p1 h31 n0 (Nat.le_trans Z0 K31.1) (own_wk hS K31)) hZ (hw _ (List.mem_of_getElem? (i := 29) rfl)) (hw _ (List.mem_of_getElem? (i := 3) rfl)) (by decide) (by decide)) q33a q33c (g := (mkF m 81 #[.val (.int p1), .val (.ref b1), .val (.ref a_POWER_ON), .unset, .unset, .unset] [(.ref a_POWER_ON)])) rfl (by rw [hml]; rfl) (Steps.refl _) (argsL := []) (rest := []) (lenOf pd_0 rfl) rfl (by show 2 * 0 + _ ≤ _; exact Nat.le_of_eq rfl) (hb hby at_81) (fun _ _ => ⟨rfl, e31, (by decide : 1 + 0 ≤ _), (by decide : 10 + 0 ≤ _)⟩)
  dsimp only [Pt.U, Pt.locs, Pt.cells, Pt.slots] at X33 l33 y33 z33 st33 hQ33
  subst l33 y33 z33
  obtain ⟨rfl, N33q, e33⟩ := hQ33
  have N33 := Fr.app N31 N33q
  obtain ⟨cq34, kq34, q34a, q34b, q34c⟩ := isOf hZ e33 (E_POWER_ON.keep K31)
  obtain ⟨_, _, ⟨T34, L34, k34, n34⟩, -, X34, ⟨Lc34, hQ34, l34, y34, z34⟩, st34⟩ := X33.virtualBack hx (y := (⟨"ebbtide/serve/History$Event", "hold", "()Lebbtide/serve/Hold;"⟩ : MethodName)) (z := (⟨"ebbtide/serve/History$Event", "hold", "()Lebbtide/serve/Hold;"⟩ : MethodName)) hown (mvT hZ (hw _ (List.mem_of_getElem? (i := 33) rfl))) (mvT hZ (hw _ (List.mem_of_getElem? (i := 34) rfl))) (notFace_of_selects (args := #[]) (mvT hZ (hw _ (List.mem_of_getElem? (i := 36) rfl)))) (mvT hZ (hw _ (List.mem_of_getElem? (i := 36) rfl))) (mvT hZ (hw _ (List.mem_of_getElem? (i := 35) rfl))) (by decide) (backOf (W := 0) (rm2_16 l Z a0 hw [] a_START a_READ a_UNREAD a_POWER_ON a_POWER_OFF a_HOLD_ON a_HOLD_OFF a_RELEASE a_SPAN_START a_SPAN_END a_ON a_OFF p1 h31 n0 (Nat.le_trans Z0 K31.1) (own_wk hS K31)) hZ (hw _ (List.mem_of_getElem? (i := 37) rfl)) (hw _ (List.mem_of_getElem? (i := 3) rfl)) (by decide) (by decide)) q34a q34c (g := (mkF m 86 #[.val (.int p1), .val (.ref b1), .val (.ref a_POWER_ON), .val (.int (0 : Int32)), .unset, .unset] [(.ref a_POWER_ON)])) rfl (by rw [hml]; rfl) (Steps.refl _) (argsL := []) (rest := []) (lenOf pd_2 rfl) rfl (by show 2 * 0 + _ ≤ _; exact Nat.le_of_eq rfl) (hb hby at_86) (fun _ _ => ⟨rfl, e33, (by decide : 1 + 0 ≤ _), (by decide : 10 + 0 ≤ _)⟩)
  dsimp only [Pt.U, Pt.locs, Pt.cells, Pt.slots] at X34 l34 y34 z34 st34 hQ34
  subst l34 y34 z34
  obtain ⟨rfl, N34q, e34⟩ := hQ34
  have N34 := Fr.app N33 N34q
  obtain ⟨_, _, ⟨T35, L35, k35, n35⟩, -, X35, ⟨Lc35, hQ35, l35, y35, z35⟩, st35⟩ := Jvm.LawKit.callS X34 hx (y := (⟨"ebbtide/serve/History$Event", "of", "(Lebbtide/serve/Hold;)Lebbtide/serve/History$Event;"⟩ : MethodName)) hown (mvT hZ (hw _ (List.mem_of_getElem? (i := 47) rfl))) (mvT hZ (hw _ (List.mem_of_getElem? (i := 48) rfl))) (mvT hZ (hw _ (List.mem_of_getElem? (i := 3) rfl))) (mvT hZ (hw _ (List.mem_of_getElem? (i := 49) rfl))) (by decide) (backOf (W := 0) (rm4_5 l Z a0 hw [] a_START a_READ a_UNREAD a_POWER_ON a_POWER_OFF a_HOLD_ON a_HOLD_OFF a_RELEASE a_SPAN_START a_SPAN_END a_ON a_OFF p1 h31 n0 (Nat.le_trans Z0 K31.1) (own_wk hS K31)) hZ (hw _ (List.mem_of_getElem? (i := 49) rfl)) (hw _ (List.mem_of_getElem? (i := 3) rfl)) (by decide) (by decide)) (g := (mkF m 93 #[.val (.int p1), .val (.ref b1), .val (.ref a_POWER_ON), .val (.int (0 : Int32)), .val .null, .unset] [.null])) rfl (by rw [hml]; rfl) (argsL := [.null]) (rest := []) (lenOf pd_3 rfl) rfl (by show 2 * 0 + _ ≤ _; exact Nat.le_of_eq rfl) (hb hby at_93) (fun _ _ => ⟨rfl, e34, (by decide : 1 + 0 ≤ _), (by decide : 10 + 0 ≤ _)⟩)
  dsimp only [Pt.U, Pt.locs, Pt.cells, Pt.slots] at X35 l35 y35 z35 st35 hQ35
  subst l35 y35 z35
  obtain ⟨rfl, N35q, e35⟩ := hQ35
  have N35 := Fr.app N34 N35q
  obtain ⟨fs, hr, hrun, hended, hW, hsame⟩ := X35.leave (v := some (.int (1 : Int32))) (fun h => by rw [Bd.returns] at h; cases h)
  refine ⟨_, _, pre0 _ ?_, hrun, hended, _, _, rfl, ?_, ⟨_, rfl⟩, hW, hsame.mono (by decide) (by decide)⟩
  · show Steps p.tables e below (s₁.setTop (mkF m 0 #[.val (.int p1), .unset, .unset, .unset, .unset, .unset] [])) _
    refine XS.bipush X0.here hx rfl (hb hby at_0) ?_
    show Steps p.tables e below (s₁.setTop (mkF m 2 #[.val (.int p1), .unset, .unset, .unset, .unset, .unset] [(.int (10 : Int32))])) _
    refine st1 _ ?_
    show Steps p.tables e below (T1.setTop (mkF m 5 #[.val (.int p1), .unset, .unset, .unset, .unset, .unset] [(.ref b1)])) _
    refine XS.dup X1.here hx rfl (hb hby at_5) rfl rfl ?_
    show Steps p.tables e below (T1.setTop (mkF m 6 #[.val (.int p1), .unset, .unset, .unset, .unset, .unset] [(.ref b1), (.ref b1)])) _
    refine XS.iconst X1.here hx rfl (hb hby at_6) ?_
    show Steps p.tables e below (T1.setTop (mkF m 7 #[.val (.int p1), .unset, .unset, .unset, .unset, .unset] [(.int (0 : Int32)), (.ref b1), (.ref b1)])) _
    refine st2 _ ?_
    show Steps p.tables e below (T2.setTop (mkF m 10 #[.val (.int p1), .unset, .unset, .unset, .unset, .unset] [(.ref a_START), (.int (0 : Int32)), (.ref b1), (.ref b1)])) _
    refine st4 _ ?_
    show Steps p.tables e below (T4.setTop (mkF m 11 #[.val (.int p1), .unset, .unset, .unset, .unset, .unset] [(.ref b1)])) _
    refine XS.dup X4.here hx rfl (hb hby at_11) rfl rfl ?_
    show Steps p.tables e below (T4.setTop (mkF m 12 #[.val (.int p1), .unset, .unset, .unset, .unset, .unset] [(.ref b1), (.ref b1)])) _
    refine XS.iconst X4.here hx rfl (hb hby at_12) ?_
    show Steps p.tables e below (T4.setTop (mkF m 13 #[.val (.int p1), .unset, .unset, .unset, .unset, .unset] [(.int (1 : Int32)), (.ref b1), (.ref b1)])) _
    refine st5 _ ?_
    show Steps p.tables e below (T5.setTop (mkF m 16 #[.val (.int p1), .unset, .unset, .unset, .unset, .unset] [(.ref a_READ), (.int (1 : Int32)), (.ref b1), (.ref b1)])) _
    refine st7 _ ?_
    show Steps p.tables e below (T7.setTop (mkF m 17 #[.val (.int p1), .unset, .unset, .unset, .unset, .unset] [(.ref b1)])) _
    refine XS.dup X7.here hx rfl (hb hby at_17) rfl rfl ?_
    show Steps p.tables e below (T7.setTop (mkF m 18 #[.val (.int p1), .unset, .unset, .unset, .unset, .unset] [(.ref b1), (.ref b1)])) _
    refine XS.iconst X7.here hx rfl (hb hby at_18) ?_
    show Steps p.tables e below (T7.setTop (mkF m 19 #[.val (.int p1), .unset, .unset, .unset, .unset, .unset] [(.int (2 : Int32)), (.ref b1), (.ref b1)])) _
    refine st8 _ ?_
    show Steps p.tables e below (T8.setTop (mkF m 22 #[.val (.int p1), .unset, .unset, .unset, .unset, .unset] [(.ref a_UNREAD), (.int (2 : Int32)), (.ref b1), (.ref b1)])) _
    refine st10 _ ?_
    show Steps p.tables e below (T10.setTop (mkF m 23 #[.val (.int p1), .unset, .unset, .unset, .unset, .unset] [(.ref b1)])) _
    refine XS.dup X10.here hx rfl (hb hby at_23) rfl rfl ?_
    show Steps p.tables e below (T10.setTop (mkF m 24 #[.val (.int p1), .unset, .unset, .unset, .unset, .unset] [(.ref b1), (.ref b1)])) _
    refine XS.iconst X10.here hx rfl (hb hby at_24) ?_
    show Steps p.tables e below (T10.setTop (mkF m 25 #[.val (.int p1), .unset, .unset, .unset, .unset, .unset] [(.int (3 : Int32)), (.ref b1), (.ref b1)])) _
    refine st11 _ ?_
    show Steps p.tables e below (T11.setTop (mkF m 28 #[.val (.int p1), .unset, .unset, .unset, .unset, .unset] [(.ref a_POWER_ON), (.int (3 : Int32)), (.ref b1), (.ref b1)])) _
    refine st13 _ ?_
    show Steps p.tables e below (T13.setTop (mkF m 29 #[.val (.int p1), .unset, .unset, .unset, .unset, .unset] [(.ref b1)])) _
    refine XS.dup X13.here hx rfl (hb hby at_29) rfl rfl ?_
    show Steps p.tables e below (T13.setTop (mkF m 30 #[.val (.int p1), .unset, .unset, .unset, .unset, .unset] [(.ref b1), (.ref b1)])) _
    refine XS.iconst X13.here hx rfl (hb hby at_30) ?_
    show Steps p.tables e below (T13.setTop (mkF m 31 #[.val (.int p1), .unset, .unset, .unset, .unset, .unset] [(.int (4 : Int32)), (.ref b1), (.ref b1)])) _
    refine st14 _ ?_
    show Steps p.tables e below (T14.setTop (mkF m 34 #[.val (.int p1), .unset, .unset, .unset, .unset, .unset] [(.ref a_POWER_OFF), (.int (4 : Int32)), (.ref b1), (.ref b1)])) _
    refine st16 _ ?_
    show Steps p.tables e below (T16.setTop (mkF m 35 #[.val (.int p1), .unset, .unset, .unset, .unset, .unset] [(.ref b1)])) _
    refine XS.dup X16.here hx rfl (hb hby at_35) rfl rfl ?_
    show Steps p.tables e below (T16.setTop (mkF m 36 #[.val (.int p1), .unset, .unset, .unset, .unset, .unset] [(.ref b1), (.ref b1)])) _
    refine XS.iconst X16.here hx rfl (hb hby at_36) ?_
    show Steps p.tables e below (T16.setTop (mkF m 37 #[.val (.int p1), .unset, .unset, .unset, .unset, .unset] [(.int (5 : Int32)), (.ref b1), (.ref b1)])) _
    refine st17 _ ?_
    show Steps p.tables e below (T17.setTop (mkF m 40 #[.val (.int p1), .unset, .unset, .unset, .unset, .unset] [(.ref a_HOLD_ON), (.int (5 : Int32)), (.ref b1), (.ref b1)])) _
    refine st19 _ ?_
    show Steps p.tables e below (T19.setTop (mkF m 41 #[.val (.int p1), .unset, .unset, .unset, .unset, .unset] [(.ref b1)])) _
    refine XS.dup X19.here hx rfl (hb hby at_41) rfl rfl ?_
    show Steps p.tables e below (T19.setTop (mkF m 42 #[.val (.int p1), .unset, .unset, .unset, .unset, .unset] [(.ref b1), (.ref b1)])) _
    refine XS.bipush X19.here hx rfl (hb hby at_42) ?_
    show Steps p.tables e below (T19.setTop (mkF m 44 #[.val (.int p1), .unset, .unset, .unset, .unset, .unset] [(.int (6 : Int32)), (.ref b1), (.ref b1)])) _
    refine st20 _ ?_
    show Steps p.tables e below (T20.setTop (mkF m 47 #[.val (.int p1), .unset, .unset, .unset, .unset, .unset] [(.ref a_HOLD_OFF), (.int (6 : Int32)), (.ref b1), (.ref b1)])) _
    refine st22 _ ?_
    show Steps p.tables e below (T22.setTop (mkF m 48 #[.val (.int p1), .unset, .unset, .unset, .unset, .unset] [(.ref b1)])) _
    refine XS.dup X22.here hx rfl (hb hby at_48) rfl rfl ?_
    show Steps p.tables e below (T22.setTop (mkF m 49 #[.val (.int p1), .unset, .unset, .unset, .unset, .unset] [(.ref b1), (.ref b1)])) _
    refine XS.bipush X22.here hx rfl (hb hby at_49) ?_
    show Steps p.tables e below (T22.setTop (mkF m 51 #[.val (.int p1), .unset, .unset, .unset, .unset, .unset] [(.int (7 : Int32)), (.ref b1), (.ref b1)])) _
    refine st23 _ ?_
    show Steps p.tables e below (T23.setTop (mkF m 54 #[.val (.int p1), .unset, .unset, .unset, .unset, .unset] [(.ref a_RELEASE), (.int (7 : Int32)), (.ref b1), (.ref b1)])) _
    refine st25 _ ?_
    show Steps p.tables e below (T25.setTop (mkF m 55 #[.val (.int p1), .unset, .unset, .unset, .unset, .unset] [(.ref b1)])) _
    refine XS.dup X25.here hx rfl (hb hby at_55) rfl rfl ?_
    show Steps p.tables e below (T25.setTop (mkF m 56 #[.val (.int p1), .unset, .unset, .unset, .unset, .unset] [(.ref b1), (.ref b1)])) _
    refine XS.bipush X25.here hx rfl (hb hby at_56) ?_
    show Steps p.tables e below (T25.setTop (mkF m 58 #[.val (.int p1), .unset, .unset, .unset, .unset, .unset] [(.int (8 : Int32)), (.ref b1), (.ref b1)])) _
    refine st26 _ ?_
    show Steps p.tables e below (T26.setTop (mkF m 61 #[.val (.int p1), .unset, .unset, .unset, .unset, .unset] [(.ref a_SPAN_START), (.int (8 : Int32)), (.ref b1), (.ref b1)])) _
    refine st28 _ ?_
    show Steps p.tables e below (T28.setTop (mkF m 62 #[.val (.int p1), .unset, .unset, .unset, .unset, .unset] [(.ref b1)])) _
    refine XS.dup X28.here hx rfl (hb hby at_62) rfl rfl ?_
    show Steps p.tables e below (T28.setTop (mkF m 63 #[.val (.int p1), .unset, .unset, .unset, .unset, .unset] [(.ref b1), (.ref b1)])) _
    refine XS.bipush X28.here hx rfl (hb hby at_63) ?_
    show Steps p.tables e below (T28.setTop (mkF m 65 #[.val (.int p1), .unset, .unset, .unset, .unset, .unset] [(.int (9 : Int32)), (.ref b1), (.ref b1)])) _
    refine st29 _ ?_
    show Steps p.tables e below (T29.setTop (mkF m 68 #[.val (.int p1), .unset, .unset, .unset, .unset, .unset] [(.ref a_SPAN_END), (.int (9 : Int32)), (.ref b1), (.ref b1)])) _
    refine st31 _ ?_
    show Steps p.tables e below (T31.setTop (mkF m 69 #[.val (.int p1), .unset, .unset, .unset, .unset, .unset] [(.ref b1)])) _
    refine XS.astoreN X31.here hx rfl (hb hby at_69) rfl rfl (l' := #[.val (.int p1), .val (.ref b1), .unset, .unset, .unset, .unset]) rfl ?_
    show Steps p.tables e below (T31.setTop (mkF m 70 #[.val (.int p1), .val (.ref b1), .unset, .unset, .unset, .unset] [])) _
    refine XS.aloadN X31.here hx rfl (hb hby at_70) rfl rfl ?_
    show Steps p.tables e below (T31.setTop (mkF m 71 #[.val (.int p1), .val (.ref b1), .unset, .unset, .unset, .unset] [(.ref b1)])) _
    refine XS.iloadN X31.here hx rfl (hb hby at_71) rfl ?_
    show Steps p.tables e below (T31.setTop (mkF m 72 #[.val (.int p1), .val (.ref b1), .unset, .unset, .unset, .unset] [(.int p1), (.ref b1)])) _
    refine X31.ldcInt hx hown (mvT hZ (hw _ (List.mem_of_getElem? (i := 24) rfl))) (g := (mkF m 72 #[.val (.int p1), .val (.ref b1), .unset, .unset, .unset, .unset] [(.int p1), (.ref b1)])) rfl (hb hby at_72) _ ?_
    show Steps p.tables e below (T31.setTop (mkF m 74 #[.val (.int p1), .val (.ref b1), .unset, .unset, .unset, .unset] [(.int (2147483647 : Int32)), (.int p1), (.ref b1)])) _
    refine XS.iand X31.here hx rfl (hb hby at_74) rfl ?_
    show Steps p.tables e below (T31.setTop (mkF m 75 #[.val (.int p1), .val (.ref b1), .unset, .unset, .unset, .unset] [(.int (p1 &&& (2147483647 : Int32))), (.ref b1)])) _
    refine XS.bipush X31.here hx rfl (hb hby at_75) ?_
    show Steps p.tables e below (T31.setTop (mkF m 77 #[.val (.int p1), .val (.ref b1), .unset, .unset, .unset, .unset] [(.int (10 : Int32)), (.int (p1 &&& (2147483647 : Int32))), (.ref b1)])) _
    refine Jvm.RoadKit.iremM (g := (mkF m 77 #[.val (.int p1), .val (.ref b1), .unset, .unset, .unset, .unset] [(.int (10 : Int32)), (.int (p1 &&& (2147483647 : Int32))), (.ref b1)])) X31 hx rfl (hb hby at_77) rfl (by decide) ?_
    rw [hi]
    show Steps p.tables e below (T31.setTop (mkF m 78 #[.val (.int p1), .val (.ref b1), .unset, .unset, .unset, .unset] [(.int (3 : Int32)), (.ref b1)])) _
    refine X31.aaload hx (j := (3 : Int32)) (v := (.ref a_POWER_ON)) (by rw [e31]; exact Ar32.1) (State.isArrayOf_alike hZ.alike Ar32.2.1) rfl Ar32.2.2 hin32 hat32 (g := (mkF m 78 #[.val (.int p1), .val (.ref b1), .unset, .unset, .unset, .unset] [(.int (3 : Int32)), (.ref b1)])) rfl rfl (hb hby at_78) _ ?_
    show Steps p.tables e below (T31.setTop (mkF m 79 #[.val (.int p1), .val (.ref b1), .unset, .unset, .unset, .unset] [(.ref a_POWER_ON)])) _
    refine XS.astoreN X31.here hx rfl (hb hby at_79) rfl rfl (l' := #[.val (.int p1), .val (.ref b1), .val (.ref a_POWER_ON), .unset, .unset, .unset]) rfl ?_
    show Steps p.tables e below (T31.setTop (mkF m 80 #[.val (.int p1), .val (.ref b1), .val (.ref a_POWER_ON), .unset, .unset, .unset] [])) _
    refine XS.aloadN X31.here hx rfl (hb hby at_80) rfl rfl ?_
    show Steps p.tables e below (T31.setTop (mkF m 81 #[.val (.int p1), .val (.ref b1), .val (.ref a_POWER_ON), .unset, .unset, .unset] [(.ref a_POWER_ON)])) _
    refine st33.trans ?_
    show Steps p.tables e below (T33.setTop (mkF m 84 #[.val (.int p1), .val (.ref b1), .val (.ref a_POWER_ON), .unset, .unset, .unset] [(.int (0 : Int32))])) _
    refine XS.istoreN X33.here hx rfl (hb hby at_84) rfl (l' := #[.val (.int p1), .val (.ref b1), .val (.ref a_POWER_ON), .val (.int (0 : Int32)), .unset, .unset]) rfl ?_
    show Steps p.tables e below (T33.setTop (mkF m 85 #[.val (.int p1), .val (.ref b1), .val (.ref a_POWER_ON), .val (.int (0 : Int32)), .unset, .unset] [])) _
    refine XS.aloadN X33.here hx rfl (hb hby at_85) rfl rfl ?_
    show Steps p.tables e below (T33.setTop (mkF m 86 #[.val (.int p1), .val (.ref b1), .val (.ref a_POWER_ON), .val (.int (0 : Int32)), .unset, .unset] [(.ref a_POWER_ON)])) _
    refine st34.trans ?_
    show Steps p.tables e below (T34.setTop (mkF m 89 #[.val (.int p1), .val (.ref b1), .val (.ref a_POWER_ON), .val (.int (0 : Int32)), .unset, .unset] [.null])) _
    refine XS.astore X34.here hx rfl (hb hby at_89) rfl rfl (l' := #[.val (.int p1), .val (.ref b1), .val (.ref a_POWER_ON), .val (.int (0 : Int32)), .val .null, .unset]) rfl ?_
    show Steps p.tables e below (T34.setTop (mkF m 91 #[.val (.int p1), .val (.ref b1), .val (.ref a_POWER_ON), .val (.int (0 : Int32)), .val .null, .unset] [])) _
    refine XS.aload X34.here hx rfl (hb hby at_91) rfl rfl ?_
    show Steps p.tables e below (T34.setTop (mkF m 93 #[.val (.int p1), .val (.ref b1), .val (.ref a_POWER_ON), .val (.int (0 : Int32)), .val .null, .unset] [.null])) _
    refine st35 _ ?_
    show Steps p.tables e below (T35.setTop (mkF m 96 #[.val (.int p1), .val (.ref b1), .val (.ref a_POWER_ON), .val (.int (0 : Int32)), .val .null, .unset] [(.ref a_RELEASE)])) _
    refine XS.aloadN X35.here hx rfl (hb hby at_96) rfl rfl ?_
    show Steps p.tables e below (T35.setTop (mkF m 97 #[.val (.int p1), .val (.ref b1), .val (.ref a_POWER_ON), .val (.int (0 : Int32)), .val .null, .unset] [(.ref a_POWER_ON), (.ref a_RELEASE)])) _
    refine Jvm.RoadKit.acmp (g := (mkF m 97 #[.val (.int p1), .val (.ref b1), .val (.ref a_POWER_ON), .val (.int (0 : Int32)), .val .null, .unset] [(.ref a_POWER_ON), (.ref a_RELEASE)])) X35 hx rfl rfl rfl (pc0 := 97) (pc' := 104) (same := false) rfl (hb hby at_97) rfl (decide_eq_false fun q => (Fld.ne F_RELEASE_ordinal F_POWER_ON_ordinal (fun q => absurd (Value.int.inj q) (by decide))) (Value.ref.inj q)) (by decide) (by decide) ?_
    show Steps p.tables e below (T35.setTop (mkF m 104 #[.val (.int p1), .val (.ref b1), .val (.ref a_POWER_ON), .val (.int (0 : Int32)), .val .null, .unset] [])) _
    refine XS.iconst X35.here hx rfl (hb hby at_104) ?_
    show Steps p.tables e below (T35.setTop (mkF m 105 #[.val (.int p1), .val (.ref b1), .val (.ref a_POWER_ON), .val (.int (0 : Int32)), .val .null, .unset] [(.int (0 : Int32))])) _
    refine XS.istore X35.here hx rfl (hb hby at_105) rfl (l' := #[.val (.int p1), .val (.ref b1), .val (.ref a_POWER_ON), .val (.int (0 : Int32)), .val .null, .val (.int (0 : Int32))]) rfl ?_
    show Steps p.tables e below (T35.setTop (mkF m 107 #[.val (.int p1), .val (.ref b1), .val (.ref a_POWER_ON), .val (.int (0 : Int32)), .val .null, .val (.int (0 : Int32))] [])) _
    refine XS.iloadN X35.here hx rfl (hb hby at_107) rfl ?_
    show Steps p.tables e below (T35.setTop (mkF m 108 #[.val (.int p1), .val (.ref b1), .val (.ref a_POWER_ON), .val (.int (0 : Int32)), .val .null, .val (.int (0 : Int32))] [(.int (0 : Int32))])) _
    refine XS.iload X35.here hx rfl (hb hby at_108) rfl ?_
    show Steps p.tables e below (T35.setTop (mkF m 110 #[.val (.int p1), .val (.ref b1), .val (.ref a_POWER_ON), .val (.int (0 : Int32)), .val .null, .val (.int (0 : Int32))] [(.int (0 : Int32)), (.int (0 : Int32))])) _
    refine XS.icmpNo X35.here hx rfl (hb hby at_110) rfl (teq (by decide : (0 : Int32) = (0 : Int32))).2 ?_
    show Steps p.tables e below (T35.setTop (mkF m 113 #[.val (.int p1), .val (.ref b1), .val (.ref a_POWER_ON), .val (.int (0 : Int32)), .val .null, .val (.int (0 : Int32))] [])) _
    refine XS.iconst X35.here hx rfl (hb hby at_113) ?_
    show Steps p.tables e below (T35.setTop (mkF m 114 #[.val (.int p1), .val (.ref b1), .val (.ref a_POWER_ON), .val (.int (0 : Int32)), .val .null, .val (.int (0 : Int32))] [(.int (1 : Int32))])) _
    refine XS.goto X35.here hx rfl (pc0 := 114) (pc' := 118) rfl (hb hby at_114) (by decide) (by decide) ?_
    show Steps p.tables e below (T35.setTop (mkF m 118 #[.val (.int p1), .val (.ref b1), .val (.ref a_POWER_ON), .val (.int (0 : Int32)), .val .null, .val (.int (0 : Int32))] [(.int (1 : Int32))])) _
    exact retN X35 hx (t := .boolean) Bd.returns (by simp) (hb hby at_118) hr
  · exact ⟨rfl, N35⟩
set_option maxRecDepth 65536 in
set_option maxHeartbeats 40000000 in
theorem rm1_19 (l : Launch) (Z : State) (a0 : Array Value) (hw : ∀ d ∈ tables_1, d.before a0 Z = true) (ws : List Jvm.Cond) (a_START : Addr) (a_READ : Addr) (a_UNREAD : Addr) (a_POWER_ON : Addr) (a_POWER_OFF : Addr) (a_HOLD_ON : Addr) (a_HOLD_OFF : Addr) (a_RELEASE : Addr) (a_SPAN_START : Addr) (a_SPAN_END : Addr) (a_ON : Addr) (a_OFF : Addr) (p1 : Int32) (h0 : Heap) (n0 : Nat) (Z0 : n0 ≤ h0.size) (hS : Wd Z h0 a_START a_READ a_UNREAD a_POWER_ON a_POWER_OFF a_HOLD_ON a_HOLD_OFF a_RELEASE a_SPAN_START a_SPAN_END a_ON a_OFF) :
    MetFree l (⟨"ebbtide/serve/History$Event", "holds", "()Z"⟩ : MethodName) (head1 (Jvm.Cond.code (⟨"ebbtide/serve/History$Event", "holds", "()Z"⟩ : MethodName) prog_171_method_7_code 1 (some .boolean) :: ws) ({ frames := 0, cells := 0, slots := 0, locals := 0 } : Room)) (fun a U => a = #[(.ref a_POWER_OFF)] ∧ Z.Warmed39 U.vm ∧ U.heap = h0) (fun _ _ _ _ _ => True) (fun _ U o U' => ∃ v L, o = .returned v ∧ QP (some (.int (0 : Int32))) h0 n0 v U'.heap L ∧ FrameEnd U o U' L ({ frames := 0, cells := 0, slots := 0, locals := 0 } : Room).cells ({ frames := 0, cells := 0, slots := 0, locals := 0 } : Room).slots) := by
  refine MetFree.of_bodySF (plainFor_of_name pn_ebbtide_serve_History_Event) hisR ?_
  intro p e s m args below meth c s₁ Bd hml0 hP hK
  obtain ⟨rfl, hZ, hh⟩ := hP
  have hx := Bd.exec
  have hby := Bd.bytes
  have hml : c.maxLocals = 1 := hml0
  have hown : s.vm.findClass "ebbtide/serve/History$Event" = some m.cls := findClass_of_methodNamed Bd.named
  have X0 : Stand p l e ({ frames := 0, cells := 0, slots := 0, locals := 0 } : Room) s m #[(.ref a_POWER_OFF)] below meth c s₁ [] 0 0 := Stand.of_body Bd
  have e0 : s₁.heap = h0 := by rw [← hh, Bd.state]; rfl
  have N0 := Fr.nil n0
  have pre0 : ∀ t, Steps p.tables e below (s₁.setTop (mkF m 0 #[.val (.ref a_POWER_OFF)] [])) t → Steps p.tables e below (s₁.setTop (entryFrame m #[(.ref a_POWER_OFF)] 1)) t := fun t k => castTop (by first | (simp [entryFrame, mkF, argsToLocals, Value.category]; done) | rfl) k
  obtain ⟨S_START, E_START, S_READ, E_READ, S_UNREAD, E_UNREAD, S_POWER_ON, E_POWER_ON, S_POWER_OFF, E_POWER_OFF, S_HOLD_ON, E_HOLD_ON, S_HOLD_OFF, E_HOLD_OFF, S_RELEASE, E_RELEASE, S_SPAN_START, E_SPAN_START, S_SPAN_END, E_SPAN_END, S_ON, E_ON, S_OFF, E_OFF, F_START_ordinal, F_HOLD_ON_ordinal, F_HOLD_OFF_ordinal, F_RELEASE_ordinal, F_POWER_ON_ordinal, F_READ_ordinal, F_POWER_OFF_ordinal, F_UNREAD_ordinal, F_SPAN_START_ordinal, F_SPAN_END_ordinal, F_OFF_ordinal, F_ON_ordinal⟩ := id hS
  obtain ⟨T1, X1, e1, st1⟩ := getS2 X0 hx hZ hown (host := "") (Or.inl (hw _ (List.mem_of_getElem? (i := 30) rfl))) Via.refl e0 S_HOLD_ON (g := (mkF m 1 #[.val (.ref a_POWER_OFF)] [(.ref a_POWER_OFF)])) rfl (hb hby d1_1)
  obtain ⟨T2, X2, e2, st2⟩ := getS2 X1 hx hZ hown (host := "") (Or.inl (hw _ (List.mem_of_getElem? (i := 31) rfl))) Via.refl e1 S_HOLD_OFF (g := (mkF m 8 #[.val (.ref a_POWER_OFF)] [(.ref a_POWER_OFF)])) rfl (hb hby d1_8)
  obtain ⟨T3, X3, e3, st3⟩ := getS2 X2 hx hZ hown (host := "") (Or.inl (hw _ (List.mem_of_getElem? (i := 32) rfl))) Via.refl e2 S_RELEASE (g := (mkF m 15 #[.val (.ref a_POWER_OFF)] [(.ref a_POWER_OFF)])) rfl (hb hby d1_15)
  obtain ⟨fs, hr, hrun, hended, hW, hsame⟩ := X3.leave (v := some (.int (0 : Int32))) (fun h => by rw [Bd.returns] at h; cases h)
  refine ⟨_, _, pre0 _ ?_, hrun, hended, _, _, rfl, ?_, ⟨_, rfl⟩, hW, hsame.mono (by decide) (by decide)⟩
  · show Steps p.tables e below (s₁.setTop (mkF m 0 #[.val (.ref a_POWER_OFF)] [])) _
    refine XS.aloadN X0.here hx rfl (hb hby d1_0) rfl rfl ?_
    show Steps p.tables e below (s₁.setTop (mkF m 1 #[.val (.ref a_POWER_OFF)] [(.ref a_POWER_OFF)])) _
    refine st1 _ ?_
    show Steps p.tables e below (T1.setTop (mkF m 4 #[.val (.ref a_POWER_OFF)] [(.ref a_HOLD_ON), (.ref a_POWER_OFF)])) _
    refine Jvm.RoadKit.acmp (g := (mkF m 4 #[.val (.ref a_POWER_OFF)] [(.ref a_HOLD_ON), (.ref a_POWER_OFF)])) X1 hx rfl rfl rfl (pc0 := 4) (pc' := 7) (same := false) rfl (hb hby d1_4) rfl (decide_eq_false fun q => (Fld.ne F_POWER_OFF_ordinal F_HOLD_ON_ordinal (fun q => absurd (Value.int.inj q) (by decide))) (Value.ref.inj q)) (by decide) (by decide) ?_
    show Steps p.tables e below (T1.setTop (mkF m 7 #[.val (.ref a_POWER_OFF)] [])) _
    refine XS.aloadN X1.here hx rfl (hb hby d1_7) rfl rfl ?_
    show Steps p.tables e below (T1.setTop (mkF m 8 #[.val (.ref a_POWER_OFF)] [(.ref a_POWER_OFF)])) _
    refine st2 _ ?_
    show Steps p.tables e below (T2.setTop (mkF m 11 #[.val (.ref a_POWER_OFF)] [(.ref a_HOLD_OFF), (.ref a_POWER_OFF)])) _
    refine Jvm.RoadKit.acmp (g := (mkF m 11 #[.val (.ref a_POWER_OFF)] [(.ref a_HOLD_OFF), (.ref a_POWER_OFF)])) X2 hx rfl rfl rfl (pc0 := 11) (pc' := 14) (same := false) rfl (hb hby d1_11) rfl (decide_eq_false fun q => (Fld.ne F_POWER_OFF_ordinal F_HOLD_OFF_ordinal (fun q => absurd (Value.int.inj q) (by decide))) (Value.ref.inj q)) (by decide) (by decide) ?_
    show Steps p.tables e below (T2.setTop (mkF m 14 #[.val (.ref a_POWER_OFF)] [])) _
    refine XS.aloadN X2.here hx rfl (hb hby d1_14) rfl rfl ?_
    show Steps p.tables e below (T2.setTop (mkF m 15 #[.val (.ref a_POWER_OFF)] [(.ref a_POWER_OFF)])) _
    refine st3 _ ?_
    show Steps p.tables e below (T3.setTop (mkF m 18 #[.val (.ref a_POWER_OFF)] [(.ref a_RELEASE), (.ref a_POWER_OFF)])) _
    refine Jvm.RoadKit.acmp (g := (mkF m 18 #[.val (.ref a_POWER_OFF)] [(.ref a_RELEASE), (.ref a_POWER_OFF)])) X3 hx rfl rfl rfl (pc0 := 18) (pc' := 25) (same := false) rfl (hb hby d1_18) rfl (decide_eq_false fun q => (Fld.ne F_POWER_OFF_ordinal F_RELEASE_ordinal (fun q => absurd (Value.int.inj q) (by decide))) (Value.ref.inj q)) (by decide) (by decide) ?_
    show Steps p.tables e below (T3.setTop (mkF m 25 #[.val (.ref a_POWER_OFF)] [])) _
    refine XS.iconst X3.here hx rfl (hb hby d1_25) ?_
    show Steps p.tables e below (T3.setTop (mkF m 26 #[.val (.ref a_POWER_OFF)] [(.int (0 : Int32))])) _
    exact retN X3 hx (t := .boolean) Bd.returns (by simp) (hb hby d1_26) hr
  · exact ⟨rfl, N0, e3⟩
set_option maxRecDepth 65536 in
set_option maxHeartbeats 40000000 in
theorem rm3_21 (l : Launch) (Z : State) (a0 : Array Value) (hw : ∀ d ∈ tables_1, d.before a0 Z = true) (ws : List Jvm.Cond) (a_START : Addr) (a_READ : Addr) (a_UNREAD : Addr) (a_POWER_ON : Addr) (a_POWER_OFF : Addr) (a_HOLD_ON : Addr) (a_HOLD_OFF : Addr) (a_RELEASE : Addr) (a_SPAN_START : Addr) (a_SPAN_END : Addr) (a_ON : Addr) (a_OFF : Addr) (p1 : Int32) (h0 : Heap) (n0 : Nat) (Z0 : n0 ≤ h0.size) (hS : Wd Z h0 a_START a_READ a_UNREAD a_POWER_ON a_POWER_OFF a_HOLD_ON a_HOLD_OFF a_RELEASE a_SPAN_START a_SPAN_END a_ON a_OFF) :
    MetFree l (⟨"java/lang/Enum", "ordinal", "()I"⟩ : MethodName) (head1 (Jvm.Cond.code (⟨"java/lang/Enum", "ordinal", "()I"⟩ : MethodName) jdk_37_method_2_code 1 (some .int) :: ws) ({ frames := 0, cells := 0, slots := 0, locals := 0 } : Room)) (fun a U => a = #[(.ref a_POWER_OFF)] ∧ Z.Warmed39 U.vm ∧ U.heap = h0) (fun _ _ _ _ _ => True) (fun _ U o U' => ∃ v L, o = .returned v ∧ QP (some (.int (4 : Int32))) h0 n0 v U'.heap L ∧ FrameEnd U o U' L ({ frames := 0, cells := 0, slots := 0, locals := 0 } : Room).cells ({ frames := 0, cells := 0, slots := 0, locals := 0 } : Room).slots) := by
  refine MetFree.of_bodySF (plainFor_of_name pn_java_lang_Enum) hisR ?_
  intro p e s m args below meth c s₁ Bd hml0 hP hK
  obtain ⟨rfl, hZ, hh⟩ := hP
  have hx := Bd.exec
  have hby := Bd.bytes
  have hml : c.maxLocals = 1 := hml0
  have hown : s.vm.findClass "java/lang/Enum" = some m.cls := findClass_of_methodNamed Bd.named
  have X0 : Stand p l e ({ frames := 0, cells := 0, slots := 0, locals := 0 } : Room) s m #[(.ref a_POWER_OFF)] below meth c s₁ [] 0 0 := Stand.of_body Bd
  have e0 : s₁.heap = h0 := by rw [← hh, Bd.state]; rfl
  have N0 := Fr.nil n0
  have pre0 : ∀ t, Steps p.tables e below (s₁.setTop (mkF m 0 #[.val (.ref a_POWER_OFF)] [])) t → Steps p.tables e below (s₁.setTop (entryFrame m #[(.ref a_POWER_OFF)] 1)) t := fun t k => castTop (by first | (simp [entryFrame, mkF, argsToLocals, Value.category]; done) | rfl) k
  obtain ⟨S_START, E_START, S_READ, E_READ, S_UNREAD, E_UNREAD, S_POWER_ON, E_POWER_ON, S_POWER_OFF, E_POWER_OFF, S_HOLD_ON, E_HOLD_ON, S_HOLD_OFF, E_HOLD_OFF, S_RELEASE, E_RELEASE, S_SPAN_START, E_SPAN_START, S_SPAN_END, E_SPAN_END, S_ON, E_ON, S_OFF, E_OFF, F_START_ordinal, F_HOLD_ON_ordinal, F_HOLD_OFF_ordinal, F_RELEASE_ordinal, F_POWER_ON_ordinal, F_READ_ordinal, F_POWER_OFF_ordinal, F_UNREAD_ordinal, F_SPAN_START_ordinal, F_SPAN_END_ordinal, F_OFF_ordinal, F_ON_ordinal⟩ := id hS
  obtain ⟨T1, X1, e1, st1⟩ := getF X0 hx hZ hown (host := "") (Or.inl (hw _ (List.mem_of_getElem? (i := 45) rfl))) Via.refl e0 F_POWER_OFF_ordinal (g := (mkF m 1 #[.val (.ref a_POWER_OFF)] [(.ref a_POWER_OFF)])) rfl rfl (hb hby d3_1)
  obtain ⟨fs, hr, hrun, hended, hW, hsame⟩ := X1.leave (v := some (.int (4 : Int32))) (fun h => by rw [Bd.returns] at h; cases h)
  refine ⟨_, _, pre0 _ ?_, hrun, hended, _, _, rfl, ?_, ⟨_, rfl⟩, hW, hsame.mono (by decide) (by decide)⟩
  · show Steps p.tables e below (s₁.setTop (mkF m 0 #[.val (.ref a_POWER_OFF)] [])) _
    refine XS.aloadN X0.here hx rfl (hb hby d3_0) rfl rfl ?_
    show Steps p.tables e below (s₁.setTop (mkF m 1 #[.val (.ref a_POWER_OFF)] [(.ref a_POWER_OFF)])) _
    refine st1 _ ?_
    show Steps p.tables e below (T1.setTop (mkF m 4 #[.val (.ref a_POWER_OFF)] [(.int (4 : Int32))])) _
    exact own_retI X1 hx Bd.returns (hb hby d3_4) hr
  · exact ⟨rfl, N0, e1⟩
set_option maxRecDepth 65536 in
set_option maxHeartbeats 40000000 in
theorem rm2_20 (l : Launch) (Z : State) (a0 : Array Value) (hw : ∀ d ∈ tables_1, d.before a0 Z = true) (ws : List Jvm.Cond) (a_START : Addr) (a_READ : Addr) (a_UNREAD : Addr) (a_POWER_ON : Addr) (a_POWER_OFF : Addr) (a_HOLD_ON : Addr) (a_HOLD_OFF : Addr) (a_RELEASE : Addr) (a_SPAN_START : Addr) (a_SPAN_END : Addr) (a_ON : Addr) (a_OFF : Addr) (p1 : Int32) (h0 : Heap) (n0 : Nat) (Z0 : n0 ≤ h0.size) (hS : Wd Z h0 a_START a_READ a_UNREAD a_POWER_ON a_POWER_OFF a_HOLD_ON a_HOLD_OFF a_RELEASE a_SPAN_START a_SPAN_END a_ON a_OFF) :
    MetFree l (⟨"ebbtide/serve/History$Event", "hold", "()Lebbtide/serve/Hold;"⟩ : MethodName) (head1 (Jvm.Cond.code (⟨"ebbtide/serve/History$Event", "hold", "()Lebbtide/serve/Hold;"⟩ : MethodName) prog_171_method_6_code 1 (some (.object "ebbtide/serve/Hold")) :: ws) ({ frames := 1, cells := 0, slots := 0, locals := 12 } : Room)) (fun a U => a = #[(.ref a_POWER_OFF)] ∧ Z.Warmed39 U.vm ∧ U.heap = h0) (fun _ _ _ _ _ => True) (fun _ U o U' => ∃ v L, o = .returned v ∧ QP (some .null) h0 n0 v U'.heap L ∧ FrameEnd U o U' L ({ frames := 1, cells := 0, slots := 0, locals := 12 } : Room).cells ({ frames := 1, cells := 0, slots := 0, locals := 12 } : Room).slots) := by
  refine MetFree.of_bodySF (plainFor_of_name pn_ebbtide_serve_History_Event) hisR ?_
  intro p e s m args below meth c s₁ Bd hml0 hP hK
  obtain ⟨rfl, hZ, hh⟩ := hP
  have hx := Bd.exec
  have hby := Bd.bytes
  have hml : c.maxLocals = 1 := hml0
  have hown : s.vm.findClass "ebbtide/serve/History$Event" = some m.cls := findClass_of_methodNamed Bd.named
  have X0 : Stand p l e ({ frames := 1, cells := 0, slots := 0, locals := 12 } : Room) s m #[(.ref a_POWER_OFF)] below meth c s₁ [] 0 0 := Stand.of_body Bd
  have e0 : s₁.heap = h0 := by rw [← hh, Bd.state]; rfl
  have N0 := Fr.nil n0
  have pre0 : ∀ t, Steps p.tables e below (s₁.setTop (mkF m 0 #[.val (.ref a_POWER_OFF)] [])) t → Steps p.tables e below (s₁.setTop (entryFrame m #[(.ref a_POWER_OFF)] 1)) t := fun t k => castTop (by first | (simp [entryFrame, mkF, argsToLocals, Value.category]; done) | rfl) k
  obtain ⟨S_START, E_START, S_READ, E_READ, S_UNREAD, E_UNREAD, S_POWER_ON, E_POWER_ON, S_POWER_OFF, E_POWER_OFF, S_HOLD_ON, E_HOLD_ON, S_HOLD_OFF, E_HOLD_OFF, S_RELEASE, E_RELEASE, S_SPAN_START, E_SPAN_START, S_SPAN_END, E_SPAN_END, S_ON, E_ON, S_OFF, E_OFF, F_START_ordinal, F_HOLD_ON_ordinal, F_HOLD_OFF_ordinal, F_RELEASE_ordinal, F_POWER_ON_ordinal, F_READ_ordinal, F_POWER_OFF_ordinal, F_UNREAD_ordinal, F_SPAN_START_ordinal, F_SPAN_END_ordinal, F_OFF_ordinal, F_ON_ordinal⟩ := id hS
  obtain ⟨cq1, kq1, q1a, q1b, q1c⟩ := isOf hZ e0 E_POWER_OFF
  obtain ⟨_, _, ⟨T1, L1, k1, n1⟩, -, X1, ⟨Lc1, hQ1, l1, y1, z1⟩, st1⟩ := X0.virtualBackUp hx (owner := "java/lang/Enum") (x := (⟨"ebbtide/serve/History$Event", "ordinal", "()I"⟩ : MethodName)) (y := (⟨"java/lang/Enum", "ordinal", "()I"⟩ : MethodName)) hown (mvT hZ (hw _ (List.mem_of_getElem? (i := 38) rfl))) (mvT hZ (hw _ (List.mem_of_getElem? (i := 39) rfl))) (mvT hZ (hw _ (List.mem_of_getElem? (i := 40) rfl))) (by decide) (mvT hZ (hw _ (List.mem_of_getElem? (i := 42) rfl))) (mvT hZ (hw _ (List.mem_of_getElem? (i := 41) rfl))) (backOf (W := 0) (rm3_21 l Z a0 hw [] a_START a_READ a_UNREAD a_POWER_ON a_POWER_OFF a_HOLD_ON a_HOLD_OFF a_RELEASE a_SPAN_START a_SPAN_END a_ON a_OFF p1 h0 n0 Z0 hS) hZ (hw _ (List.mem_of_getElem? (i := 44) rfl)) (hw _ (List.mem_of_getElem? (i := 43) rfl)) (by decide) (by decide)) q1a q1c (g := (mkF m 1 #[.val (.ref a_POWER_OFF)] [(.ref a_POWER_OFF)])) rfl (by rw [hml]; rfl) (Steps.refl _) (argsL := []) (rest := []) (lenOf pd_1 rfl) rfl (by show 2 * 0 + _ ≤ _; exact Nat.le_of_eq rfl) (hb hby d2_1) (fun _ _ => ⟨rfl, e0, (by decide : 0 + 0 ≤ _), (by decide : 0 + 0 ≤ _)⟩)
  dsimp only [Pt.U, Pt.locs, Pt.cells, Pt.slots] at X1 l1 y1 z1 st1 hQ1
  subst l1 y1 z1
  obtain ⟨rfl, N1q, e1⟩ := hQ1
  have N1 := Fr.app N0 N1q
  obtain ⟨fs, hr, hrun, hended, hW, hsame⟩ := X1.leave (v := some .null) (fun h => by rw [Bd.returns] at h; cases h)
  refine ⟨_, _, pre0 _ ?_, hrun, hended, _, _, rfl, ?_, ⟨_, rfl⟩, hW, hsame.mono (by decide) (by decide)⟩
  · show Steps p.tables e below (s₁.setTop (mkF m 0 #[.val (.ref a_POWER_OFF)] [])) _
    refine XS.aloadN X0.here hx rfl (hb hby d2_0) rfl rfl ?_
    show Steps p.tables e below (s₁.setTop (mkF m 1 #[.val (.ref a_POWER_OFF)] [(.ref a_POWER_OFF)])) _
    refine st1.trans ?_
    show Steps p.tables e below (T1.setTop (mkF m 4 #[.val (.ref a_POWER_OFF)] [(.int (4 : Int32))])) _
    refine X1.lookupswitchMiss hx (g := (mkF m 4 #[.val (.ref a_POWER_OFF)] [(.int (4 : Int32))])) rfl rfl (hb hby d2_4) (by decide) (by first | decide | rfl | (simp; done)) (by show (0 : Int) ≤ ((4 : Nat) : Int) + 40; decide) _ ?_
    show Steps p.tables e below (T1.setTop (mkF m 44 #[.val (.ref a_POWER_OFF)] [])) _
    refine XS.aconstNull X1.here hx rfl (hb hby d2_44) ?_
    show Steps p.tables e below (T1.setTop (mkF m 45 #[.val (.ref a_POWER_OFF)] [.null])) _
    exact own_retA X1 hx Bd.returns rfl rfl (hb hby d2_45) hr
  · exact ⟨rfl, N1, e1⟩
set_option maxRecDepth 65536 in
set_option maxHeartbeats 40000000 in
theorem rm0_18 (l : Launch) (Z : State) (a0 : Array Value) (hw : ∀ d ∈ tables_1, d.before a0 Z = true) (ws : List Jvm.Cond) (a_START : Addr) (a_READ : Addr) (a_UNREAD : Addr) (a_POWER_ON : Addr) (a_POWER_OFF : Addr) (a_HOLD_ON : Addr) (a_HOLD_OFF : Addr) (a_RELEASE : Addr) (a_SPAN_START : Addr) (a_SPAN_END : Addr) (a_ON : Addr) (a_OFF : Addr) (p1 : Int32) (h0 : Heap) (n0 : Nat) (Z0 : n0 ≤ h0.size) (hS : Wd Z h0 a_START a_READ a_UNREAD a_POWER_ON a_POWER_OFF a_HOLD_ON a_HOLD_OFF a_RELEASE a_SPAN_START a_SPAN_END a_ON a_OFF) (hi : ((p1 &&& (2147483647 : Int32)) % (10 : Int32)) = (4 : Int32)) :
    MetFree l x (head1 (Jvm.Cond.code x code maxLocals ret :: ws) room_1) (fun a U => a = #[(.int p1)] ∧ Z.Warmed39 U.vm ∧ U.heap = h0) (fun _ _ _ _ _ => True) (fun _ U o U' => ∃ v L, o = .returned v ∧ Q0 n0 v L ∧ FrameEnd U o U' L room_1.cells room_1.slots) := by
  refine MetFree.of_bodySF (plainFor_of_name pn_ebbtide_serve_HistoryHoldsPinLaw) hisR ?_
  intro p e s m args below meth c s₁ Bd hml0 hP hK
  obtain ⟨rfl, hZ, hh⟩ := hP
  have hx := Bd.exec
  have hby := Bd.bytes
  have hml : c.maxLocals = 6 := hml0
  have hown : s.vm.findClass "ebbtide/serve/HistoryHoldsPinLaw" = some m.cls := findClass_of_methodNamed Bd.named
  have X0 : Stand p l e room_1 s m #[(.int p1)] below meth c s₁ [] 0 0 := Stand.of_body Bd
  have e0 : s₁.heap = h0 := by rw [← hh, Bd.state]; rfl
  have N0 := Fr.nil n0
  have pre0 : ∀ t, Steps p.tables e below (s₁.setTop (mkF m 0 #[.val (.int p1), .unset, .unset, .unset, .unset, .unset] [])) t → Steps p.tables e below (s₁.setTop (entryFrame m #[(.int p1)] maxLocals)) t := fun t k => castTop (by first | (simp [entryFrame, mkF, argsToLocals, Value.category, maxLocals]; done) | rfl) k
  obtain ⟨S_START, E_START, S_READ, E_READ, S_UNREAD, E_UNREAD, S_POWER_ON, E_POWER_ON, S_POWER_OFF, E_POWER_OFF, S_HOLD_ON, E_HOLD_ON, S_HOLD_OFF, E_HOLD_OFF, S_RELEASE, E_RELEASE, S_SPAN_START, E_SPAN_START, S_SPAN_END, E_SPAN_END, S_ON, E_ON, S_OFF, E_OFF, F_START_ordinal, F_HOLD_ON_ordinal, F_HOLD_OFF_ordinal, F_RELEASE_ordinal, F_POWER_ON_ordinal, F_READ_ordinal, F_POWER_OFF_ordinal, F_UNREAD_ordinal, F_SPAN_START_ordinal, F_SPAN_END_ordinal, F_OFF_ordinal, F_ON_ordinal⟩ := id hS
  obtain ⟨T1, h1, k1, X1, e1, E1, A1, O1, st1⟩ := newR X0 hx hZ hown (hw _ (List.mem_of_getElem? (i := 0) rfl)) (hw _ (List.mem_of_getElem? (i := 1) rfl)) e0 (g := (mkF m 2 #[.val (.int p1), .unset, .unset, .unset, .unset, .unset] [(.int (10 : Int32))])) rfl (hb hby at_2) rfl (by decide) (cap := 10) (by decide) (by decide) (by decide) (by decide)
  obtain ⟨b1, g1⟩ : ∃ z, z = h0.size := ⟨_, rfl⟩
  rw [← g1] at A1 st1
  have V1 : Arv Z h1 b1 k1 (.object "ebbtide/serve/History$Event") (10 : Int32) [.null, .null, .null, .null, .null, .null, .null, .null, .null, .null] .null := (Arv.new A1 (by decide)).pad (pad_rep [] .null 10)
  have K1 : Keep h0 h1 [] := (Keep.refl h0 []).ext E1
  have sz_b1 : h0.size ≤ b1 := Nat.le_trans (Keep.refl h0 []).1 (Nat.le_of_eq g1.symm)
  have gz_b1 : n0 ≤ b1 := Nat.le_trans Z0 sz_b1
  obtain ⟨T2, X2, e2, st2⟩ := getS2 X1 hx hZ hown (host := "") (Or.inl (hw _ (List.mem_of_getElem? (i := 2) rfl))) Via.refl e1 (own_sk S_START K1) (g := (mkF m 7 #[.val (.int p1), .unset, .unset, .unset, .unset, .unset] [(.int (0 : Int32)), (.ref b1), (.ref b1)])) rfl (hb hby at_7)
  obtain ⟨cl3, Ar3, qq3, Sz3, Ng3, Hs3, Gf3⟩ := V1
  have hin3 : ¬ ((0 : Int32) < 0 ∨ cl3.slots.size ≤ ((0 : Int32)).toNatClampNeg) := inb_of Sz3 ⟨by decide, by decide⟩
  obtain ⟨T4, h4, X4, e4, W4, st4⟩ := stR X2 hx hZ e2 Ar3 (j := (0 : Int32)) hin3 rfl (Sto.ofV Ar3 qq3 O1 (Ins.self (E_START.keep K1))) (g := (mkF m 10 #[.val (.int p1), .unset, .unset, .unset, .unset, .unset] [(.ref a_START), (.int (0 : Int32)), (.ref b1), (.ref b1)])) rfl rfl (hb hby at_10)
  have V4 : Arv Z h4 b1 k1 (.object "ebbtide/serve/History$Event") (10 : Int32) [(.ref a_START), .null, .null, .null, .null, .null, .null, .null, .null, .null] .null := Arv.set Ar3 qq3 Sz3 Ng3 Hs3 Gf3 rfl W4 0 rfl (Nat.le_of_ble_eq_true rfl)
  have K4 : Keep h0 h4 [] := K1.wr W4 (Or.inr sz_b1)
  have N4 := Fr.snoc X4 N0 gz_b1
  obtain ⟨T5, X5, e5, st5⟩ := getS2 X4 hx hZ hown (host := "") (Or.inl (hw _ (List.mem_of_getElem? (i := 6) rfl))) Via.refl e4 (own_sk S_READ K4) (g := (mkF m 13 #[.val (.int p1), .unset, .unset, .unset, .unset, .unset] [(.int (1 : Int32)), (.ref b1), (.ref b1)])) rfl (hb hby at_13)
  obtain ⟨cl6, Ar6, qq6, Sz6, Ng6, Hs6, Gf6⟩ := V4
  have hin6 : ¬ ((1 : Int32) < 0 ∨ cl6.slots.size ≤ ((1 : Int32)).toNatClampNeg) := inb_of Sz6 ⟨by decide, by decide⟩
  obtain ⟨T7, h7, X7, e7, W7, st7⟩ := stR X5 hx hZ e5 Ar6 (j := (1 : Int32)) hin6 rfl (Sto.ofV Ar6 qq6 O1 (Ins.self (E_READ.keep K4))) (g := (mkF m 16 #[.val (.int p1), .unset, .unset, .unset, .unset, .unset] [(.ref a_READ), (.int (1 : Int32)), (.ref b1), (.ref b1)])) rfl rfl (hb hby at_16)
  have V7 : Arv Z h7 b1 k1 (.object "ebbtide/serve/History$Event") (10 : Int32) [(.ref a_START), (.ref a_READ), .null, .null, .null, .null, .null, .null, .null, .null] .null := Arv.set Ar6 qq6 Sz6 Ng6 Hs6 Gf6 rfl W7 1 rfl (Nat.le_of_ble_eq_true rfl)
  have K7 : Keep h0 h7 [] := K4.wr W7 (Or.inr sz_b1)
  have N7 := Fr.snoc X7 N4 gz_b1
  obtain ⟨T8, X8, e8, st8⟩ := getS2 X7 hx hZ hown (host := "") (Or.inl (hw _ (List.mem_of_getElem? (i := 8) rfl))) Via.refl e7 (own_sk S_UNREAD K7) (g := (mkF m 19 #[.val (.int p1), .unset, .unset, .unset, .unset, .unset] [(.int (2 : Int32)), (.ref b1), (.ref b1)])) rfl (hb hby at_19)
  obtain ⟨cl9, Ar9, qq9, Sz9, Ng9, Hs9, Gf9⟩ := V7
  have hin9 : ¬ ((2 : Int32) < 0 ∨ cl9.slots.size ≤ ((2 : Int32)).toNatClampNeg) := inb_of Sz9 ⟨by decide, by decide⟩
  obtain ⟨T10, h10, X10, e10, W10, st10⟩ := stR X8 hx hZ e8 Ar9 (j := (2 : Int32)) hin9 rfl (Sto.ofV Ar9 qq9 O1 (Ins.self (E_UNREAD.keep K7))) (g := (mkF m 22 #[.val (.int p1), .unset, .unset, .unset, .unset, .unset] [(.ref a_UNREAD), (.int (2 : Int32)), (.ref b1), (.ref b1)])) rfl rfl (hb hby at_22)
  have V10 : Arv Z h10 b1 k1 (.object "ebbtide/serve/History$Event") (10 : Int32) [(.ref a_START), (.ref a_READ), (.ref a_UNREAD), .null, .null, .null, .null, .null, .null, .null] .null := Arv.set Ar9 qq9 Sz9 Ng9 Hs9 Gf9 rfl W10 2 rfl (Nat.le_of_ble_eq_true rfl)
  have K10 : Keep h0 h10 [] := K7.wr W10 (Or.inr sz_b1)
  have N10 := Fr.snoc X10 N7 gz_b1
  obtain ⟨T11, X11, e11, st11⟩ := getS2 X10 hx hZ hown (host := "") (Or.inl (hw _ (List.mem_of_getElem? (i := 10) rfl))) Via.refl e10 (own_sk S_POWER_ON K10) (g := (mkF m 25 #[.val (.int p1), .unset, .unset, .unset, .unset, .unset] [(.int (3 : Int32)), (.ref b1), (.ref b1)])) rfl (hb hby at_25)
  obtain ⟨cl12, Ar12, qq12, Sz12, Ng12, Hs12, Gf12⟩ := V10
  have hin12 : ¬ ((3 : Int32) < 0 ∨ cl12.slots.size ≤ ((3 : Int32)).toNatClampNeg) := inb_of Sz12 ⟨by decide, by decide⟩
  obtain ⟨T13, h13, X13, e13, W13, st13⟩ := stR X11 hx hZ e11 Ar12 (j := (3 : Int32)) hin12 rfl (Sto.ofV Ar12 qq12 O1 (Ins.self (E_POWER_ON.keep K10))) (g := (mkF m 28 #[.val (.int p1), .unset, .unset, .unset, .unset, .unset] [(.ref a_POWER_ON), (.int (3 : Int32)), (.ref b1), (.ref b1)])) rfl rfl (hb hby at_28)
  have V13 : Arv Z h13 b1 k1 (.object "ebbtide/serve/History$Event") (10 : Int32) [(.ref a_START), (.ref a_READ), (.ref a_UNREAD), (.ref a_POWER_ON), .null, .null, .null, .null, .null, .null] .null := Arv.set Ar12 qq12 Sz12 Ng12 Hs12 Gf12 rfl W13 3 rfl (Nat.le_of_ble_eq_true rfl)
  have K13 : Keep h0 h13 [] := K10.wr W13 (Or.inr sz_b1)
  have N13 := Fr.snoc X13 N10 gz_b1
  obtain ⟨T14, X14, e14, st14⟩ := getS2 X13 hx hZ hown (host := "") (Or.inl (hw _ (List.mem_of_getElem? (i := 12) rfl))) Via.refl e13 (own_sk S_POWER_OFF K13) (g := (mkF m 31 #[.val (.int p1), .unset, .unset, .unset, .unset, .unset] [(.int (4 : Int32)), (.ref b1), (.ref b1)])) rfl (hb hby at_31)
  obtain ⟨cl15, Ar15, qq15, Sz15, Ng15, Hs15, Gf15⟩ := V13
  have hin15 : ¬ ((4 : Int32) < 0 ∨ cl15.slots.size ≤ ((4 : Int32)).toNatClampNeg) := inb_of Sz15 ⟨by decide, by decide⟩
  obtain ⟨T16, h16, X16, e16, W16, st16⟩ := stR X14 hx hZ e14 Ar15 (j := (4 : Int32)) hin15 rfl (Sto.ofV Ar15 qq15 O1 (Ins.self (E_POWER_OFF.keep K13))) (g := (mkF m 34 #[.val (.int p1), .unset, .unset, .unset, .unset, .unset] [(.ref a_POWER_OFF), (.int (4 : Int32)), (.ref b1), (.ref b1)])) rfl rfl (hb hby at_34)
  have V16 : Arv Z h16 b1 k1 (.object "ebbtide/serve/History$Event") (10 : Int32) [(.ref a_START), (.ref a_READ), (.ref a_UNREAD), (.ref a_POWER_ON), (.ref a_POWER_OFF), .null, .null, .null, .null, .null] .null := Arv.set Ar15 qq15 Sz15 Ng15 Hs15 Gf15 rfl W16 4 rfl (Nat.le_of_ble_eq_true rfl)
  have K16 : Keep h0 h16 [] := K13.wr W16 (Or.inr sz_b1)
  have N16 := Fr.snoc X16 N13 gz_b1
  obtain ⟨T17, X17, e17, st17⟩ := getS2 X16 hx hZ hown (host := "") (Or.inl (hw _ (List.mem_of_getElem? (i := 14) rfl))) Via.refl e16 (own_sk S_HOLD_ON K16) (g := (mkF m 37 #[.val (.int p1), .unset, .unset, .unset, .unset, .unset] [(.int (5 : Int32)), (.ref b1), (.ref b1)])) rfl (hb hby at_37)
  obtain ⟨cl18, Ar18, qq18, Sz18, Ng18, Hs18, Gf18⟩ := V16
  have hin18 : ¬ ((5 : Int32) < 0 ∨ cl18.slots.size ≤ ((5 : Int32)).toNatClampNeg) := inb_of Sz18 ⟨by decide, by decide⟩
  obtain ⟨T19, h19, X19, e19, W19, st19⟩ := stR X17 hx hZ e17 Ar18 (j := (5 : Int32)) hin18 rfl (Sto.ofV Ar18 qq18 O1 (Ins.self (E_HOLD_ON.keep K16))) (g := (mkF m 40 #[.val (.int p1), .unset, .unset, .unset, .unset, .unset] [(.ref a_HOLD_ON), (.int (5 : Int32)), (.ref b1), (.ref b1)])) rfl rfl (hb hby at_40)
  have V19 : Arv Z h19 b1 k1 (.object "ebbtide/serve/History$Event") (10 : Int32) [(.ref a_START), (.ref a_READ), (.ref a_UNREAD), (.ref a_POWER_ON), (.ref a_POWER_OFF), (.ref a_HOLD_ON), .null, .null, .null, .null] .null := Arv.set Ar18 qq18 Sz18 Ng18 Hs18 Gf18 rfl W19 5 rfl (Nat.le_of_ble_eq_true rfl)
  have K19 : Keep h0 h19 [] := K16.wr W19 (Or.inr sz_b1)
  have N19 := Fr.snoc X19 N16 gz_b1
  obtain ⟨T20, X20, e20, st20⟩ := getS2 X19 hx hZ hown (host := "") (Or.inl (hw _ (List.mem_of_getElem? (i := 16) rfl))) Via.refl e19 (own_sk S_HOLD_OFF K19) (g := (mkF m 44 #[.val (.int p1), .unset, .unset, .unset, .unset, .unset] [(.int (6 : Int32)), (.ref b1), (.ref b1)])) rfl (hb hby at_44)
  obtain ⟨cl21, Ar21, qq21, Sz21, Ng21, Hs21, Gf21⟩ := V19
  have hin21 : ¬ ((6 : Int32) < 0 ∨ cl21.slots.size ≤ ((6 : Int32)).toNatClampNeg) := inb_of Sz21 ⟨by decide, by decide⟩
  obtain ⟨T22, h22, X22, e22, W22, st22⟩ := stR X20 hx hZ e20 Ar21 (j := (6 : Int32)) hin21 rfl (Sto.ofV Ar21 qq21 O1 (Ins.self (E_HOLD_OFF.keep K19))) (g := (mkF m 47 #[.val (.int p1), .unset, .unset, .unset, .unset, .unset] [(.ref a_HOLD_OFF), (.int (6 : Int32)), (.ref b1), (.ref b1)])) rfl rfl (hb hby at_47)
  have V22 : Arv Z h22 b1 k1 (.object "ebbtide/serve/History$Event") (10 : Int32) [(.ref a_START), (.ref a_READ), (.ref a_UNREAD), (.ref a_POWER_ON), (.ref a_POWER_OFF), (.ref a_HOLD_ON), (.ref a_HOLD_OFF), .null, .null, .null] .null := Arv.set Ar21 qq21 Sz21 Ng21 Hs21 Gf21 rfl W22 6 rfl (Nat.le_of_ble_eq_true rfl)
  have K22 : Keep h0 h22 [] := K19.wr W22 (Or.inr sz_b1)
  have N22 := Fr.snoc X22 N19 gz_b1
  obtain ⟨T23, X23, e23, st23⟩ := getS2 X22 hx hZ hown (host := "") (Or.inl (hw _ (List.mem_of_getElem? (i := 18) rfl))) Via.refl e22 (own_sk S_RELEASE K22) (g := (mkF m 51 #[.val (.int p1), .unset, .unset, .unset, .unset, .unset] [(.int (7 : Int32)), (.ref b1), (.ref b1)])) rfl (hb hby at_51)
  obtain ⟨cl24, Ar24, qq24, Sz24, Ng24, Hs24, Gf24⟩ := V22
  have hin24 : ¬ ((7 : Int32) < 0 ∨ cl24.slots.size ≤ ((7 : Int32)).toNatClampNeg) := inb_of Sz24 ⟨by decide, by decide⟩
  obtain ⟨T25, h25, X25, e25, W25, st25⟩ := stR X23 hx hZ e23 Ar24 (j := (7 : Int32)) hin24 rfl (Sto.ofV Ar24 qq24 O1 (Ins.self (E_RELEASE.keep K22))) (g := (mkF m 54 #[.val (.int p1), .unset, .unset, .unset, .unset, .unset] [(.ref a_RELEASE), (.int (7 : Int32)), (.ref b1), (.ref b1)])) rfl rfl (hb hby at_54)
  have V25 : Arv Z h25 b1 k1 (.object "ebbtide/serve/History$Event") (10 : Int32) [(.ref a_START), (.ref a_READ), (.ref a_UNREAD), (.ref a_POWER_ON), (.ref a_POWER_OFF), (.ref a_HOLD_ON), (.ref a_HOLD_OFF), (.ref a_RELEASE), .null, .null] .null := Arv.set Ar24 qq24 Sz24 Ng24 Hs24 Gf24 rfl W25 7 rfl (Nat.le_of_ble_eq_true rfl)
  have K25 : Keep h0 h25 [] := K22.wr W25 (Or.inr sz_b1)
  have N25 := Fr.snoc X25 N22 gz_b1
  obtain ⟨T26, X26, e26, st26⟩ := getS2 X25 hx hZ hown (host := "") (Or.inl (hw _ (List.mem_of_getElem? (i := 20) rfl))) Via.refl e25 (own_sk S_SPAN_START K25) (g := (mkF m 58 #[.val (.int p1), .unset, .unset, .unset, .unset, .unset] [(.int (8 : Int32)), (.ref b1), (.ref b1)])) rfl (hb hby at_58)
  obtain ⟨cl27, Ar27, qq27, Sz27, Ng27, Hs27, Gf27⟩ := V25
  have hin27 : ¬ ((8 : Int32) < 0 ∨ cl27.slots.size ≤ ((8 : Int32)).toNatClampNeg) := inb_of Sz27 ⟨by decide, by decide⟩
  obtain ⟨T28, h28, X28, e28, W28, st28⟩ := stR X26 hx hZ e26 Ar27 (j := (8 : Int32)) hin27 rfl (Sto.ofV Ar27 qq27 O1 (Ins.self (E_SPAN_START.keep K25))) (g := (mkF m 61 #[.val (.int p1), .unset, .unset, .unset, .unset, .unset] [(.ref a_SPAN_START), (.int (8 : Int32)), (.ref b1), (.ref b1)])) rfl rfl (hb hby at_61)
  have V28 : Arv Z h28 b1 k1 (.object "ebbtide/serve/History$Event") (10 : Int32) [(.ref a_START), (.ref a_READ), (.ref a_UNREAD), (.ref a_POWER_ON), (.ref a_POWER_OFF), (.ref a_HOLD_ON), (.ref a_HOLD_OFF), (.ref a_RELEASE), (.ref a_SPAN_START), .null] .null := Arv.set Ar27 qq27 Sz27 Ng27 Hs27 Gf27 rfl W28 8 rfl (Nat.le_of_ble_eq_true rfl)
  have K28 : Keep h0 h28 [] := K25.wr W28 (Or.inr sz_b1)
  have N28 := Fr.snoc X28 N25 gz_b1
  obtain ⟨T29, X29, e29, st29⟩ := getS2 X28 hx hZ hown (host := "") (Or.inl (hw _ (List.mem_of_getElem? (i := 22) rfl))) Via.refl e28 (own_sk S_SPAN_END K28) (g := (mkF m 65 #[.val (.int p1), .unset, .unset, .unset, .unset, .unset] [(.int (9 : Int32)), (.ref b1), (.ref b1)])) rfl (hb hby at_65)
  obtain ⟨cl30, Ar30, qq30, Sz30, Ng30, Hs30, Gf30⟩ := V28
  have hin30 : ¬ ((9 : Int32) < 0 ∨ cl30.slots.size ≤ ((9 : Int32)).toNatClampNeg) := inb_of Sz30 ⟨by decide, by decide⟩
  obtain ⟨T31, h31, X31, e31, W31, st31⟩ := stR X29 hx hZ e29 Ar30 (j := (9 : Int32)) hin30 rfl (Sto.ofV Ar30 qq30 O1 (Ins.self (E_SPAN_END.keep K28))) (g := (mkF m 68 #[.val (.int p1), .unset, .unset, .unset, .unset, .unset] [(.ref a_SPAN_END), (.int (9 : Int32)), (.ref b1), (.ref b1)])) rfl rfl (hb hby at_68)
  have V31 : Arv Z h31 b1 k1 (.object "ebbtide/serve/History$Event") (10 : Int32) [(.ref a_START), (.ref a_READ), (.ref a_UNREAD), (.ref a_POWER_ON), (.ref a_POWER_OFF), (.ref a_HOLD_ON), (.ref a_HOLD_OFF), (.ref a_RELEASE), (.ref a_SPAN_START), (.ref a_SPAN_END)] .null := Arv.set Ar30 qq30 Sz30 Ng30 Hs30 Gf30 rfl W31 9 rfl (Nat.le_of_ble_eq_true rfl)
  have K31 : Keep h0 h31 [] := K28.wr W31 (Or.inr sz_b1)
  have N31 := Fr.snoc X31 N28 gz_b1
  obtain ⟨cl32, Ar32, qq32, Sz32, Ng32, Hs32, Gf32⟩ := V31
  have hin32 : ¬ ((4 : Int32) < 0 ∨ cl32.slots.size ≤ ((4 : Int32)).toNatClampNeg) := inb_of Sz32 ⟨by decide, by decide⟩
  have hat32 : cl32.slots[((4 : Int32)).toNatClampNeg]? = some (.ref a_POWER_OFF) := Hs32.at hin32 rfl
  obtain ⟨cq33, kq33, q33a, q33b, q33c⟩ := isOf hZ e31 (E_POWER_OFF.keep K31)
  obtain ⟨_, _, ⟨T33, L33, k33, n33⟩, -, X33, ⟨Lc33, hQ33, l33, y33, z33⟩, st33⟩ := X31.virtualBack hx (y := (⟨"ebbtide/serve/History$Event", "holds", "()Z"⟩ : MethodName)) (z := (⟨"ebbtide/serve/History$Event", "holds", "()Z"⟩ : MethodName)) hown (mvT hZ (hw _ (List.mem_of_getElem? (i := 25) rfl))) (mvT hZ (hw _ (List.mem_of_getElem? (i := 26) rfl))) (notFace_of_selects (args := #[]) (mvT hZ (hw _ (List.mem_of_getElem? (i := 28) rfl)))) (mvT hZ (hw _ (List.mem_of_getElem? (i := 28) rfl))) (mvT hZ (hw _ (List.mem_of_getElem? (i := 27) rfl))) (by decide) (backOf (W := 0) (rm1_19 l Z a0 hw [] a_START a_READ a_UNREAD a_POWER_ON a_POWER_OFF a_HOLD_ON a_HOLD_OFF a_RELEASE a_SPAN_START a_SPAN_END a_ON a_OFF p1 h31 n0 (Nat.le_trans Z0 K31.1) (own_wk hS K31)) hZ (hw _ (List.mem_of_getElem? (i := 29) rfl)) (hw _ (List.mem_of_getElem? (i := 3) rfl)) (by decide) (by decide)) q33a q33c (g := (mkF m 81 #[.val (.int p1), .val (.ref b1), .val (.ref a_POWER_OFF), .unset, .unset, .unset] [(.ref a_POWER_OFF)])) rfl (by rw [hml]; rfl) (Steps.refl _) (argsL := []) (rest := []) (lenOf pd_0 rfl) rfl (by show 2 * 0 + _ ≤ _; exact Nat.le_of_eq rfl) (hb hby at_81) (fun _ _ => ⟨rfl, e31, (by decide : 1 + 0 ≤ _), (by decide : 10 + 0 ≤ _)⟩)
  dsimp only [Pt.U, Pt.locs, Pt.cells, Pt.slots] at X33 l33 y33 z33 st33 hQ33
  subst l33 y33 z33
  obtain ⟨rfl, N33q, e33⟩ := hQ33
  have N33 := Fr.app N31 N33q
  obtain ⟨cq34, kq34, q34a, q34b, q34c⟩ := isOf hZ e33 (E_POWER_OFF.keep K31)
  obtain ⟨_, _, ⟨T34, L34, k34, n34⟩, -, X34, ⟨Lc34, hQ34, l34, y34, z34⟩, st34⟩ := X33.virtualBack hx (y := (⟨"ebbtide/serve/History$Event", "hold", "()Lebbtide/serve/Hold;"⟩ : MethodName)) (z := (⟨"ebbtide/serve/History$Event", "hold", "()Lebbtide/serve/Hold;"⟩ : MethodName)) hown (mvT hZ (hw _ (List.mem_of_getElem? (i := 33) rfl))) (mvT hZ (hw _ (List.mem_of_getElem? (i := 34) rfl))) (notFace_of_selects (args := #[]) (mvT hZ (hw _ (List.mem_of_getElem? (i := 36) rfl)))) (mvT hZ (hw _ (List.mem_of_getElem? (i := 36) rfl))) (mvT hZ (hw _ (List.mem_of_getElem? (i := 35) rfl))) (by decide) (backOf (W := 0) (rm2_20 l Z a0 hw [] a_START a_READ a_UNREAD a_POWER_ON a_POWER_OFF a_HOLD_ON a_HOLD_OFF a_RELEASE a_SPAN_START a_SPAN_END a_ON a_OFF p1 h31 n0 (Nat.le_trans Z0 K31.1) (own_wk hS K31)) hZ (hw _ (List.mem_of_getElem? (i := 37) rfl)) (hw _ (List.mem_of_getElem? (i := 3) rfl)) (by decide) (by decide)) q34a q34c (g := (mkF m 86 #[.val (.int p1), .val (.ref b1), .val (.ref a_POWER_OFF), .val (.int (0 : Int32)), .unset, .unset] [(.ref a_POWER_OFF)])) rfl (by rw [hml]; rfl) (Steps.refl _) (argsL := []) (rest := []) (lenOf pd_2 rfl) rfl (by show 2 * 0 + _ ≤ _; exact Nat.le_of_eq rfl) (hb hby at_86) (fun _ _ => ⟨rfl, e33, (by decide : 1 + 0 ≤ _), (by decide : 10 + 0 ≤ _)⟩)
  dsimp only [Pt.U, Pt.locs, Pt.cells, Pt.slots] at X34 l34 y34 z34 st34 hQ34
  subst l34 y34 z34
  obtain ⟨rfl, N34q, e34⟩ := hQ34
  have N34 := Fr.app N33 N34q
  obtain ⟨_, _, ⟨T35, L35, k35, n35⟩, -, X35, ⟨Lc35, hQ35, l35, y35, z35⟩, st35⟩ := Jvm.LawKit.callS X34 hx (y := (⟨"ebbtide/serve/History$Event", "of", "(Lebbtide/serve/Hold;)Lebbtide/serve/History$Event;"⟩ : MethodName)) hown (mvT hZ (hw _ (List.mem_of_getElem? (i := 47) rfl))) (mvT hZ (hw _ (List.mem_of_getElem? (i := 48) rfl))) (mvT hZ (hw _ (List.mem_of_getElem? (i := 3) rfl))) (mvT hZ (hw _ (List.mem_of_getElem? (i := 49) rfl))) (by decide) (backOf (W := 0) (rm4_5 l Z a0 hw [] a_START a_READ a_UNREAD a_POWER_ON a_POWER_OFF a_HOLD_ON a_HOLD_OFF a_RELEASE a_SPAN_START a_SPAN_END a_ON a_OFF p1 h31 n0 (Nat.le_trans Z0 K31.1) (own_wk hS K31)) hZ (hw _ (List.mem_of_getElem? (i := 49) rfl)) (hw _ (List.mem_of_getElem? (i := 3) rfl)) (by decide) (by decide)) (g := (mkF m 93 #[.val (.int p1), .val (.ref b1), .val (.ref a_POWER_OFF), .val (.int (0 : Int32)), .val .null, .unset] [.null])) rfl (by rw [hml]; rfl) (argsL := [.null]) (rest := []) (lenOf pd_3 rfl) rfl (by show 2 * 0 + _ ≤ _; exact Nat.le_of_eq rfl) (hb hby at_93) (fun _ _ => ⟨rfl, e34, (by decide : 1 + 0 ≤ _), (by decide : 10 + 0 ≤ _)⟩)
  dsimp only [Pt.U, Pt.locs, Pt.cells, Pt.slots] at X35 l35 y35 z35 st35 hQ35
  subst l35 y35 z35
  obtain ⟨rfl, N35q, e35⟩ := hQ35
  have N35 := Fr.app N34 N35q
  obtain ⟨fs, hr, hrun, hended, hW, hsame⟩ := X35.leave (v := some (.int (1 : Int32))) (fun h => by rw [Bd.returns] at h; cases h)
  refine ⟨_, _, pre0 _ ?_, hrun, hended, _, _, rfl, ?_, ⟨_, rfl⟩, hW, hsame.mono (by decide) (by decide)⟩
  · show Steps p.tables e below (s₁.setTop (mkF m 0 #[.val (.int p1), .unset, .unset, .unset, .unset, .unset] [])) _
    refine XS.bipush X0.here hx rfl (hb hby at_0) ?_
    show Steps p.tables e below (s₁.setTop (mkF m 2 #[.val (.int p1), .unset, .unset, .unset, .unset, .unset] [(.int (10 : Int32))])) _
    refine st1 _ ?_
    show Steps p.tables e below (T1.setTop (mkF m 5 #[.val (.int p1), .unset, .unset, .unset, .unset, .unset] [(.ref b1)])) _
    refine XS.dup X1.here hx rfl (hb hby at_5) rfl rfl ?_
    show Steps p.tables e below (T1.setTop (mkF m 6 #[.val (.int p1), .unset, .unset, .unset, .unset, .unset] [(.ref b1), (.ref b1)])) _
    refine XS.iconst X1.here hx rfl (hb hby at_6) ?_
    show Steps p.tables e below (T1.setTop (mkF m 7 #[.val (.int p1), .unset, .unset, .unset, .unset, .unset] [(.int (0 : Int32)), (.ref b1), (.ref b1)])) _
    refine st2 _ ?_
    show Steps p.tables e below (T2.setTop (mkF m 10 #[.val (.int p1), .unset, .unset, .unset, .unset, .unset] [(.ref a_START), (.int (0 : Int32)), (.ref b1), (.ref b1)])) _
    refine st4 _ ?_
    show Steps p.tables e below (T4.setTop (mkF m 11 #[.val (.int p1), .unset, .unset, .unset, .unset, .unset] [(.ref b1)])) _
    refine XS.dup X4.here hx rfl (hb hby at_11) rfl rfl ?_
    show Steps p.tables e below (T4.setTop (mkF m 12 #[.val (.int p1), .unset, .unset, .unset, .unset, .unset] [(.ref b1), (.ref b1)])) _
    refine XS.iconst X4.here hx rfl (hb hby at_12) ?_
    show Steps p.tables e below (T4.setTop (mkF m 13 #[.val (.int p1), .unset, .unset, .unset, .unset, .unset] [(.int (1 : Int32)), (.ref b1), (.ref b1)])) _
    refine st5 _ ?_
    show Steps p.tables e below (T5.setTop (mkF m 16 #[.val (.int p1), .unset, .unset, .unset, .unset, .unset] [(.ref a_READ), (.int (1 : Int32)), (.ref b1), (.ref b1)])) _
    refine st7 _ ?_
    show Steps p.tables e below (T7.setTop (mkF m 17 #[.val (.int p1), .unset, .unset, .unset, .unset, .unset] [(.ref b1)])) _
    refine XS.dup X7.here hx rfl (hb hby at_17) rfl rfl ?_
    show Steps p.tables e below (T7.setTop (mkF m 18 #[.val (.int p1), .unset, .unset, .unset, .unset, .unset] [(.ref b1), (.ref b1)])) _
    refine XS.iconst X7.here hx rfl (hb hby at_18) ?_
    show Steps p.tables e below (T7.setTop (mkF m 19 #[.val (.int p1), .unset, .unset, .unset, .unset, .unset] [(.int (2 : Int32)), (.ref b1), (.ref b1)])) _
    refine st8 _ ?_
    show Steps p.tables e below (T8.setTop (mkF m 22 #[.val (.int p1), .unset, .unset, .unset, .unset, .unset] [(.ref a_UNREAD), (.int (2 : Int32)), (.ref b1), (.ref b1)])) _
    refine st10 _ ?_
    show Steps p.tables e below (T10.setTop (mkF m 23 #[.val (.int p1), .unset, .unset, .unset, .unset, .unset] [(.ref b1)])) _
    refine XS.dup X10.here hx rfl (hb hby at_23) rfl rfl ?_
    show Steps p.tables e below (T10.setTop (mkF m 24 #[.val (.int p1), .unset, .unset, .unset, .unset, .unset] [(.ref b1), (.ref b1)])) _
    refine XS.iconst X10.here hx rfl (hb hby at_24) ?_
    show Steps p.tables e below (T10.setTop (mkF m 25 #[.val (.int p1), .unset, .unset, .unset, .unset, .unset] [(.int (3 : Int32)), (.ref b1), (.ref b1)])) _
    refine st11 _ ?_
    show Steps p.tables e below (T11.setTop (mkF m 28 #[.val (.int p1), .unset, .unset, .unset, .unset, .unset] [(.ref a_POWER_ON), (.int (3 : Int32)), (.ref b1), (.ref b1)])) _
    refine st13 _ ?_
    show Steps p.tables e below (T13.setTop (mkF m 29 #[.val (.int p1), .unset, .unset, .unset, .unset, .unset] [(.ref b1)])) _
    refine XS.dup X13.here hx rfl (hb hby at_29) rfl rfl ?_
    show Steps p.tables e below (T13.setTop (mkF m 30 #[.val (.int p1), .unset, .unset, .unset, .unset, .unset] [(.ref b1), (.ref b1)])) _
    refine XS.iconst X13.here hx rfl (hb hby at_30) ?_
    show Steps p.tables e below (T13.setTop (mkF m 31 #[.val (.int p1), .unset, .unset, .unset, .unset, .unset] [(.int (4 : Int32)), (.ref b1), (.ref b1)])) _
    refine st14 _ ?_
    show Steps p.tables e below (T14.setTop (mkF m 34 #[.val (.int p1), .unset, .unset, .unset, .unset, .unset] [(.ref a_POWER_OFF), (.int (4 : Int32)), (.ref b1), (.ref b1)])) _
    refine st16 _ ?_
    show Steps p.tables e below (T16.setTop (mkF m 35 #[.val (.int p1), .unset, .unset, .unset, .unset, .unset] [(.ref b1)])) _
    refine XS.dup X16.here hx rfl (hb hby at_35) rfl rfl ?_
    show Steps p.tables e below (T16.setTop (mkF m 36 #[.val (.int p1), .unset, .unset, .unset, .unset, .unset] [(.ref b1), (.ref b1)])) _
    refine XS.iconst X16.here hx rfl (hb hby at_36) ?_
    show Steps p.tables e below (T16.setTop (mkF m 37 #[.val (.int p1), .unset, .unset, .unset, .unset, .unset] [(.int (5 : Int32)), (.ref b1), (.ref b1)])) _
    refine st17 _ ?_
    show Steps p.tables e below (T17.setTop (mkF m 40 #[.val (.int p1), .unset, .unset, .unset, .unset, .unset] [(.ref a_HOLD_ON), (.int (5 : Int32)), (.ref b1), (.ref b1)])) _
    refine st19 _ ?_
    show Steps p.tables e below (T19.setTop (mkF m 41 #[.val (.int p1), .unset, .unset, .unset, .unset, .unset] [(.ref b1)])) _
    refine XS.dup X19.here hx rfl (hb hby at_41) rfl rfl ?_
    show Steps p.tables e below (T19.setTop (mkF m 42 #[.val (.int p1), .unset, .unset, .unset, .unset, .unset] [(.ref b1), (.ref b1)])) _
    refine XS.bipush X19.here hx rfl (hb hby at_42) ?_
    show Steps p.tables e below (T19.setTop (mkF m 44 #[.val (.int p1), .unset, .unset, .unset, .unset, .unset] [(.int (6 : Int32)), (.ref b1), (.ref b1)])) _
    refine st20 _ ?_
    show Steps p.tables e below (T20.setTop (mkF m 47 #[.val (.int p1), .unset, .unset, .unset, .unset, .unset] [(.ref a_HOLD_OFF), (.int (6 : Int32)), (.ref b1), (.ref b1)])) _
    refine st22 _ ?_
    show Steps p.tables e below (T22.setTop (mkF m 48 #[.val (.int p1), .unset, .unset, .unset, .unset, .unset] [(.ref b1)])) _
    refine XS.dup X22.here hx rfl (hb hby at_48) rfl rfl ?_
    show Steps p.tables e below (T22.setTop (mkF m 49 #[.val (.int p1), .unset, .unset, .unset, .unset, .unset] [(.ref b1), (.ref b1)])) _
    refine XS.bipush X22.here hx rfl (hb hby at_49) ?_
    show Steps p.tables e below (T22.setTop (mkF m 51 #[.val (.int p1), .unset, .unset, .unset, .unset, .unset] [(.int (7 : Int32)), (.ref b1), (.ref b1)])) _
    refine st23 _ ?_
    show Steps p.tables e below (T23.setTop (mkF m 54 #[.val (.int p1), .unset, .unset, .unset, .unset, .unset] [(.ref a_RELEASE), (.int (7 : Int32)), (.ref b1), (.ref b1)])) _
    refine st25 _ ?_
    show Steps p.tables e below (T25.setTop (mkF m 55 #[.val (.int p1), .unset, .unset, .unset, .unset, .unset] [(.ref b1)])) _
    refine XS.dup X25.here hx rfl (hb hby at_55) rfl rfl ?_
    show Steps p.tables e below (T25.setTop (mkF m 56 #[.val (.int p1), .unset, .unset, .unset, .unset, .unset] [(.ref b1), (.ref b1)])) _
    refine XS.bipush X25.here hx rfl (hb hby at_56) ?_
    show Steps p.tables e below (T25.setTop (mkF m 58 #[.val (.int p1), .unset, .unset, .unset, .unset, .unset] [(.int (8 : Int32)), (.ref b1), (.ref b1)])) _
    refine st26 _ ?_
    show Steps p.tables e below (T26.setTop (mkF m 61 #[.val (.int p1), .unset, .unset, .unset, .unset, .unset] [(.ref a_SPAN_START), (.int (8 : Int32)), (.ref b1), (.ref b1)])) _
    refine st28 _ ?_
    show Steps p.tables e below (T28.setTop (mkF m 62 #[.val (.int p1), .unset, .unset, .unset, .unset, .unset] [(.ref b1)])) _
    refine XS.dup X28.here hx rfl (hb hby at_62) rfl rfl ?_
    show Steps p.tables e below (T28.setTop (mkF m 63 #[.val (.int p1), .unset, .unset, .unset, .unset, .unset] [(.ref b1), (.ref b1)])) _
    refine XS.bipush X28.here hx rfl (hb hby at_63) ?_
    show Steps p.tables e below (T28.setTop (mkF m 65 #[.val (.int p1), .unset, .unset, .unset, .unset, .unset] [(.int (9 : Int32)), (.ref b1), (.ref b1)])) _
    refine st29 _ ?_
    show Steps p.tables e below (T29.setTop (mkF m 68 #[.val (.int p1), .unset, .unset, .unset, .unset, .unset] [(.ref a_SPAN_END), (.int (9 : Int32)), (.ref b1), (.ref b1)])) _
    refine st31 _ ?_
    show Steps p.tables e below (T31.setTop (mkF m 69 #[.val (.int p1), .unset, .unset, .unset, .unset, .unset] [(.ref b1)])) _
    refine XS.astoreN X31.here hx rfl (hb hby at_69) rfl rfl (l' := #[.val (.int p1), .val (.ref b1), .unset, .unset, .unset, .unset]) rfl ?_
    show Steps p.tables e below (T31.setTop (mkF m 70 #[.val (.int p1), .val (.ref b1), .unset, .unset, .unset, .unset] [])) _
    refine XS.aloadN X31.here hx rfl (hb hby at_70) rfl rfl ?_
    show Steps p.tables e below (T31.setTop (mkF m 71 #[.val (.int p1), .val (.ref b1), .unset, .unset, .unset, .unset] [(.ref b1)])) _
    refine XS.iloadN X31.here hx rfl (hb hby at_71) rfl ?_
    show Steps p.tables e below (T31.setTop (mkF m 72 #[.val (.int p1), .val (.ref b1), .unset, .unset, .unset, .unset] [(.int p1), (.ref b1)])) _
    refine X31.ldcInt hx hown (mvT hZ (hw _ (List.mem_of_getElem? (i := 24) rfl))) (g := (mkF m 72 #[.val (.int p1), .val (.ref b1), .unset, .unset, .unset, .unset] [(.int p1), (.ref b1)])) rfl (hb hby at_72) _ ?_
    show Steps p.tables e below (T31.setTop (mkF m 74 #[.val (.int p1), .val (.ref b1), .unset, .unset, .unset, .unset] [(.int (2147483647 : Int32)), (.int p1), (.ref b1)])) _
    refine XS.iand X31.here hx rfl (hb hby at_74) rfl ?_
    show Steps p.tables e below (T31.setTop (mkF m 75 #[.val (.int p1), .val (.ref b1), .unset, .unset, .unset, .unset] [(.int (p1 &&& (2147483647 : Int32))), (.ref b1)])) _
    refine XS.bipush X31.here hx rfl (hb hby at_75) ?_
    show Steps p.tables e below (T31.setTop (mkF m 77 #[.val (.int p1), .val (.ref b1), .unset, .unset, .unset, .unset] [(.int (10 : Int32)), (.int (p1 &&& (2147483647 : Int32))), (.ref b1)])) _
    refine Jvm.RoadKit.iremM (g := (mkF m 77 #[.val (.int p1), .val (.ref b1), .unset, .unset, .unset, .unset] [(.int (10 : Int32)), (.int (p1 &&& (2147483647 : Int32))), (.ref b1)])) X31 hx rfl (hb hby at_77) rfl (by decide) ?_
    rw [hi]
    show Steps p.tables e below (T31.setTop (mkF m 78 #[.val (.int p1), .val (.ref b1), .unset, .unset, .unset, .unset] [(.int (4 : Int32)), (.ref b1)])) _
    refine X31.aaload hx (j := (4 : Int32)) (v := (.ref a_POWER_OFF)) (by rw [e31]; exact Ar32.1) (State.isArrayOf_alike hZ.alike Ar32.2.1) rfl Ar32.2.2 hin32 hat32 (g := (mkF m 78 #[.val (.int p1), .val (.ref b1), .unset, .unset, .unset, .unset] [(.int (4 : Int32)), (.ref b1)])) rfl rfl (hb hby at_78) _ ?_
    show Steps p.tables e below (T31.setTop (mkF m 79 #[.val (.int p1), .val (.ref b1), .unset, .unset, .unset, .unset] [(.ref a_POWER_OFF)])) _
    refine XS.astoreN X31.here hx rfl (hb hby at_79) rfl rfl (l' := #[.val (.int p1), .val (.ref b1), .val (.ref a_POWER_OFF), .unset, .unset, .unset]) rfl ?_
    show Steps p.tables e below (T31.setTop (mkF m 80 #[.val (.int p1), .val (.ref b1), .val (.ref a_POWER_OFF), .unset, .unset, .unset] [])) _
    refine XS.aloadN X31.here hx rfl (hb hby at_80) rfl rfl ?_
    show Steps p.tables e below (T31.setTop (mkF m 81 #[.val (.int p1), .val (.ref b1), .val (.ref a_POWER_OFF), .unset, .unset, .unset] [(.ref a_POWER_OFF)])) _
    refine st33.trans ?_
    show Steps p.tables e below (T33.setTop (mkF m 84 #[.val (.int p1), .val (.ref b1), .val (.ref a_POWER_OFF), .unset, .unset, .unset] [(.int (0 : Int32))])) _
    refine XS.istoreN X33.here hx rfl (hb hby at_84) rfl (l' := #[.val (.int p1), .val (.ref b1), .val (.ref a_POWER_OFF), .val (.int (0 : Int32)), .unset, .unset]) rfl ?_
    show Steps p.tables e below (T33.setTop (mkF m 85 #[.val (.int p1), .val (.ref b1), .val (.ref a_POWER_OFF), .val (.int (0 : Int32)), .unset, .unset] [])) _
    refine XS.aloadN X33.here hx rfl (hb hby at_85) rfl rfl ?_
    show Steps p.tables e below (T33.setTop (mkF m 86 #[.val (.int p1), .val (.ref b1), .val (.ref a_POWER_OFF), .val (.int (0 : Int32)), .unset, .unset] [(.ref a_POWER_OFF)])) _
    refine st34.trans ?_
    show Steps p.tables e below (T34.setTop (mkF m 89 #[.val (.int p1), .val (.ref b1), .val (.ref a_POWER_OFF), .val (.int (0 : Int32)), .unset, .unset] [.null])) _
    refine XS.astore X34.here hx rfl (hb hby at_89) rfl rfl (l' := #[.val (.int p1), .val (.ref b1), .val (.ref a_POWER_OFF), .val (.int (0 : Int32)), .val .null, .unset]) rfl ?_
    show Steps p.tables e below (T34.setTop (mkF m 91 #[.val (.int p1), .val (.ref b1), .val (.ref a_POWER_OFF), .val (.int (0 : Int32)), .val .null, .unset] [])) _
    refine XS.aload X34.here hx rfl (hb hby at_91) rfl rfl ?_
    show Steps p.tables e below (T34.setTop (mkF m 93 #[.val (.int p1), .val (.ref b1), .val (.ref a_POWER_OFF), .val (.int (0 : Int32)), .val .null, .unset] [.null])) _
    refine st35 _ ?_
    show Steps p.tables e below (T35.setTop (mkF m 96 #[.val (.int p1), .val (.ref b1), .val (.ref a_POWER_OFF), .val (.int (0 : Int32)), .val .null, .unset] [(.ref a_RELEASE)])) _
    refine XS.aloadN X35.here hx rfl (hb hby at_96) rfl rfl ?_
    show Steps p.tables e below (T35.setTop (mkF m 97 #[.val (.int p1), .val (.ref b1), .val (.ref a_POWER_OFF), .val (.int (0 : Int32)), .val .null, .unset] [(.ref a_POWER_OFF), (.ref a_RELEASE)])) _
    refine Jvm.RoadKit.acmp (g := (mkF m 97 #[.val (.int p1), .val (.ref b1), .val (.ref a_POWER_OFF), .val (.int (0 : Int32)), .val .null, .unset] [(.ref a_POWER_OFF), (.ref a_RELEASE)])) X35 hx rfl rfl rfl (pc0 := 97) (pc' := 104) (same := false) rfl (hb hby at_97) rfl (decide_eq_false fun q => (Fld.ne F_RELEASE_ordinal F_POWER_OFF_ordinal (fun q => absurd (Value.int.inj q) (by decide))) (Value.ref.inj q)) (by decide) (by decide) ?_
    show Steps p.tables e below (T35.setTop (mkF m 104 #[.val (.int p1), .val (.ref b1), .val (.ref a_POWER_OFF), .val (.int (0 : Int32)), .val .null, .unset] [])) _
    refine XS.iconst X35.here hx rfl (hb hby at_104) ?_
    show Steps p.tables e below (T35.setTop (mkF m 105 #[.val (.int p1), .val (.ref b1), .val (.ref a_POWER_OFF), .val (.int (0 : Int32)), .val .null, .unset] [(.int (0 : Int32))])) _
    refine XS.istore X35.here hx rfl (hb hby at_105) rfl (l' := #[.val (.int p1), .val (.ref b1), .val (.ref a_POWER_OFF), .val (.int (0 : Int32)), .val .null, .val (.int (0 : Int32))]) rfl ?_
    show Steps p.tables e below (T35.setTop (mkF m 107 #[.val (.int p1), .val (.ref b1), .val (.ref a_POWER_OFF), .val (.int (0 : Int32)), .val .null, .val (.int (0 : Int32))] [])) _
    refine XS.iloadN X35.here hx rfl (hb hby at_107) rfl ?_
    show Steps p.tables e below (T35.setTop (mkF m 108 #[.val (.int p1), .val (.ref b1), .val (.ref a_POWER_OFF), .val (.int (0 : Int32)), .val .null, .val (.int (0 : Int32))] [(.int (0 : Int32))])) _
    refine XS.iload X35.here hx rfl (hb hby at_108) rfl ?_
    show Steps p.tables e below (T35.setTop (mkF m 110 #[.val (.int p1), .val (.ref b1), .val (.ref a_POWER_OFF), .val (.int (0 : Int32)), .val .null, .val (.int (0 : Int32))] [(.int (0 : Int32)), (.int (0 : Int32))])) _
    refine XS.icmpNo X35.here hx rfl (hb hby at_110) rfl (teq (by decide : (0 : Int32) = (0 : Int32))).2 ?_
    show Steps p.tables e below (T35.setTop (mkF m 113 #[.val (.int p1), .val (.ref b1), .val (.ref a_POWER_OFF), .val (.int (0 : Int32)), .val .null, .val (.int (0 : Int32))] [])) _
    refine XS.iconst X35.here hx rfl (hb hby at_113) ?_
    show Steps p.tables e below (T35.setTop (mkF m 114 #[.val (.int p1), .val (.ref b1), .val (.ref a_POWER_OFF), .val (.int (0 : Int32)), .val .null, .val (.int (0 : Int32))] [(.int (1 : Int32))])) _
    refine XS.goto X35.here hx rfl (pc0 := 114) (pc' := 118) rfl (hb hby at_114) (by decide) (by decide) ?_
    show Steps p.tables e below (T35.setTop (mkF m 118 #[.val (.int p1), .val (.ref b1), .val (.ref a_POWER_OFF), .val (.int (0 : Int32)), .val .null, .val (.int (0 : Int32))] [(.int (1 : Int32))])) _
    exact retN X35 hx (t := .boolean) Bd.returns (by simp) (hb hby at_118) hr
  · exact ⟨rfl, N35⟩
theorem d1_21 : decode prog_171_method_7_code 21 = .ok (.iconst 1, 1) := by decide +kernel
theorem d1_22 : decode prog_171_method_7_code 22 = .ok (.goto 4, 3) := by decide +kernel
set_option maxRecDepth 65536 in
set_option maxHeartbeats 40000000 in
theorem rm1_23 (l : Launch) (Z : State) (a0 : Array Value) (hw : ∀ d ∈ tables_1, d.before a0 Z = true) (ws : List Jvm.Cond) (a_START : Addr) (a_READ : Addr) (a_UNREAD : Addr) (a_POWER_ON : Addr) (a_POWER_OFF : Addr) (a_HOLD_ON : Addr) (a_HOLD_OFF : Addr) (a_RELEASE : Addr) (a_SPAN_START : Addr) (a_SPAN_END : Addr) (a_ON : Addr) (a_OFF : Addr) (p1 : Int32) (h0 : Heap) (n0 : Nat) (Z0 : n0 ≤ h0.size) (hS : Wd Z h0 a_START a_READ a_UNREAD a_POWER_ON a_POWER_OFF a_HOLD_ON a_HOLD_OFF a_RELEASE a_SPAN_START a_SPAN_END a_ON a_OFF) :
    MetFree l (⟨"ebbtide/serve/History$Event", "holds", "()Z"⟩ : MethodName) (head1 (Jvm.Cond.code (⟨"ebbtide/serve/History$Event", "holds", "()Z"⟩ : MethodName) prog_171_method_7_code 1 (some .boolean) :: ws) ({ frames := 0, cells := 0, slots := 0, locals := 0 } : Room)) (fun a U => a = #[(.ref a_HOLD_ON)] ∧ Z.Warmed39 U.vm ∧ U.heap = h0) (fun _ _ _ _ _ => True) (fun _ U o U' => ∃ v L, o = .returned v ∧ QP (some (.int (1 : Int32))) h0 n0 v U'.heap L ∧ FrameEnd U o U' L ({ frames := 0, cells := 0, slots := 0, locals := 0 } : Room).cells ({ frames := 0, cells := 0, slots := 0, locals := 0 } : Room).slots) := by
  refine MetFree.of_bodySF (plainFor_of_name pn_ebbtide_serve_History_Event) hisR ?_
  intro p e s m args below meth c s₁ Bd hml0 hP hK
  obtain ⟨rfl, hZ, hh⟩ := hP
  have hx := Bd.exec
  have hby := Bd.bytes
  have hml : c.maxLocals = 1 := hml0
  have hown : s.vm.findClass "ebbtide/serve/History$Event" = some m.cls := findClass_of_methodNamed Bd.named
  have X0 : Stand p l e ({ frames := 0, cells := 0, slots := 0, locals := 0 } : Room) s m #[(.ref a_HOLD_ON)] below meth c s₁ [] 0 0 := Stand.of_body Bd
  have e0 : s₁.heap = h0 := by rw [← hh, Bd.state]; rfl
  have N0 := Fr.nil n0
  have pre0 : ∀ t, Steps p.tables e below (s₁.setTop (mkF m 0 #[.val (.ref a_HOLD_ON)] [])) t → Steps p.tables e below (s₁.setTop (entryFrame m #[(.ref a_HOLD_ON)] 1)) t := fun t k => castTop (by first | (simp [entryFrame, mkF, argsToLocals, Value.category]; done) | rfl) k
  obtain ⟨S_START, E_START, S_READ, E_READ, S_UNREAD, E_UNREAD, S_POWER_ON, E_POWER_ON, S_POWER_OFF, E_POWER_OFF, S_HOLD_ON, E_HOLD_ON, S_HOLD_OFF, E_HOLD_OFF, S_RELEASE, E_RELEASE, S_SPAN_START, E_SPAN_START, S_SPAN_END, E_SPAN_END, S_ON, E_ON, S_OFF, E_OFF, F_START_ordinal, F_HOLD_ON_ordinal, F_HOLD_OFF_ordinal, F_RELEASE_ordinal, F_POWER_ON_ordinal, F_READ_ordinal, F_POWER_OFF_ordinal, F_UNREAD_ordinal, F_SPAN_START_ordinal, F_SPAN_END_ordinal, F_OFF_ordinal, F_ON_ordinal⟩ := id hS
  obtain ⟨T1, X1, e1, st1⟩ := getS2 X0 hx hZ hown (host := "") (Or.inl (hw _ (List.mem_of_getElem? (i := 30) rfl))) Via.refl e0 S_HOLD_ON (g := (mkF m 1 #[.val (.ref a_HOLD_ON)] [(.ref a_HOLD_ON)])) rfl (hb hby d1_1)
  obtain ⟨fs, hr, hrun, hended, hW, hsame⟩ := X1.leave (v := some (.int (1 : Int32))) (fun h => by rw [Bd.returns] at h; cases h)
  refine ⟨_, _, pre0 _ ?_, hrun, hended, _, _, rfl, ?_, ⟨_, rfl⟩, hW, hsame.mono (by decide) (by decide)⟩
  · show Steps p.tables e below (s₁.setTop (mkF m 0 #[.val (.ref a_HOLD_ON)] [])) _
    refine XS.aloadN X0.here hx rfl (hb hby d1_0) rfl rfl ?_
    show Steps p.tables e below (s₁.setTop (mkF m 1 #[.val (.ref a_HOLD_ON)] [(.ref a_HOLD_ON)])) _
    refine st1 _ ?_
    show Steps p.tables e below (T1.setTop (mkF m 4 #[.val (.ref a_HOLD_ON)] [(.ref a_HOLD_ON), (.ref a_HOLD_ON)])) _
    refine Jvm.RoadKit.acmp (g := (mkF m 4 #[.val (.ref a_HOLD_ON)] [(.ref a_HOLD_ON), (.ref a_HOLD_ON)])) X1 hx rfl rfl rfl (pc0 := 4) (pc' := 21) (same := true) rfl (hb hby d1_4) rfl (decide_eq_true rfl) (by decide) (by decide) ?_
    show Steps p.tables e below (T1.setTop (mkF m 21 #[.val (.ref a_HOLD_ON)] [])) _
    refine XS.iconst X1.here hx rfl (hb hby d1_21) ?_
    show Steps p.tables e below (T1.setTop (mkF m 22 #[.val (.ref a_HOLD_ON)] [(.int (1 : Int32))])) _
    refine XS.goto X1.here hx rfl (pc0 := 22) (pc' := 26) rfl (hb hby d1_22) (by decide) (by decide) ?_
    show Steps p.tables e below (T1.setTop (mkF m 26 #[.val (.ref a_HOLD_ON)] [(.int (1 : Int32))])) _
    exact retN X1 hx (t := .boolean) Bd.returns (by simp) (hb hby d1_26) hr
  · exact ⟨rfl, N0, e1⟩
set_option maxRecDepth 65536 in
set_option maxHeartbeats 40000000 in
theorem rm3_25 (l : Launch) (Z : State) (a0 : Array Value) (hw : ∀ d ∈ tables_1, d.before a0 Z = true) (ws : List Jvm.Cond) (a_START : Addr) (a_READ : Addr) (a_UNREAD : Addr) (a_POWER_ON : Addr) (a_POWER_OFF : Addr) (a_HOLD_ON : Addr) (a_HOLD_OFF : Addr) (a_RELEASE : Addr) (a_SPAN_START : Addr) (a_SPAN_END : Addr) (a_ON : Addr) (a_OFF : Addr) (p1 : Int32) (h0 : Heap) (n0 : Nat) (Z0 : n0 ≤ h0.size) (hS : Wd Z h0 a_START a_READ a_UNREAD a_POWER_ON a_POWER_OFF a_HOLD_ON a_HOLD_OFF a_RELEASE a_SPAN_START a_SPAN_END a_ON a_OFF) :
    MetFree l (⟨"java/lang/Enum", "ordinal", "()I"⟩ : MethodName) (head1 (Jvm.Cond.code (⟨"java/lang/Enum", "ordinal", "()I"⟩ : MethodName) jdk_37_method_2_code 1 (some .int) :: ws) ({ frames := 0, cells := 0, slots := 0, locals := 0 } : Room)) (fun a U => a = #[(.ref a_HOLD_ON)] ∧ Z.Warmed39 U.vm ∧ U.heap = h0) (fun _ _ _ _ _ => True) (fun _ U o U' => ∃ v L, o = .returned v ∧ QP (some (.int (5 : Int32))) h0 n0 v U'.heap L ∧ FrameEnd U o U' L ({ frames := 0, cells := 0, slots := 0, locals := 0 } : Room).cells ({ frames := 0, cells := 0, slots := 0, locals := 0 } : Room).slots) := by
  refine MetFree.of_bodySF (plainFor_of_name pn_java_lang_Enum) hisR ?_
  intro p e s m args below meth c s₁ Bd hml0 hP hK
  obtain ⟨rfl, hZ, hh⟩ := hP
  have hx := Bd.exec
  have hby := Bd.bytes
  have hml : c.maxLocals = 1 := hml0
  have hown : s.vm.findClass "java/lang/Enum" = some m.cls := findClass_of_methodNamed Bd.named
  have X0 : Stand p l e ({ frames := 0, cells := 0, slots := 0, locals := 0 } : Room) s m #[(.ref a_HOLD_ON)] below meth c s₁ [] 0 0 := Stand.of_body Bd
  have e0 : s₁.heap = h0 := by rw [← hh, Bd.state]; rfl
  have N0 := Fr.nil n0
  have pre0 : ∀ t, Steps p.tables e below (s₁.setTop (mkF m 0 #[.val (.ref a_HOLD_ON)] [])) t → Steps p.tables e below (s₁.setTop (entryFrame m #[(.ref a_HOLD_ON)] 1)) t := fun t k => castTop (by first | (simp [entryFrame, mkF, argsToLocals, Value.category]; done) | rfl) k
  obtain ⟨S_START, E_START, S_READ, E_READ, S_UNREAD, E_UNREAD, S_POWER_ON, E_POWER_ON, S_POWER_OFF, E_POWER_OFF, S_HOLD_ON, E_HOLD_ON, S_HOLD_OFF, E_HOLD_OFF, S_RELEASE, E_RELEASE, S_SPAN_START, E_SPAN_START, S_SPAN_END, E_SPAN_END, S_ON, E_ON, S_OFF, E_OFF, F_START_ordinal, F_HOLD_ON_ordinal, F_HOLD_OFF_ordinal, F_RELEASE_ordinal, F_POWER_ON_ordinal, F_READ_ordinal, F_POWER_OFF_ordinal, F_UNREAD_ordinal, F_SPAN_START_ordinal, F_SPAN_END_ordinal, F_OFF_ordinal, F_ON_ordinal⟩ := id hS
  obtain ⟨T1, X1, e1, st1⟩ := getF X0 hx hZ hown (host := "") (Or.inl (hw _ (List.mem_of_getElem? (i := 45) rfl))) Via.refl e0 F_HOLD_ON_ordinal (g := (mkF m 1 #[.val (.ref a_HOLD_ON)] [(.ref a_HOLD_ON)])) rfl rfl (hb hby d3_1)
  obtain ⟨fs, hr, hrun, hended, hW, hsame⟩ := X1.leave (v := some (.int (5 : Int32))) (fun h => by rw [Bd.returns] at h; cases h)
  refine ⟨_, _, pre0 _ ?_, hrun, hended, _, _, rfl, ?_, ⟨_, rfl⟩, hW, hsame.mono (by decide) (by decide)⟩
  · show Steps p.tables e below (s₁.setTop (mkF m 0 #[.val (.ref a_HOLD_ON)] [])) _
    refine XS.aloadN X0.here hx rfl (hb hby d3_0) rfl rfl ?_
    show Steps p.tables e below (s₁.setTop (mkF m 1 #[.val (.ref a_HOLD_ON)] [(.ref a_HOLD_ON)])) _
    refine st1 _ ?_
    show Steps p.tables e below (T1.setTop (mkF m 4 #[.val (.ref a_HOLD_ON)] [(.int (5 : Int32))])) _
    exact own_retI X1 hx Bd.returns (hb hby d3_4) hr
  · exact ⟨rfl, N0, e1⟩
theorem d2_32 : decode prog_171_method_6_code 32 = .ok (.getstatic 58, 3) := by decide +kernel
theorem d2_35 : decode prog_171_method_6_code 35 = .ok (.goto 10, 3) := by decide +kernel
set_option maxRecDepth 65536 in
set_option maxHeartbeats 40000000 in
theorem rm2_24 (l : Launch) (Z : State) (a0 : Array Value) (hw : ∀ d ∈ tables_1, d.before a0 Z = true) (ws : List Jvm.Cond) (a_START : Addr) (a_READ : Addr) (a_UNREAD : Addr) (a_POWER_ON : Addr) (a_POWER_OFF : Addr) (a_HOLD_ON : Addr) (a_HOLD_OFF : Addr) (a_RELEASE : Addr) (a_SPAN_START : Addr) (a_SPAN_END : Addr) (a_ON : Addr) (a_OFF : Addr) (p1 : Int32) (h0 : Heap) (n0 : Nat) (Z0 : n0 ≤ h0.size) (hS : Wd Z h0 a_START a_READ a_UNREAD a_POWER_ON a_POWER_OFF a_HOLD_ON a_HOLD_OFF a_RELEASE a_SPAN_START a_SPAN_END a_ON a_OFF) :
    MetFree l (⟨"ebbtide/serve/History$Event", "hold", "()Lebbtide/serve/Hold;"⟩ : MethodName) (head1 (Jvm.Cond.code (⟨"ebbtide/serve/History$Event", "hold", "()Lebbtide/serve/Hold;"⟩ : MethodName) prog_171_method_6_code 1 (some (.object "ebbtide/serve/Hold")) :: ws) ({ frames := 1, cells := 0, slots := 0, locals := 12 } : Room)) (fun a U => a = #[(.ref a_HOLD_ON)] ∧ Z.Warmed39 U.vm ∧ U.heap = h0) (fun _ _ _ _ _ => True) (fun _ U o U' => ∃ v L, o = .returned v ∧ QP (some (.ref a_ON)) h0 n0 v U'.heap L ∧ FrameEnd U o U' L ({ frames := 1, cells := 0, slots := 0, locals := 12 } : Room).cells ({ frames := 1, cells := 0, slots := 0, locals := 12 } : Room).slots) := by
  refine MetFree.of_bodySF (plainFor_of_name pn_ebbtide_serve_History_Event) hisR ?_
  intro p e s m args below meth c s₁ Bd hml0 hP hK
  obtain ⟨rfl, hZ, hh⟩ := hP
  have hx := Bd.exec
  have hby := Bd.bytes
  have hml : c.maxLocals = 1 := hml0
  have hown : s.vm.findClass "ebbtide/serve/History$Event" = some m.cls := findClass_of_methodNamed Bd.named
  have X0 : Stand p l e ({ frames := 1, cells := 0, slots := 0, locals := 12 } : Room) s m #[(.ref a_HOLD_ON)] below meth c s₁ [] 0 0 := Stand.of_body Bd
  have e0 : s₁.heap = h0 := by rw [← hh, Bd.state]; rfl
  have N0 := Fr.nil n0
  have pre0 : ∀ t, Steps p.tables e below (s₁.setTop (mkF m 0 #[.val (.ref a_HOLD_ON)] [])) t → Steps p.tables e below (s₁.setTop (entryFrame m #[(.ref a_HOLD_ON)] 1)) t := fun t k => castTop (by first | (simp [entryFrame, mkF, argsToLocals, Value.category]; done) | rfl) k
  obtain ⟨S_START, E_START, S_READ, E_READ, S_UNREAD, E_UNREAD, S_POWER_ON, E_POWER_ON, S_POWER_OFF, E_POWER_OFF, S_HOLD_ON, E_HOLD_ON, S_HOLD_OFF, E_HOLD_OFF, S_RELEASE, E_RELEASE, S_SPAN_START, E_SPAN_START, S_SPAN_END, E_SPAN_END, S_ON, E_ON, S_OFF, E_OFF, F_START_ordinal, F_HOLD_ON_ordinal, F_HOLD_OFF_ordinal, F_RELEASE_ordinal, F_POWER_ON_ordinal, F_READ_ordinal, F_POWER_OFF_ordinal, F_UNREAD_ordinal, F_SPAN_START_ordinal, F_SPAN_END_ordinal, F_OFF_ordinal, F_ON_ordinal⟩ := id hS
  obtain ⟨cq1, kq1, q1a, q1b, q1c⟩ := isOf hZ e0 E_HOLD_ON
  obtain ⟨_, _, ⟨T1, L1, k1, n1⟩, -, X1, ⟨Lc1, hQ1, l1, y1, z1⟩, st1⟩ := X0.virtualBackUp hx (owner := "java/lang/Enum") (x := (⟨"ebbtide/serve/History$Event", "ordinal", "()I"⟩ : MethodName)) (y := (⟨"java/lang/Enum", "ordinal", "()I"⟩ : MethodName)) hown (mvT hZ (hw _ (List.mem_of_getElem? (i := 38) rfl))) (mvT hZ (hw _ (List.mem_of_getElem? (i := 39) rfl))) (mvT hZ (hw _ (List.mem_of_getElem? (i := 40) rfl))) (by decide) (mvT hZ (hw _ (List.mem_of_getElem? (i := 42) rfl))) (mvT hZ (hw _ (List.mem_of_getElem? (i := 41) rfl))) (backOf (W := 0) (rm3_25 l Z a0 hw [] a_START a_READ a_UNREAD a_POWER_ON a_POWER_OFF a_HOLD_ON a_HOLD_OFF a_RELEASE a_SPAN_START a_SPAN_END a_ON a_OFF p1 h0 n0 Z0 hS) hZ (hw _ (List.mem_of_getElem? (i := 44) rfl)) (hw _ (List.mem_of_getElem? (i := 43) rfl)) (by decide) (by decide)) q1a q1c (g := (mkF m 1 #[.val (.ref a_HOLD_ON)] [(.ref a_HOLD_ON)])) rfl (by rw [hml]; rfl) (Steps.refl _) (argsL := []) (rest := []) (lenOf pd_1 rfl) rfl (by show 2 * 0 + _ ≤ _; exact Nat.le_of_eq rfl) (hb hby d2_1) (fun _ _ => ⟨rfl, e0, (by decide : 0 + 0 ≤ _), (by decide : 0 + 0 ≤ _)⟩)
  dsimp only [Pt.U, Pt.locs, Pt.cells, Pt.slots] at X1 l1 y1 z1 st1 hQ1
  subst l1 y1 z1
  obtain ⟨rfl, N1q, e1⟩ := hQ1
  have N1 := Fr.app N0 N1q
  obtain ⟨T2, X2, e2, st2⟩ := getS2 X1 hx hZ hown (host := "") (Or.inl (hw _ (List.mem_of_getElem? (i := 50) rfl))) Via.refl e1 S_ON (g := (mkF m 32 #[.val (.ref a_HOLD_ON)] [])) rfl (hb hby d2_32)
  obtain ⟨fs, hr, hrun, hended, hW, hsame⟩ := X2.leave (v := some (.ref a_ON)) (fun h => by rw [Bd.returns] at h; cases h)
  refine ⟨_, _, pre0 _ ?_, hrun, hended, _, _, rfl, ?_, ⟨_, rfl⟩, hW, hsame.mono (by decide) (by decide)⟩
  · show Steps p.tables e below (s₁.setTop (mkF m 0 #[.val (.ref a_HOLD_ON)] [])) _
    refine XS.aloadN X0.here hx rfl (hb hby d2_0) rfl rfl ?_
    show Steps p.tables e below (s₁.setTop (mkF m 1 #[.val (.ref a_HOLD_ON)] [(.ref a_HOLD_ON)])) _
    refine st1.trans ?_
    show Steps p.tables e below (T1.setTop (mkF m 4 #[.val (.ref a_HOLD_ON)] [(.int (5 : Int32))])) _
    refine X1.lookupswitchHit hx (g := (mkF m 4 #[.val (.ref a_HOLD_ON)] [(.int (5 : Int32))])) rfl rfl (hb hby d2_4) (by decide) (a := 5) (off := 28) (by first | decide | rfl | (simp; done)) (by show (0 : Int) ≤ ((4 : Nat) : Int) + 28; decide) _ ?_
    show Steps p.tables e below (T1.setTop (mkF m 32 #[.val (.ref a_HOLD_ON)] [])) _
    refine st2 _ ?_
    show Steps p.tables e below (T2.setTop (mkF m 35 #[.val (.ref a_HOLD_ON)] [(.ref a_ON)])) _
    refine XS.goto X2.here hx rfl (pc0 := 35) (pc' := 45) rfl (hb hby d2_35) (by decide) (by decide) ?_
    show Steps p.tables e below (T2.setTop (mkF m 45 #[.val (.ref a_HOLD_ON)] [(.ref a_ON)])) _
    exact own_retA X2 hx Bd.returns rfl rfl (hb hby d2_45) hr
  · exact ⟨rfl, N1, e2⟩
theorem d4_8 : decode prog_171_method_5_code 8 = .ok (.aload_n 0, 1) := by decide +kernel
theorem d4_9 : decode prog_171_method_5_code 9 = .ok (.getstatic 58, 3) := by decide +kernel
theorem d4_12 : decode prog_171_method_5_code 12 = .ok (.if_acmp .ne 9, 3) := by decide +kernel
theorem d4_15 : decode prog_171_method_5_code 15 = .ok (.getstatic 19, 3) := by decide +kernel
theorem d4_18 : decode prog_171_method_5_code 18 = .ok (.goto 6, 3) := by decide +kernel
theorem d4_24 : decode prog_171_method_5_code 24 = .ok (.areturn, 1) := by decide +kernel
set_option maxRecDepth 65536 in
set_option maxHeartbeats 40000000 in
theorem rm4_26 (l : Launch) (Z : State) (a0 : Array Value) (hw : ∀ d ∈ tables_1, d.before a0 Z = true) (ws : List Jvm.Cond) (a_START : Addr) (a_READ : Addr) (a_UNREAD : Addr) (a_POWER_ON : Addr) (a_POWER_OFF : Addr) (a_HOLD_ON : Addr) (a_HOLD_OFF : Addr) (a_RELEASE : Addr) (a_SPAN_START : Addr) (a_SPAN_END : Addr) (a_ON : Addr) (a_OFF : Addr) (p1 : Int32) (h0 : Heap) (n0 : Nat) (Z0 : n0 ≤ h0.size) (hS : Wd Z h0 a_START a_READ a_UNREAD a_POWER_ON a_POWER_OFF a_HOLD_ON a_HOLD_OFF a_RELEASE a_SPAN_START a_SPAN_END a_ON a_OFF) :
    MetFree l (⟨"ebbtide/serve/History$Event", "of", "(Lebbtide/serve/Hold;)Lebbtide/serve/History$Event;"⟩ : MethodName) (head1 (Jvm.Cond.code (⟨"ebbtide/serve/History$Event", "of", "(Lebbtide/serve/Hold;)Lebbtide/serve/History$Event;"⟩ : MethodName) prog_171_method_5_code 1 (some (.object "ebbtide/serve/History$Event")) :: ws) ({ frames := 0, cells := 0, slots := 0, locals := 0 } : Room)) (fun a U => a = #[(.ref a_ON)] ∧ Z.Warmed39 U.vm ∧ U.heap = h0) (fun _ _ _ _ _ => True) (fun _ U o U' => ∃ v L, o = .returned v ∧ QP (some (.ref a_HOLD_ON)) h0 n0 v U'.heap L ∧ FrameEnd U o U' L ({ frames := 0, cells := 0, slots := 0, locals := 0 } : Room).cells ({ frames := 0, cells := 0, slots := 0, locals := 0 } : Room).slots) := by
  refine MetFree.of_bodySF (plainFor_of_name pn_ebbtide_serve_History_Event) hisR ?_
  intro p e s m args below meth c s₁ Bd hml0 hP hK
  obtain ⟨rfl, hZ, hh⟩ := hP
  have hx := Bd.exec
  have hby := Bd.bytes
  have hml : c.maxLocals = 1 := hml0
  have hown : s.vm.findClass "ebbtide/serve/History$Event" = some m.cls := findClass_of_methodNamed Bd.named
  have X0 : Stand p l e ({ frames := 0, cells := 0, slots := 0, locals := 0 } : Room) s m #[(.ref a_ON)] below meth c s₁ [] 0 0 := Stand.of_body Bd
  have e0 : s₁.heap = h0 := by rw [← hh, Bd.state]; rfl
  have N0 := Fr.nil n0
  have pre0 : ∀ t, Steps p.tables e below (s₁.setTop (mkF m 0 #[.val (.ref a_ON)] [])) t → Steps p.tables e below (s₁.setTop (entryFrame m #[(.ref a_ON)] 1)) t := fun t k => castTop (by first | (simp [entryFrame, mkF, argsToLocals, Value.category]; done) | rfl) k
  obtain ⟨S_START, E_START, S_READ, E_READ, S_UNREAD, E_UNREAD, S_POWER_ON, E_POWER_ON, S_POWER_OFF, E_POWER_OFF, S_HOLD_ON, E_HOLD_ON, S_HOLD_OFF, E_HOLD_OFF, S_RELEASE, E_RELEASE, S_SPAN_START, E_SPAN_START, S_SPAN_END, E_SPAN_END, S_ON, E_ON, S_OFF, E_OFF, F_START_ordinal, F_HOLD_ON_ordinal, F_HOLD_OFF_ordinal, F_RELEASE_ordinal, F_POWER_ON_ordinal, F_READ_ordinal, F_POWER_OFF_ordinal, F_UNREAD_ordinal, F_SPAN_START_ordinal, F_SPAN_END_ordinal, F_OFF_ordinal, F_ON_ordinal⟩ := id hS
  obtain ⟨T1, X1, e1, st1⟩ := getS2 X0 hx hZ hown (host := "") (Or.inl (hw _ (List.mem_of_getElem? (i := 50) rfl))) Via.refl e0 S_ON (g := (mkF m 9 #[.val (.ref a_ON)] [(.ref a_ON)])) rfl (hb hby d4_9)
  obtain ⟨T2, X2, e2, st2⟩ := getS2 X1 hx hZ hown (host := "") (Or.inl (hw _ (List.mem_of_getElem? (i := 30) rfl))) Via.refl e1 S_HOLD_ON (g := (mkF m 15 #[.val (.ref a_ON)] [])) rfl (hb hby d4_15)
  obtain ⟨fs, hr, hrun, hended, hW, hsame⟩ := X2.leave (v := some (.ref a_HOLD_ON)) (fun h => by rw [Bd.returns] at h; cases h)
  refine ⟨_, _, pre0 _ ?_, hrun, hended, _, _, rfl, ?_, ⟨_, rfl⟩, hW, hsame.mono (by decide) (by decide)⟩
  · show Steps p.tables e below (s₁.setTop (mkF m 0 #[.val (.ref a_ON)] [])) _
    refine XS.aloadN X0.here hx rfl (hb hby d4_0) rfl rfl ?_
    show Steps p.tables e below (s₁.setTop (mkF m 1 #[.val (.ref a_ON)] [(.ref a_ON)])) _
    refine XS.ifnonnullYes X0.here hx rfl (pc0 := 1) (pc' := 8) rfl (hb hby d4_1) rfl (by decide) (by decide) ?_
    show Steps p.tables e below (s₁.setTop (mkF m 8 #[.val (.ref a_ON)] [])) _
    refine XS.aloadN X0.here hx rfl (hb hby d4_8) rfl rfl ?_
    show Steps p.tables e below (s₁.setTop (mkF m 9 #[.val (.ref a_ON)] [(.ref a_ON)])) _
    refine st1 _ ?_
    show Steps p.tables e below (T1.setTop (mkF m 12 #[.val (.ref a_ON)] [(.ref a_ON), (.ref a_ON)])) _
    refine Jvm.RoadKit.acmp (g := (mkF m 12 #[.val (.ref a_ON)] [(.ref a_ON), (.ref a_ON)])) X1 hx rfl rfl rfl (pc0 := 12) (pc' := 15) (same := true) rfl (hb hby d4_12) rfl (decide_eq_true rfl) (by decide) (by decide) ?_
    show Steps p.tables e below (T1.setTop (mkF m 15 #[.val (.ref a_ON)] [])) _
    refine st2 _ ?_
    show Steps p.tables e below (T2.setTop (mkF m 18 #[.val (.ref a_ON)] [(.ref a_HOLD_ON)])) _
    refine XS.goto X2.here hx rfl (pc0 := 18) (pc' := 24) rfl (hb hby d4_18) (by decide) (by decide) ?_
    show Steps p.tables e below (T2.setTop (mkF m 24 #[.val (.ref a_ON)] [(.ref a_HOLD_ON)])) _
    exact own_retA X2 hx Bd.returns rfl rfl (hb hby d4_24) hr
  · exact ⟨rfl, N0, e2⟩
set_option maxRecDepth 65536 in
set_option maxHeartbeats 40000000 in
theorem rm0_22 (l : Launch) (Z : State) (a0 : Array Value) (hw : ∀ d ∈ tables_1, d.before a0 Z = true) (ws : List Jvm.Cond) (a_START : Addr) (a_READ : Addr) (a_UNREAD : Addr) (a_POWER_ON : Addr) (a_POWER_OFF : Addr) (a_HOLD_ON : Addr) (a_HOLD_OFF : Addr) (a_RELEASE : Addr) (a_SPAN_START : Addr) (a_SPAN_END : Addr) (a_ON : Addr) (a_OFF : Addr) (p1 : Int32) (h0 : Heap) (n0 : Nat) (Z0 : n0 ≤ h0.size) (hS : Wd Z h0 a_START a_READ a_UNREAD a_POWER_ON a_POWER_OFF a_HOLD_ON a_HOLD_OFF a_RELEASE a_SPAN_START a_SPAN_END a_ON a_OFF) (hi : ((p1 &&& (2147483647 : Int32)) % (10 : Int32)) = (5 : Int32)) :
    MetFree l x (head1 (Jvm.Cond.code x code maxLocals ret :: ws) room_1) (fun a U => a = #[(.int p1)] ∧ Z.Warmed39 U.vm ∧ U.heap = h0) (fun _ _ _ _ _ => True) (fun _ U o U' => ∃ v L, o = .returned v ∧ Q0 n0 v L ∧ FrameEnd U o U' L room_1.cells room_1.slots) := by
  refine MetFree.of_bodySF (plainFor_of_name pn_ebbtide_serve_HistoryHoldsPinLaw) hisR ?_
  intro p e s m args below meth c s₁ Bd hml0 hP hK
  obtain ⟨rfl, hZ, hh⟩ := hP
  have hx := Bd.exec
  have hby := Bd.bytes
  have hml : c.maxLocals = 6 := hml0
  have hown : s.vm.findClass "ebbtide/serve/HistoryHoldsPinLaw" = some m.cls := findClass_of_methodNamed Bd.named
  have X0 : Stand p l e room_1 s m #[(.int p1)] below meth c s₁ [] 0 0 := Stand.of_body Bd
  have e0 : s₁.heap = h0 := by rw [← hh, Bd.state]; rfl
  have N0 := Fr.nil n0
  have pre0 : ∀ t, Steps p.tables e below (s₁.setTop (mkF m 0 #[.val (.int p1), .unset, .unset, .unset, .unset, .unset] [])) t → Steps p.tables e below (s₁.setTop (entryFrame m #[(.int p1)] maxLocals)) t := fun t k => castTop (by first | (simp [entryFrame, mkF, argsToLocals, Value.category, maxLocals]; done) | rfl) k
  obtain ⟨S_START, E_START, S_READ, E_READ, S_UNREAD, E_UNREAD, S_POWER_ON, E_POWER_ON, S_POWER_OFF, E_POWER_OFF, S_HOLD_ON, E_HOLD_ON, S_HOLD_OFF, E_HOLD_OFF, S_RELEASE, E_RELEASE, S_SPAN_START, E_SPAN_START, S_SPAN_END, E_SPAN_END, S_ON, E_ON, S_OFF, E_OFF, F_START_ordinal, F_HOLD_ON_ordinal, F_HOLD_OFF_ordinal, F_RELEASE_ordinal, F_POWER_ON_ordinal, F_READ_ordinal, F_POWER_OFF_ordinal, F_UNREAD_ordinal, F_SPAN_START_ordinal, F_SPAN_END_ordinal, F_OFF_ordinal, F_ON_ordinal⟩ := id hS
  obtain ⟨T1, h1, k1, X1, e1, E1, A1, O1, st1⟩ := newR X0 hx hZ hown (hw _ (List.mem_of_getElem? (i := 0) rfl)) (hw _ (List.mem_of_getElem? (i := 1) rfl)) e0 (g := (mkF m 2 #[.val (.int p1), .unset, .unset, .unset, .unset, .unset] [(.int (10 : Int32))])) rfl (hb hby at_2) rfl (by decide) (cap := 10) (by decide) (by decide) (by decide) (by decide)
  obtain ⟨b1, g1⟩ : ∃ z, z = h0.size := ⟨_, rfl⟩
  rw [← g1] at A1 st1
  have V1 : Arv Z h1 b1 k1 (.object "ebbtide/serve/History$Event") (10 : Int32) [.null, .null, .null, .null, .null, .null, .null, .null, .null, .null] .null := (Arv.new A1 (by decide)).pad (pad_rep [] .null 10)
  have K1 : Keep h0 h1 [] := (Keep.refl h0 []).ext E1
  have sz_b1 : h0.size ≤ b1 := Nat.le_trans (Keep.refl h0 []).1 (Nat.le_of_eq g1.symm)
  have gz_b1 : n0 ≤ b1 := Nat.le_trans Z0 sz_b1
  obtain ⟨T2, X2, e2, st2⟩ := getS2 X1 hx hZ hown (host := "") (Or.inl (hw _ (List.mem_of_getElem? (i := 2) rfl))) Via.refl e1 (own_sk S_START K1) (g := (mkF m 7 #[.val (.int p1), .unset, .unset, .unset, .unset, .unset] [(.int (0 : Int32)), (.ref b1), (.ref b1)])) rfl (hb hby at_7)
  obtain ⟨cl3, Ar3, qq3, Sz3, Ng3, Hs3, Gf3⟩ := V1
  have hin3 : ¬ ((0 : Int32) < 0 ∨ cl3.slots.size ≤ ((0 : Int32)).toNatClampNeg) := inb_of Sz3 ⟨by decide, by decide⟩
  obtain ⟨T4, h4, X4, e4, W4, st4⟩ := stR X2 hx hZ e2 Ar3 (j := (0 : Int32)) hin3 rfl (Sto.ofV Ar3 qq3 O1 (Ins.self (E_START.keep K1))) (g := (mkF m 10 #[.val (.int p1), .unset, .unset, .unset, .unset, .unset] [(.ref a_START), (.int (0 : Int32)), (.ref b1), (.ref b1)])) rfl rfl (hb hby at_10)
  have V4 : Arv Z h4 b1 k1 (.object "ebbtide/serve/History$Event") (10 : Int32) [(.ref a_START), .null, .null, .null, .null, .null, .null, .null, .null, .null] .null := Arv.set Ar3 qq3 Sz3 Ng3 Hs3 Gf3 rfl W4 0 rfl (Nat.le_of_ble_eq_true rfl)
  have K4 : Keep h0 h4 [] := K1.wr W4 (Or.inr sz_b1)
  have N4 := Fr.snoc X4 N0 gz_b1
  obtain ⟨T5, X5, e5, st5⟩ := getS2 X4 hx hZ hown (host := "") (Or.inl (hw _ (List.mem_of_getElem? (i := 6) rfl))) Via.refl e4 (own_sk S_READ K4) (g := (mkF m 13 #[.val (.int p1), .unset, .unset, .unset, .unset, .unset] [(.int (1 : Int32)), (.ref b1), (.ref b1)])) rfl (hb hby at_13)
  obtain ⟨cl6, Ar6, qq6, Sz6, Ng6, Hs6, Gf6⟩ := V4
  have hin6 : ¬ ((1 : Int32) < 0 ∨ cl6.slots.size ≤ ((1 : Int32)).toNatClampNeg) := inb_of Sz6 ⟨by decide, by decide⟩
  obtain ⟨T7, h7, X7, e7, W7, st7⟩ := stR X5 hx hZ e5 Ar6 (j := (1 : Int32)) hin6 rfl (Sto.ofV Ar6 qq6 O1 (Ins.self (E_READ.keep K4))) (g := (mkF m 16 #[.val (.int p1), .unset, .unset, .unset, .unset, .unset] [(.ref a_READ), (.int (1 : Int32)), (.ref b1), (.ref b1)])) rfl rfl (hb hby at_16)
  have V7 : Arv Z h7 b1 k1 (.object "ebbtide/serve/History$Event") (10 : Int32) [(.ref a_START), (.ref a_READ), .null, .null, .null, .null, .null, .null, .null, .null] .null := Arv.set Ar6 qq6 Sz6 Ng6 Hs6 Gf6 rfl W7 1 rfl (Nat.le_of_ble_eq_true rfl)
  have K7 : Keep h0 h7 [] := K4.wr W7 (Or.inr sz_b1)
  have N7 := Fr.snoc X7 N4 gz_b1
  obtain ⟨T8, X8, e8, st8⟩ := getS2 X7 hx hZ hown (host := "") (Or.inl (hw _ (List.mem_of_getElem? (i := 8) rfl))) Via.refl e7 (own_sk S_UNREAD K7) (g := (mkF m 19 #[.val (.int p1), .unset, .unset, .unset, .unset, .unset] [(.int (2 : Int32)), (.ref b1), (.ref b1)])) rfl (hb hby at_19)
  obtain ⟨cl9, Ar9, qq9, Sz9, Ng9, Hs9, Gf9⟩ := V7
  have hin9 : ¬ ((2 : Int32) < 0 ∨ cl9.slots.size ≤ ((2 : Int32)).toNatClampNeg) := inb_of Sz9 ⟨by decide, by decide⟩
  obtain ⟨T10, h10, X10, e10, W10, st10⟩ := stR X8 hx hZ e8 Ar9 (j := (2 : Int32)) hin9 rfl (Sto.ofV Ar9 qq9 O1 (Ins.self (E_UNREAD.keep K7))) (g := (mkF m 22 #[.val (.int p1), .unset, .unset, .unset, .unset, .unset] [(.ref a_UNREAD), (.int (2 : Int32)), (.ref b1), (.ref b1)])) rfl rfl (hb hby at_22)
  have V10 : Arv Z h10 b1 k1 (.object "ebbtide/serve/History$Event") (10 : Int32) [(.ref a_START), (.ref a_READ), (.ref a_UNREAD), .null, .null, .null, .null, .null, .null, .null] .null := Arv.set Ar9 qq9 Sz9 Ng9 Hs9 Gf9 rfl W10 2 rfl (Nat.le_of_ble_eq_true rfl)
  have K10 : Keep h0 h10 [] := K7.wr W10 (Or.inr sz_b1)
  have N10 := Fr.snoc X10 N7 gz_b1
  obtain ⟨T11, X11, e11, st11⟩ := getS2 X10 hx hZ hown (host := "") (Or.inl (hw _ (List.mem_of_getElem? (i := 10) rfl))) Via.refl e10 (own_sk S_POWER_ON K10) (g := (mkF m 25 #[.val (.int p1), .unset, .unset, .unset, .unset, .unset] [(.int (3 : Int32)), (.ref b1), (.ref b1)])) rfl (hb hby at_25)
  obtain ⟨cl12, Ar12, qq12, Sz12, Ng12, Hs12, Gf12⟩ := V10
  have hin12 : ¬ ((3 : Int32) < 0 ∨ cl12.slots.size ≤ ((3 : Int32)).toNatClampNeg) := inb_of Sz12 ⟨by decide, by decide⟩
  obtain ⟨T13, h13, X13, e13, W13, st13⟩ := stR X11 hx hZ e11 Ar12 (j := (3 : Int32)) hin12 rfl (Sto.ofV Ar12 qq12 O1 (Ins.self (E_POWER_ON.keep K10))) (g := (mkF m 28 #[.val (.int p1), .unset, .unset, .unset, .unset, .unset] [(.ref a_POWER_ON), (.int (3 : Int32)), (.ref b1), (.ref b1)])) rfl rfl (hb hby at_28)
  have V13 : Arv Z h13 b1 k1 (.object "ebbtide/serve/History$Event") (10 : Int32) [(.ref a_START), (.ref a_READ), (.ref a_UNREAD), (.ref a_POWER_ON), .null, .null, .null, .null, .null, .null] .null := Arv.set Ar12 qq12 Sz12 Ng12 Hs12 Gf12 rfl W13 3 rfl (Nat.le_of_ble_eq_true rfl)
  have K13 : Keep h0 h13 [] := K10.wr W13 (Or.inr sz_b1)
  have N13 := Fr.snoc X13 N10 gz_b1
  obtain ⟨T14, X14, e14, st14⟩ := getS2 X13 hx hZ hown (host := "") (Or.inl (hw _ (List.mem_of_getElem? (i := 12) rfl))) Via.refl e13 (own_sk S_POWER_OFF K13) (g := (mkF m 31 #[.val (.int p1), .unset, .unset, .unset, .unset, .unset] [(.int (4 : Int32)), (.ref b1), (.ref b1)])) rfl (hb hby at_31)
  obtain ⟨cl15, Ar15, qq15, Sz15, Ng15, Hs15, Gf15⟩ := V13
  have hin15 : ¬ ((4 : Int32) < 0 ∨ cl15.slots.size ≤ ((4 : Int32)).toNatClampNeg) := inb_of Sz15 ⟨by decide, by decide⟩
  obtain ⟨T16, h16, X16, e16, W16, st16⟩ := stR X14 hx hZ e14 Ar15 (j := (4 : Int32)) hin15 rfl (Sto.ofV Ar15 qq15 O1 (Ins.self (E_POWER_OFF.keep K13))) (g := (mkF m 34 #[.val (.int p1), .unset, .unset, .unset, .unset, .unset] [(.ref a_POWER_OFF), (.int (4 : Int32)), (.ref b1), (.ref b1)])) rfl rfl (hb hby at_34)
  have V16 : Arv Z h16 b1 k1 (.object "ebbtide/serve/History$Event") (10 : Int32) [(.ref a_START), (.ref a_READ), (.ref a_UNREAD), (.ref a_POWER_ON), (.ref a_POWER_OFF), .null, .null, .null, .null, .null] .null := Arv.set Ar15 qq15 Sz15 Ng15 Hs15 Gf15 rfl W16 4 rfl (Nat.le_of_ble_eq_true rfl)
  have K16 : Keep h0 h16 [] := K13.wr W16 (Or.inr sz_b1)
  have N16 := Fr.snoc X16 N13 gz_b1
  obtain ⟨T17, X17, e17, st17⟩ := getS2 X16 hx hZ hown (host := "") (Or.inl (hw _ (List.mem_of_getElem? (i := 14) rfl))) Via.refl e16 (own_sk S_HOLD_ON K16) (g := (mkF m 37 #[.val (.int p1), .unset, .unset, .unset, .unset, .unset] [(.int (5 : Int32)), (.ref b1), (.ref b1)])) rfl (hb hby at_37)
  obtain ⟨cl18, Ar18, qq18, Sz18, Ng18, Hs18, Gf18⟩ := V16
  have hin18 : ¬ ((5 : Int32) < 0 ∨ cl18.slots.size ≤ ((5 : Int32)).toNatClampNeg) := inb_of Sz18 ⟨by decide, by decide⟩
  obtain ⟨T19, h19, X19, e19, W19, st19⟩ := stR X17 hx hZ e17 Ar18 (j := (5 : Int32)) hin18 rfl (Sto.ofV Ar18 qq18 O1 (Ins.self (E_HOLD_ON.keep K16))) (g := (mkF m 40 #[.val (.int p1), .unset, .unset, .unset, .unset, .unset] [(.ref a_HOLD_ON), (.int (5 : Int32)), (.ref b1), (.ref b1)])) rfl rfl (hb hby at_40)
  have V19 : Arv Z h19 b1 k1 (.object "ebbtide/serve/History$Event") (10 : Int32) [(.ref a_START), (.ref a_READ), (.ref a_UNREAD), (.ref a_POWER_ON), (.ref a_POWER_OFF), (.ref a_HOLD_ON), .null, .null, .null, .null] .null := Arv.set Ar18 qq18 Sz18 Ng18 Hs18 Gf18 rfl W19 5 rfl (Nat.le_of_ble_eq_true rfl)
  have K19 : Keep h0 h19 [] := K16.wr W19 (Or.inr sz_b1)
  have N19 := Fr.snoc X19 N16 gz_b1
  obtain ⟨T20, X20, e20, st20⟩ := getS2 X19 hx hZ hown (host := "") (Or.inl (hw _ (List.mem_of_getElem? (i := 16) rfl))) Via.refl e19 (own_sk S_HOLD_OFF K19) (g := (mkF m 44 #[.val (.int p1), .unset, .unset, .unset, .unset, .unset] [(.int (6 : Int32)), (.ref b1), (.ref b1)])) rfl (hb hby at_44)
  obtain ⟨cl21, Ar21, qq21, Sz21, Ng21, Hs21, Gf21⟩ := V19
  have hin21 : ¬ ((6 : Int32) < 0 ∨ cl21.slots.size ≤ ((6 : Int32)).toNatClampNeg) := inb_of Sz21 ⟨by decide, by decide⟩
  obtain ⟨T22, h22, X22, e22, W22, st22⟩ := stR X20 hx hZ e20 Ar21 (j := (6 : Int32)) hin21 rfl (Sto.ofV Ar21 qq21 O1 (Ins.self (E_HOLD_OFF.keep K19))) (g := (mkF m 47 #[.val (.int p1), .unset, .unset, .unset, .unset, .unset] [(.ref a_HOLD_OFF), (.int (6 : Int32)), (.ref b1), (.ref b1)])) rfl rfl (hb hby at_47)
  have V22 : Arv Z h22 b1 k1 (.object "ebbtide/serve/History$Event") (10 : Int32) [(.ref a_START), (.ref a_READ), (.ref a_UNREAD), (.ref a_POWER_ON), (.ref a_POWER_OFF), (.ref a_HOLD_ON), (.ref a_HOLD_OFF), .null, .null, .null] .null := Arv.set Ar21 qq21 Sz21 Ng21 Hs21 Gf21 rfl W22 6 rfl (Nat.le_of_ble_eq_true rfl)
  have K22 : Keep h0 h22 [] := K19.wr W22 (Or.inr sz_b1)
  have N22 := Fr.snoc X22 N19 gz_b1
  obtain ⟨T23, X23, e23, st23⟩ := getS2 X22 hx hZ hown (host := "") (Or.inl (hw _ (List.mem_of_getElem? (i := 18) rfl))) Via.refl e22 (own_sk S_RELEASE K22) (g := (mkF m 51 #[.val (.int p1), .unset, .unset, .unset, .unset, .unset] [(.int (7 : Int32)), (.ref b1), (.ref b1)])) rfl (hb hby at_51)
  obtain ⟨cl24, Ar24, qq24, Sz24, Ng24, Hs24, Gf24⟩ := V22
  have hin24 : ¬ ((7 : Int32) < 0 ∨ cl24.slots.size ≤ ((7 : Int32)).toNatClampNeg) := inb_of Sz24 ⟨by decide, by decide⟩
  obtain ⟨T25, h25, X25, e25, W25, st25⟩ := stR X23 hx hZ e23 Ar24 (j := (7 : Int32)) hin24 rfl (Sto.ofV Ar24 qq24 O1 (Ins.self (E_RELEASE.keep K22))) (g := (mkF m 54 #[.val (.int p1), .unset, .unset, .unset, .unset, .unset] [(.ref a_RELEASE), (.int (7 : Int32)), (.ref b1), (.ref b1)])) rfl rfl (hb hby at_54)
  have V25 : Arv Z h25 b1 k1 (.object "ebbtide/serve/History$Event") (10 : Int32) [(.ref a_START), (.ref a_READ), (.ref a_UNREAD), (.ref a_POWER_ON), (.ref a_POWER_OFF), (.ref a_HOLD_ON), (.ref a_HOLD_OFF), (.ref a_RELEASE), .null, .null] .null := Arv.set Ar24 qq24 Sz24 Ng24 Hs24 Gf24 rfl W25 7 rfl (Nat.le_of_ble_eq_true rfl)
  have K25 : Keep h0 h25 [] := K22.wr W25 (Or.inr sz_b1)
  have N25 := Fr.snoc X25 N22 gz_b1
  obtain ⟨T26, X26, e26, st26⟩ := getS2 X25 hx hZ hown (host := "") (Or.inl (hw _ (List.mem_of_getElem? (i := 20) rfl))) Via.refl e25 (own_sk S_SPAN_START K25) (g := (mkF m 58 #[.val (.int p1), .unset, .unset, .unset, .unset, .unset] [(.int (8 : Int32)), (.ref b1), (.ref b1)])) rfl (hb hby at_58)
  obtain ⟨cl27, Ar27, qq27, Sz27, Ng27, Hs27, Gf27⟩ := V25
  have hin27 : ¬ ((8 : Int32) < 0 ∨ cl27.slots.size ≤ ((8 : Int32)).toNatClampNeg) := inb_of Sz27 ⟨by decide, by decide⟩
  obtain ⟨T28, h28, X28, e28, W28, st28⟩ := stR X26 hx hZ e26 Ar27 (j := (8 : Int32)) hin27 rfl (Sto.ofV Ar27 qq27 O1 (Ins.self (E_SPAN_START.keep K25))) (g := (mkF m 61 #[.val (.int p1), .unset, .unset, .unset, .unset, .unset] [(.ref a_SPAN_START), (.int (8 : Int32)), (.ref b1), (.ref b1)])) rfl rfl (hb hby at_61)
  have V28 : Arv Z h28 b1 k1 (.object "ebbtide/serve/History$Event") (10 : Int32) [(.ref a_START), (.ref a_READ), (.ref a_UNREAD), (.ref a_POWER_ON), (.ref a_POWER_OFF), (.ref a_HOLD_ON), (.ref a_HOLD_OFF), (.ref a_RELEASE), (.ref a_SPAN_START), .null] .null := Arv.set Ar27 qq27 Sz27 Ng27 Hs27 Gf27 rfl W28 8 rfl (Nat.le_of_ble_eq_true rfl)
  have K28 : Keep h0 h28 [] := K25.wr W28 (Or.inr sz_b1)
  have N28 := Fr.snoc X28 N25 gz_b1
  obtain ⟨T29, X29, e29, st29⟩ := getS2 X28 hx hZ hown (host := "") (Or.inl (hw _ (List.mem_of_getElem? (i := 22) rfl))) Via.refl e28 (own_sk S_SPAN_END K28) (g := (mkF m 65 #[.val (.int p1), .unset, .unset, .unset, .unset, .unset] [(.int (9 : Int32)), (.ref b1), (.ref b1)])) rfl (hb hby at_65)
  obtain ⟨cl30, Ar30, qq30, Sz30, Ng30, Hs30, Gf30⟩ := V28
  have hin30 : ¬ ((9 : Int32) < 0 ∨ cl30.slots.size ≤ ((9 : Int32)).toNatClampNeg) := inb_of Sz30 ⟨by decide, by decide⟩
  obtain ⟨T31, h31, X31, e31, W31, st31⟩ := stR X29 hx hZ e29 Ar30 (j := (9 : Int32)) hin30 rfl (Sto.ofV Ar30 qq30 O1 (Ins.self (E_SPAN_END.keep K28))) (g := (mkF m 68 #[.val (.int p1), .unset, .unset, .unset, .unset, .unset] [(.ref a_SPAN_END), (.int (9 : Int32)), (.ref b1), (.ref b1)])) rfl rfl (hb hby at_68)
  have V31 : Arv Z h31 b1 k1 (.object "ebbtide/serve/History$Event") (10 : Int32) [(.ref a_START), (.ref a_READ), (.ref a_UNREAD), (.ref a_POWER_ON), (.ref a_POWER_OFF), (.ref a_HOLD_ON), (.ref a_HOLD_OFF), (.ref a_RELEASE), (.ref a_SPAN_START), (.ref a_SPAN_END)] .null := Arv.set Ar30 qq30 Sz30 Ng30 Hs30 Gf30 rfl W31 9 rfl (Nat.le_of_ble_eq_true rfl)
  have K31 : Keep h0 h31 [] := K28.wr W31 (Or.inr sz_b1)
  have N31 := Fr.snoc X31 N28 gz_b1
  obtain ⟨cl32, Ar32, qq32, Sz32, Ng32, Hs32, Gf32⟩ := V31
  have hin32 : ¬ ((5 : Int32) < 0 ∨ cl32.slots.size ≤ ((5 : Int32)).toNatClampNeg) := inb_of Sz32 ⟨by decide, by decide⟩
  have hat32 : cl32.slots[((5 : Int32)).toNatClampNeg]? = some (.ref a_HOLD_ON) := Hs32.at hin32 rfl
  obtain ⟨cq33, kq33, q33a, q33b, q33c⟩ := isOf hZ e31 (E_HOLD_ON.keep K31)
  obtain ⟨_, _, ⟨T33, L33, k33, n33⟩, -, X33, ⟨Lc33, hQ33, l33, y33, z33⟩, st33⟩ := X31.virtualBack hx (y := (⟨"ebbtide/serve/History$Event", "holds", "()Z"⟩ : MethodName)) (z := (⟨"ebbtide/serve/History$Event", "holds", "()Z"⟩ : MethodName)) hown (mvT hZ (hw _ (List.mem_of_getElem? (i := 25) rfl))) (mvT hZ (hw _ (List.mem_of_getElem? (i := 26) rfl))) (notFace_of_selects (args := #[]) (mvT hZ (hw _ (List.mem_of_getElem? (i := 28) rfl)))) (mvT hZ (hw _ (List.mem_of_getElem? (i := 28) rfl))) (mvT hZ (hw _ (List.mem_of_getElem? (i := 27) rfl))) (by decide) (backOf (W := 0) (rm1_23 l Z a0 hw [] a_START a_READ a_UNREAD a_POWER_ON a_POWER_OFF a_HOLD_ON a_HOLD_OFF a_RELEASE a_SPAN_START a_SPAN_END a_ON a_OFF p1 h31 n0 (Nat.le_trans Z0 K31.1) (own_wk hS K31)) hZ (hw _ (List.mem_of_getElem? (i := 29) rfl)) (hw _ (List.mem_of_getElem? (i := 3) rfl)) (by decide) (by decide)) q33a q33c (g := (mkF m 81 #[.val (.int p1), .val (.ref b1), .val (.ref a_HOLD_ON), .unset, .unset, .unset] [(.ref a_HOLD_ON)])) rfl (by rw [hml]; rfl) (Steps.refl _) (argsL := []) (rest := []) (lenOf pd_0 rfl) rfl (by show 2 * 0 + _ ≤ _; exact Nat.le_of_eq rfl) (hb hby at_81) (fun _ _ => ⟨rfl, e31, (by decide : 1 + 0 ≤ _), (by decide : 10 + 0 ≤ _)⟩)
  dsimp only [Pt.U, Pt.locs, Pt.cells, Pt.slots] at X33 l33 y33 z33 st33 hQ33
  subst l33 y33 z33
  obtain ⟨rfl, N33q, e33⟩ := hQ33
  have N33 := Fr.app N31 N33q
  obtain ⟨cq34, kq34, q34a, q34b, q34c⟩ := isOf hZ e33 (E_HOLD_ON.keep K31)
  obtain ⟨_, _, ⟨T34, L34, k34, n34⟩, -, X34, ⟨Lc34, hQ34, l34, y34, z34⟩, st34⟩ := X33.virtualBack hx (y := (⟨"ebbtide/serve/History$Event", "hold", "()Lebbtide/serve/Hold;"⟩ : MethodName)) (z := (⟨"ebbtide/serve/History$Event", "hold", "()Lebbtide/serve/Hold;"⟩ : MethodName)) hown (mvT hZ (hw _ (List.mem_of_getElem? (i := 33) rfl))) (mvT hZ (hw _ (List.mem_of_getElem? (i := 34) rfl))) (notFace_of_selects (args := #[]) (mvT hZ (hw _ (List.mem_of_getElem? (i := 36) rfl)))) (mvT hZ (hw _ (List.mem_of_getElem? (i := 36) rfl))) (mvT hZ (hw _ (List.mem_of_getElem? (i := 35) rfl))) (by decide) (backOf (W := 0) (rm2_24 l Z a0 hw [] a_START a_READ a_UNREAD a_POWER_ON a_POWER_OFF a_HOLD_ON a_HOLD_OFF a_RELEASE a_SPAN_START a_SPAN_END a_ON a_OFF p1 h31 n0 (Nat.le_trans Z0 K31.1) (own_wk hS K31)) hZ (hw _ (List.mem_of_getElem? (i := 37) rfl)) (hw _ (List.mem_of_getElem? (i := 3) rfl)) (by decide) (by decide)) q34a q34c (g := (mkF m 86 #[.val (.int p1), .val (.ref b1), .val (.ref a_HOLD_ON), .val (.int (1 : Int32)), .unset, .unset] [(.ref a_HOLD_ON)])) rfl (by rw [hml]; rfl) (Steps.refl _) (argsL := []) (rest := []) (lenOf pd_2 rfl) rfl (by show 2 * 0 + _ ≤ _; exact Nat.le_of_eq rfl) (hb hby at_86) (fun _ _ => ⟨rfl, e33, (by decide : 1 + 0 ≤ _), (by decide : 10 + 0 ≤ _)⟩)
  dsimp only [Pt.U, Pt.locs, Pt.cells, Pt.slots] at X34 l34 y34 z34 st34 hQ34
  subst l34 y34 z34
  obtain ⟨rfl, N34q, e34⟩ := hQ34
  have N34 := Fr.app N33 N34q
  obtain ⟨_, _, ⟨T35, L35, k35, n35⟩, -, X35, ⟨Lc35, hQ35, l35, y35, z35⟩, st35⟩ := Jvm.LawKit.callS X34 hx (y := (⟨"ebbtide/serve/History$Event", "of", "(Lebbtide/serve/Hold;)Lebbtide/serve/History$Event;"⟩ : MethodName)) hown (mvT hZ (hw _ (List.mem_of_getElem? (i := 47) rfl))) (mvT hZ (hw _ (List.mem_of_getElem? (i := 48) rfl))) (mvT hZ (hw _ (List.mem_of_getElem? (i := 3) rfl))) (mvT hZ (hw _ (List.mem_of_getElem? (i := 49) rfl))) (by decide) (backOf (W := 0) (rm4_26 l Z a0 hw [] a_START a_READ a_UNREAD a_POWER_ON a_POWER_OFF a_HOLD_ON a_HOLD_OFF a_RELEASE a_SPAN_START a_SPAN_END a_ON a_OFF p1 h31 n0 (Nat.le_trans Z0 K31.1) (own_wk hS K31)) hZ (hw _ (List.mem_of_getElem? (i := 49) rfl)) (hw _ (List.mem_of_getElem? (i := 3) rfl)) (by decide) (by decide)) (g := (mkF m 93 #[.val (.int p1), .val (.ref b1), .val (.ref a_HOLD_ON), .val (.int (1 : Int32)), .val (.ref a_ON), .unset] [(.ref a_ON)])) rfl (by rw [hml]; rfl) (argsL := [(.ref a_ON)]) (rest := []) (lenOf pd_3 rfl) rfl (by show 2 * 0 + _ ≤ _; exact Nat.le_of_eq rfl) (hb hby at_93) (fun _ _ => ⟨rfl, e34, (by decide : 1 + 0 ≤ _), (by decide : 10 + 0 ≤ _)⟩)
  dsimp only [Pt.U, Pt.locs, Pt.cells, Pt.slots] at X35 l35 y35 z35 st35 hQ35
  subst l35 y35 z35
  obtain ⟨rfl, N35q, e35⟩ := hQ35
  have N35 := Fr.app N34 N35q
  obtain ⟨fs, hr, hrun, hended, hW, hsame⟩ := X35.leave (v := some (.int (1 : Int32))) (fun h => by rw [Bd.returns] at h; cases h)
  refine ⟨_, _, pre0 _ ?_, hrun, hended, _, _, rfl, ?_, ⟨_, rfl⟩, hW, hsame.mono (by decide) (by decide)⟩
  · show Steps p.tables e below (s₁.setTop (mkF m 0 #[.val (.int p1), .unset, .unset, .unset, .unset, .unset] [])) _
    refine XS.bipush X0.here hx rfl (hb hby at_0) ?_
    show Steps p.tables e below (s₁.setTop (mkF m 2 #[.val (.int p1), .unset, .unset, .unset, .unset, .unset] [(.int (10 : Int32))])) _
    refine st1 _ ?_
    show Steps p.tables e below (T1.setTop (mkF m 5 #[.val (.int p1), .unset, .unset, .unset, .unset, .unset] [(.ref b1)])) _
    refine XS.dup X1.here hx rfl (hb hby at_5) rfl rfl ?_
    show Steps p.tables e below (T1.setTop (mkF m 6 #[.val (.int p1), .unset, .unset, .unset, .unset, .unset] [(.ref b1), (.ref b1)])) _
    refine XS.iconst X1.here hx rfl (hb hby at_6) ?_
    show Steps p.tables e below (T1.setTop (mkF m 7 #[.val (.int p1), .unset, .unset, .unset, .unset, .unset] [(.int (0 : Int32)), (.ref b1), (.ref b1)])) _
    refine st2 _ ?_
    show Steps p.tables e below (T2.setTop (mkF m 10 #[.val (.int p1), .unset, .unset, .unset, .unset, .unset] [(.ref a_START), (.int (0 : Int32)), (.ref b1), (.ref b1)])) _
    refine st4 _ ?_
    show Steps p.tables e below (T4.setTop (mkF m 11 #[.val (.int p1), .unset, .unset, .unset, .unset, .unset] [(.ref b1)])) _
    refine XS.dup X4.here hx rfl (hb hby at_11) rfl rfl ?_
    show Steps p.tables e below (T4.setTop (mkF m 12 #[.val (.int p1), .unset, .unset, .unset, .unset, .unset] [(.ref b1), (.ref b1)])) _
    refine XS.iconst X4.here hx rfl (hb hby at_12) ?_
    show Steps p.tables e below (T4.setTop (mkF m 13 #[.val (.int p1), .unset, .unset, .unset, .unset, .unset] [(.int (1 : Int32)), (.ref b1), (.ref b1)])) _
    refine st5 _ ?_
    show Steps p.tables e below (T5.setTop (mkF m 16 #[.val (.int p1), .unset, .unset, .unset, .unset, .unset] [(.ref a_READ), (.int (1 : Int32)), (.ref b1), (.ref b1)])) _
    refine st7 _ ?_
    show Steps p.tables e below (T7.setTop (mkF m 17 #[.val (.int p1), .unset, .unset, .unset, .unset, .unset] [(.ref b1)])) _
    refine XS.dup X7.here hx rfl (hb hby at_17) rfl rfl ?_
    show Steps p.tables e below (T7.setTop (mkF m 18 #[.val (.int p1), .unset, .unset, .unset, .unset, .unset] [(.ref b1), (.ref b1)])) _
    refine XS.iconst X7.here hx rfl (hb hby at_18) ?_
    show Steps p.tables e below (T7.setTop (mkF m 19 #[.val (.int p1), .unset, .unset, .unset, .unset, .unset] [(.int (2 : Int32)), (.ref b1), (.ref b1)])) _
    refine st8 _ ?_
    show Steps p.tables e below (T8.setTop (mkF m 22 #[.val (.int p1), .unset, .unset, .unset, .unset, .unset] [(.ref a_UNREAD), (.int (2 : Int32)), (.ref b1), (.ref b1)])) _
    refine st10 _ ?_
    show Steps p.tables e below (T10.setTop (mkF m 23 #[.val (.int p1), .unset, .unset, .unset, .unset, .unset] [(.ref b1)])) _
    refine XS.dup X10.here hx rfl (hb hby at_23) rfl rfl ?_
    show Steps p.tables e below (T10.setTop (mkF m 24 #[.val (.int p1), .unset, .unset, .unset, .unset, .unset] [(.ref b1), (.ref b1)])) _
    refine XS.iconst X10.here hx rfl (hb hby at_24) ?_
    show Steps p.tables e below (T10.setTop (mkF m 25 #[.val (.int p1), .unset, .unset, .unset, .unset, .unset] [(.int (3 : Int32)), (.ref b1), (.ref b1)])) _
    refine st11 _ ?_
    show Steps p.tables e below (T11.setTop (mkF m 28 #[.val (.int p1), .unset, .unset, .unset, .unset, .unset] [(.ref a_POWER_ON), (.int (3 : Int32)), (.ref b1), (.ref b1)])) _
    refine st13 _ ?_
    show Steps p.tables e below (T13.setTop (mkF m 29 #[.val (.int p1), .unset, .unset, .unset, .unset, .unset] [(.ref b1)])) _
    refine XS.dup X13.here hx rfl (hb hby at_29) rfl rfl ?_
    show Steps p.tables e below (T13.setTop (mkF m 30 #[.val (.int p1), .unset, .unset, .unset, .unset, .unset] [(.ref b1), (.ref b1)])) _
    refine XS.iconst X13.here hx rfl (hb hby at_30) ?_
    show Steps p.tables e below (T13.setTop (mkF m 31 #[.val (.int p1), .unset, .unset, .unset, .unset, .unset] [(.int (4 : Int32)), (.ref b1), (.ref b1)])) _
    refine st14 _ ?_
    show Steps p.tables e below (T14.setTop (mkF m 34 #[.val (.int p1), .unset, .unset, .unset, .unset, .unset] [(.ref a_POWER_OFF), (.int (4 : Int32)), (.ref b1), (.ref b1)])) _
    refine st16 _ ?_
    show Steps p.tables e below (T16.setTop (mkF m 35 #[.val (.int p1), .unset, .unset, .unset, .unset, .unset] [(.ref b1)])) _
    refine XS.dup X16.here hx rfl (hb hby at_35) rfl rfl ?_
    show Steps p.tables e below (T16.setTop (mkF m 36 #[.val (.int p1), .unset, .unset, .unset, .unset, .unset] [(.ref b1), (.ref b1)])) _
    refine XS.iconst X16.here hx rfl (hb hby at_36) ?_
    show Steps p.tables e below (T16.setTop (mkF m 37 #[.val (.int p1), .unset, .unset, .unset, .unset, .unset] [(.int (5 : Int32)), (.ref b1), (.ref b1)])) _
    refine st17 _ ?_
    show Steps p.tables e below (T17.setTop (mkF m 40 #[.val (.int p1), .unset, .unset, .unset, .unset, .unset] [(.ref a_HOLD_ON), (.int (5 : Int32)), (.ref b1), (.ref b1)])) _
    refine st19 _ ?_
    show Steps p.tables e below (T19.setTop (mkF m 41 #[.val (.int p1), .unset, .unset, .unset, .unset, .unset] [(.ref b1)])) _
    refine XS.dup X19.here hx rfl (hb hby at_41) rfl rfl ?_
    show Steps p.tables e below (T19.setTop (mkF m 42 #[.val (.int p1), .unset, .unset, .unset, .unset, .unset] [(.ref b1), (.ref b1)])) _
    refine XS.bipush X19.here hx rfl (hb hby at_42) ?_
    show Steps p.tables e below (T19.setTop (mkF m 44 #[.val (.int p1), .unset, .unset, .unset, .unset, .unset] [(.int (6 : Int32)), (.ref b1), (.ref b1)])) _
    refine st20 _ ?_
    show Steps p.tables e below (T20.setTop (mkF m 47 #[.val (.int p1), .unset, .unset, .unset, .unset, .unset] [(.ref a_HOLD_OFF), (.int (6 : Int32)), (.ref b1), (.ref b1)])) _
    refine st22 _ ?_
    show Steps p.tables e below (T22.setTop (mkF m 48 #[.val (.int p1), .unset, .unset, .unset, .unset, .unset] [(.ref b1)])) _
    refine XS.dup X22.here hx rfl (hb hby at_48) rfl rfl ?_
    show Steps p.tables e below (T22.setTop (mkF m 49 #[.val (.int p1), .unset, .unset, .unset, .unset, .unset] [(.ref b1), (.ref b1)])) _
    refine XS.bipush X22.here hx rfl (hb hby at_49) ?_
    show Steps p.tables e below (T22.setTop (mkF m 51 #[.val (.int p1), .unset, .unset, .unset, .unset, .unset] [(.int (7 : Int32)), (.ref b1), (.ref b1)])) _
    refine st23 _ ?_
    show Steps p.tables e below (T23.setTop (mkF m 54 #[.val (.int p1), .unset, .unset, .unset, .unset, .unset] [(.ref a_RELEASE), (.int (7 : Int32)), (.ref b1), (.ref b1)])) _
    refine st25 _ ?_
    show Steps p.tables e below (T25.setTop (mkF m 55 #[.val (.int p1), .unset, .unset, .unset, .unset, .unset] [(.ref b1)])) _
    refine XS.dup X25.here hx rfl (hb hby at_55) rfl rfl ?_
    show Steps p.tables e below (T25.setTop (mkF m 56 #[.val (.int p1), .unset, .unset, .unset, .unset, .unset] [(.ref b1), (.ref b1)])) _
    refine XS.bipush X25.here hx rfl (hb hby at_56) ?_
    show Steps p.tables e below (T25.setTop (mkF m 58 #[.val (.int p1), .unset, .unset, .unset, .unset, .unset] [(.int (8 : Int32)), (.ref b1), (.ref b1)])) _
    refine st26 _ ?_
    show Steps p.tables e below (T26.setTop (mkF m 61 #[.val (.int p1), .unset, .unset, .unset, .unset, .unset] [(.ref a_SPAN_START), (.int (8 : Int32)), (.ref b1), (.ref b1)])) _
    refine st28 _ ?_
    show Steps p.tables e below (T28.setTop (mkF m 62 #[.val (.int p1), .unset, .unset, .unset, .unset, .unset] [(.ref b1)])) _
    refine XS.dup X28.here hx rfl (hb hby at_62) rfl rfl ?_
    show Steps p.tables e below (T28.setTop (mkF m 63 #[.val (.int p1), .unset, .unset, .unset, .unset, .unset] [(.ref b1), (.ref b1)])) _
    refine XS.bipush X28.here hx rfl (hb hby at_63) ?_
    show Steps p.tables e below (T28.setTop (mkF m 65 #[.val (.int p1), .unset, .unset, .unset, .unset, .unset] [(.int (9 : Int32)), (.ref b1), (.ref b1)])) _
    refine st29 _ ?_
    show Steps p.tables e below (T29.setTop (mkF m 68 #[.val (.int p1), .unset, .unset, .unset, .unset, .unset] [(.ref a_SPAN_END), (.int (9 : Int32)), (.ref b1), (.ref b1)])) _
    refine st31 _ ?_
    show Steps p.tables e below (T31.setTop (mkF m 69 #[.val (.int p1), .unset, .unset, .unset, .unset, .unset] [(.ref b1)])) _
    refine XS.astoreN X31.here hx rfl (hb hby at_69) rfl rfl (l' := #[.val (.int p1), .val (.ref b1), .unset, .unset, .unset, .unset]) rfl ?_
    show Steps p.tables e below (T31.setTop (mkF m 70 #[.val (.int p1), .val (.ref b1), .unset, .unset, .unset, .unset] [])) _
    refine XS.aloadN X31.here hx rfl (hb hby at_70) rfl rfl ?_
    show Steps p.tables e below (T31.setTop (mkF m 71 #[.val (.int p1), .val (.ref b1), .unset, .unset, .unset, .unset] [(.ref b1)])) _
    refine XS.iloadN X31.here hx rfl (hb hby at_71) rfl ?_
    show Steps p.tables e below (T31.setTop (mkF m 72 #[.val (.int p1), .val (.ref b1), .unset, .unset, .unset, .unset] [(.int p1), (.ref b1)])) _
    refine X31.ldcInt hx hown (mvT hZ (hw _ (List.mem_of_getElem? (i := 24) rfl))) (g := (mkF m 72 #[.val (.int p1), .val (.ref b1), .unset, .unset, .unset, .unset] [(.int p1), (.ref b1)])) rfl (hb hby at_72) _ ?_
    show Steps p.tables e below (T31.setTop (mkF m 74 #[.val (.int p1), .val (.ref b1), .unset, .unset, .unset, .unset] [(.int (2147483647 : Int32)), (.int p1), (.ref b1)])) _
    refine XS.iand X31.here hx rfl (hb hby at_74) rfl ?_
    show Steps p.tables e below (T31.setTop (mkF m 75 #[.val (.int p1), .val (.ref b1), .unset, .unset, .unset, .unset] [(.int (p1 &&& (2147483647 : Int32))), (.ref b1)])) _
    refine XS.bipush X31.here hx rfl (hb hby at_75) ?_
    show Steps p.tables e below (T31.setTop (mkF m 77 #[.val (.int p1), .val (.ref b1), .unset, .unset, .unset, .unset] [(.int (10 : Int32)), (.int (p1 &&& (2147483647 : Int32))), (.ref b1)])) _
    refine Jvm.RoadKit.iremM (g := (mkF m 77 #[.val (.int p1), .val (.ref b1), .unset, .unset, .unset, .unset] [(.int (10 : Int32)), (.int (p1 &&& (2147483647 : Int32))), (.ref b1)])) X31 hx rfl (hb hby at_77) rfl (by decide) ?_
    rw [hi]
    show Steps p.tables e below (T31.setTop (mkF m 78 #[.val (.int p1), .val (.ref b1), .unset, .unset, .unset, .unset] [(.int (5 : Int32)), (.ref b1)])) _
    refine X31.aaload hx (j := (5 : Int32)) (v := (.ref a_HOLD_ON)) (by rw [e31]; exact Ar32.1) (State.isArrayOf_alike hZ.alike Ar32.2.1) rfl Ar32.2.2 hin32 hat32 (g := (mkF m 78 #[.val (.int p1), .val (.ref b1), .unset, .unset, .unset, .unset] [(.int (5 : Int32)), (.ref b1)])) rfl rfl (hb hby at_78) _ ?_
    show Steps p.tables e below (T31.setTop (mkF m 79 #[.val (.int p1), .val (.ref b1), .unset, .unset, .unset, .unset] [(.ref a_HOLD_ON)])) _
    refine XS.astoreN X31.here hx rfl (hb hby at_79) rfl rfl (l' := #[.val (.int p1), .val (.ref b1), .val (.ref a_HOLD_ON), .unset, .unset, .unset]) rfl ?_
    show Steps p.tables e below (T31.setTop (mkF m 80 #[.val (.int p1), .val (.ref b1), .val (.ref a_HOLD_ON), .unset, .unset, .unset] [])) _
    refine XS.aloadN X31.here hx rfl (hb hby at_80) rfl rfl ?_
    show Steps p.tables e below (T31.setTop (mkF m 81 #[.val (.int p1), .val (.ref b1), .val (.ref a_HOLD_ON), .unset, .unset, .unset] [(.ref a_HOLD_ON)])) _
    refine st33.trans ?_
    show Steps p.tables e below (T33.setTop (mkF m 84 #[.val (.int p1), .val (.ref b1), .val (.ref a_HOLD_ON), .unset, .unset, .unset] [(.int (1 : Int32))])) _
    refine XS.istoreN X33.here hx rfl (hb hby at_84) rfl (l' := #[.val (.int p1), .val (.ref b1), .val (.ref a_HOLD_ON), .val (.int (1 : Int32)), .unset, .unset]) rfl ?_
    show Steps p.tables e below (T33.setTop (mkF m 85 #[.val (.int p1), .val (.ref b1), .val (.ref a_HOLD_ON), .val (.int (1 : Int32)), .unset, .unset] [])) _
    refine XS.aloadN X33.here hx rfl (hb hby at_85) rfl rfl ?_
    show Steps p.tables e below (T33.setTop (mkF m 86 #[.val (.int p1), .val (.ref b1), .val (.ref a_HOLD_ON), .val (.int (1 : Int32)), .unset, .unset] [(.ref a_HOLD_ON)])) _
    refine st34.trans ?_
    show Steps p.tables e below (T34.setTop (mkF m 89 #[.val (.int p1), .val (.ref b1), .val (.ref a_HOLD_ON), .val (.int (1 : Int32)), .unset, .unset] [(.ref a_ON)])) _
    refine XS.astore X34.here hx rfl (hb hby at_89) rfl rfl (l' := #[.val (.int p1), .val (.ref b1), .val (.ref a_HOLD_ON), .val (.int (1 : Int32)), .val (.ref a_ON), .unset]) rfl ?_
    show Steps p.tables e below (T34.setTop (mkF m 91 #[.val (.int p1), .val (.ref b1), .val (.ref a_HOLD_ON), .val (.int (1 : Int32)), .val (.ref a_ON), .unset] [])) _
    refine XS.aload X34.here hx rfl (hb hby at_91) rfl rfl ?_
    show Steps p.tables e below (T34.setTop (mkF m 93 #[.val (.int p1), .val (.ref b1), .val (.ref a_HOLD_ON), .val (.int (1 : Int32)), .val (.ref a_ON), .unset] [(.ref a_ON)])) _
    refine st35 _ ?_
    show Steps p.tables e below (T35.setTop (mkF m 96 #[.val (.int p1), .val (.ref b1), .val (.ref a_HOLD_ON), .val (.int (1 : Int32)), .val (.ref a_ON), .unset] [(.ref a_HOLD_ON)])) _
    refine XS.aloadN X35.here hx rfl (hb hby at_96) rfl rfl ?_
    show Steps p.tables e below (T35.setTop (mkF m 97 #[.val (.int p1), .val (.ref b1), .val (.ref a_HOLD_ON), .val (.int (1 : Int32)), .val (.ref a_ON), .unset] [(.ref a_HOLD_ON), (.ref a_HOLD_ON)])) _
    refine Jvm.RoadKit.acmp (g := (mkF m 97 #[.val (.int p1), .val (.ref b1), .val (.ref a_HOLD_ON), .val (.int (1 : Int32)), .val (.ref a_ON), .unset] [(.ref a_HOLD_ON), (.ref a_HOLD_ON)])) X35 hx rfl rfl rfl (pc0 := 97) (pc' := 100) (same := true) rfl (hb hby at_97) rfl (decide_eq_true rfl) (by decide) (by decide) ?_
    show Steps p.tables e below (T35.setTop (mkF m 100 #[.val (.int p1), .val (.ref b1), .val (.ref a_HOLD_ON), .val (.int (1 : Int32)), .val (.ref a_ON), .unset] [])) _
    refine XS.iconst X35.here hx rfl (hb hby at_100) ?_
    show Steps p.tables e below (T35.setTop (mkF m 101 #[.val (.int p1), .val (.ref b1), .val (.ref a_HOLD_ON), .val (.int (1 : Int32)), .val (.ref a_ON), .unset] [(.int (1 : Int32))])) _
    refine XS.goto X35.here hx rfl (pc0 := 101) (pc' := 105) rfl (hb hby at_101) (by decide) (by decide) ?_
    show Steps p.tables e below (T35.setTop (mkF m 105 #[.val (.int p1), .val (.ref b1), .val (.ref a_HOLD_ON), .val (.int (1 : Int32)), .val (.ref a_ON), .unset] [(.int (1 : Int32))])) _
    refine XS.istore X35.here hx rfl (hb hby at_105) rfl (l' := #[.val (.int p1), .val (.ref b1), .val (.ref a_HOLD_ON), .val (.int (1 : Int32)), .val (.ref a_ON), .val (.int (1 : Int32))]) rfl ?_
    show Steps p.tables e below (T35.setTop (mkF m 107 #[.val (.int p1), .val (.ref b1), .val (.ref a_HOLD_ON), .val (.int (1 : Int32)), .val (.ref a_ON), .val (.int (1 : Int32))] [])) _
    refine XS.iloadN X35.here hx rfl (hb hby at_107) rfl ?_
    show Steps p.tables e below (T35.setTop (mkF m 108 #[.val (.int p1), .val (.ref b1), .val (.ref a_HOLD_ON), .val (.int (1 : Int32)), .val (.ref a_ON), .val (.int (1 : Int32))] [(.int (1 : Int32))])) _
    refine XS.iload X35.here hx rfl (hb hby at_108) rfl ?_
    show Steps p.tables e below (T35.setTop (mkF m 110 #[.val (.int p1), .val (.ref b1), .val (.ref a_HOLD_ON), .val (.int (1 : Int32)), .val (.ref a_ON), .val (.int (1 : Int32))] [(.int (1 : Int32)), (.int (1 : Int32))])) _
    refine XS.icmpNo X35.here hx rfl (hb hby at_110) rfl (teq (by decide : (1 : Int32) = (1 : Int32))).2 ?_
    show Steps p.tables e below (T35.setTop (mkF m 113 #[.val (.int p1), .val (.ref b1), .val (.ref a_HOLD_ON), .val (.int (1 : Int32)), .val (.ref a_ON), .val (.int (1 : Int32))] [])) _
    refine XS.iconst X35.here hx rfl (hb hby at_113) ?_
    show Steps p.tables e below (T35.setTop (mkF m 114 #[.val (.int p1), .val (.ref b1), .val (.ref a_HOLD_ON), .val (.int (1 : Int32)), .val (.ref a_ON), .val (.int (1 : Int32))] [(.int (1 : Int32))])) _
    refine XS.goto X35.here hx rfl (pc0 := 114) (pc' := 118) rfl (hb hby at_114) (by decide) (by decide) ?_
    show Steps p.tables e below (T35.setTop (mkF m 118 #[.val (.int p1), .val (.ref b1), .val (.ref a_HOLD_ON), .val (.int (1 : Int32)), .val (.ref a_ON), .val (.int (1 : Int32))] [(.int (1 : Int32))])) _
    exact retN X35 hx (t := .boolean) Bd.returns (by simp) (hb hby at_118) hr
  · exact ⟨rfl, N35⟩
set_option maxRecDepth 65536 in
set_option maxHeartbeats 40000000 in
theorem rm1_28 (l : Launch) (Z : State) (a0 : Array Value) (hw : ∀ d ∈ tables_1, d.before a0 Z = true) (ws : List Jvm.Cond) (a_START : Addr) (a_READ : Addr) (a_UNREAD : Addr) (a_POWER_ON : Addr) (a_POWER_OFF : Addr) (a_HOLD_ON : Addr) (a_HOLD_OFF : Addr) (a_RELEASE : Addr) (a_SPAN_START : Addr) (a_SPAN_END : Addr) (a_ON : Addr) (a_OFF : Addr) (p1 : Int32) (h0 : Heap) (n0 : Nat) (Z0 : n0 ≤ h0.size) (hS : Wd Z h0 a_START a_READ a_UNREAD a_POWER_ON a_POWER_OFF a_HOLD_ON a_HOLD_OFF a_RELEASE a_SPAN_START a_SPAN_END a_ON a_OFF) :
    MetFree l (⟨"ebbtide/serve/History$Event", "holds", "()Z"⟩ : MethodName) (head1 (Jvm.Cond.code (⟨"ebbtide/serve/History$Event", "holds", "()Z"⟩ : MethodName) prog_171_method_7_code 1 (some .boolean) :: ws) ({ frames := 0, cells := 0, slots := 0, locals := 0 } : Room)) (fun a U => a = #[(.ref a_HOLD_OFF)] ∧ Z.Warmed39 U.vm ∧ U.heap = h0) (fun _ _ _ _ _ => True) (fun _ U o U' => ∃ v L, o = .returned v ∧ QP (some (.int (1 : Int32))) h0 n0 v U'.heap L ∧ FrameEnd U o U' L ({ frames := 0, cells := 0, slots := 0, locals := 0 } : Room).cells ({ frames := 0, cells := 0, slots := 0, locals := 0 } : Room).slots) := by
  refine MetFree.of_bodySF (plainFor_of_name pn_ebbtide_serve_History_Event) hisR ?_
  intro p e s m args below meth c s₁ Bd hml0 hP hK
  obtain ⟨rfl, hZ, hh⟩ := hP
  have hx := Bd.exec
  have hby := Bd.bytes
  have hml : c.maxLocals = 1 := hml0
  have hown : s.vm.findClass "ebbtide/serve/History$Event" = some m.cls := findClass_of_methodNamed Bd.named
  have X0 : Stand p l e ({ frames := 0, cells := 0, slots := 0, locals := 0 } : Room) s m #[(.ref a_HOLD_OFF)] below meth c s₁ [] 0 0 := Stand.of_body Bd
  have e0 : s₁.heap = h0 := by rw [← hh, Bd.state]; rfl
  have N0 := Fr.nil n0
  have pre0 : ∀ t, Steps p.tables e below (s₁.setTop (mkF m 0 #[.val (.ref a_HOLD_OFF)] [])) t → Steps p.tables e below (s₁.setTop (entryFrame m #[(.ref a_HOLD_OFF)] 1)) t := fun t k => castTop (by first | (simp [entryFrame, mkF, argsToLocals, Value.category]; done) | rfl) k
  obtain ⟨S_START, E_START, S_READ, E_READ, S_UNREAD, E_UNREAD, S_POWER_ON, E_POWER_ON, S_POWER_OFF, E_POWER_OFF, S_HOLD_ON, E_HOLD_ON, S_HOLD_OFF, E_HOLD_OFF, S_RELEASE, E_RELEASE, S_SPAN_START, E_SPAN_START, S_SPAN_END, E_SPAN_END, S_ON, E_ON, S_OFF, E_OFF, F_START_ordinal, F_HOLD_ON_ordinal, F_HOLD_OFF_ordinal, F_RELEASE_ordinal, F_POWER_ON_ordinal, F_READ_ordinal, F_POWER_OFF_ordinal, F_UNREAD_ordinal, F_SPAN_START_ordinal, F_SPAN_END_ordinal, F_OFF_ordinal, F_ON_ordinal⟩ := id hS
  obtain ⟨T1, X1, e1, st1⟩ := getS2 X0 hx hZ hown (host := "") (Or.inl (hw _ (List.mem_of_getElem? (i := 30) rfl))) Via.refl e0 S_HOLD_ON (g := (mkF m 1 #[.val (.ref a_HOLD_OFF)] [(.ref a_HOLD_OFF)])) rfl (hb hby d1_1)
  obtain ⟨T2, X2, e2, st2⟩ := getS2 X1 hx hZ hown (host := "") (Or.inl (hw _ (List.mem_of_getElem? (i := 31) rfl))) Via.refl e1 S_HOLD_OFF (g := (mkF m 8 #[.val (.ref a_HOLD_OFF)] [(.ref a_HOLD_OFF)])) rfl (hb hby d1_8)
  obtain ⟨fs, hr, hrun, hended, hW, hsame⟩ := X2.leave (v := some (.int (1 : Int32))) (fun h => by rw [Bd.returns] at h; cases h)
  refine ⟨_, _, pre0 _ ?_, hrun, hended, _, _, rfl, ?_, ⟨_, rfl⟩, hW, hsame.mono (by decide) (by decide)⟩
  · show Steps p.tables e below (s₁.setTop (mkF m 0 #[.val (.ref a_HOLD_OFF)] [])) _
    refine XS.aloadN X0.here hx rfl (hb hby d1_0) rfl rfl ?_
    show Steps p.tables e below (s₁.setTop (mkF m 1 #[.val (.ref a_HOLD_OFF)] [(.ref a_HOLD_OFF)])) _
    refine st1 _ ?_
    show Steps p.tables e below (T1.setTop (mkF m 4 #[.val (.ref a_HOLD_OFF)] [(.ref a_HOLD_ON), (.ref a_HOLD_OFF)])) _
    refine Jvm.RoadKit.acmp (g := (mkF m 4 #[.val (.ref a_HOLD_OFF)] [(.ref a_HOLD_ON), (.ref a_HOLD_OFF)])) X1 hx rfl rfl rfl (pc0 := 4) (pc' := 7) (same := false) rfl (hb hby d1_4) rfl (decide_eq_false fun q => (Fld.ne F_HOLD_OFF_ordinal F_HOLD_ON_ordinal (fun q => absurd (Value.int.inj q) (by decide))) (Value.ref.inj q)) (by decide) (by decide) ?_
    show Steps p.tables e below (T1.setTop (mkF m 7 #[.val (.ref a_HOLD_OFF)] [])) _
    refine XS.aloadN X1.here hx rfl (hb hby d1_7) rfl rfl ?_
    show Steps p.tables e below (T1.setTop (mkF m 8 #[.val (.ref a_HOLD_OFF)] [(.ref a_HOLD_OFF)])) _
    refine st2 _ ?_
    show Steps p.tables e below (T2.setTop (mkF m 11 #[.val (.ref a_HOLD_OFF)] [(.ref a_HOLD_OFF), (.ref a_HOLD_OFF)])) _
    refine Jvm.RoadKit.acmp (g := (mkF m 11 #[.val (.ref a_HOLD_OFF)] [(.ref a_HOLD_OFF), (.ref a_HOLD_OFF)])) X2 hx rfl rfl rfl (pc0 := 11) (pc' := 21) (same := true) rfl (hb hby d1_11) rfl (decide_eq_true rfl) (by decide) (by decide) ?_
    show Steps p.tables e below (T2.setTop (mkF m 21 #[.val (.ref a_HOLD_OFF)] [])) _
    refine XS.iconst X2.here hx rfl (hb hby d1_21) ?_
    show Steps p.tables e below (T2.setTop (mkF m 22 #[.val (.ref a_HOLD_OFF)] [(.int (1 : Int32))])) _
    refine XS.goto X2.here hx rfl (pc0 := 22) (pc' := 26) rfl (hb hby d1_22) (by decide) (by decide) ?_
    show Steps p.tables e below (T2.setTop (mkF m 26 #[.val (.ref a_HOLD_OFF)] [(.int (1 : Int32))])) _
    exact retN X2 hx (t := .boolean) Bd.returns (by simp) (hb hby d1_26) hr
  · exact ⟨rfl, N0, e2⟩
set_option maxRecDepth 65536 in
set_option maxHeartbeats 40000000 in
theorem rm3_30 (l : Launch) (Z : State) (a0 : Array Value) (hw : ∀ d ∈ tables_1, d.before a0 Z = true) (ws : List Jvm.Cond) (a_START : Addr) (a_READ : Addr) (a_UNREAD : Addr) (a_POWER_ON : Addr) (a_POWER_OFF : Addr) (a_HOLD_ON : Addr) (a_HOLD_OFF : Addr) (a_RELEASE : Addr) (a_SPAN_START : Addr) (a_SPAN_END : Addr) (a_ON : Addr) (a_OFF : Addr) (p1 : Int32) (h0 : Heap) (n0 : Nat) (Z0 : n0 ≤ h0.size) (hS : Wd Z h0 a_START a_READ a_UNREAD a_POWER_ON a_POWER_OFF a_HOLD_ON a_HOLD_OFF a_RELEASE a_SPAN_START a_SPAN_END a_ON a_OFF) :
    MetFree l (⟨"java/lang/Enum", "ordinal", "()I"⟩ : MethodName) (head1 (Jvm.Cond.code (⟨"java/lang/Enum", "ordinal", "()I"⟩ : MethodName) jdk_37_method_2_code 1 (some .int) :: ws) ({ frames := 0, cells := 0, slots := 0, locals := 0 } : Room)) (fun a U => a = #[(.ref a_HOLD_OFF)] ∧ Z.Warmed39 U.vm ∧ U.heap = h0) (fun _ _ _ _ _ => True) (fun _ U o U' => ∃ v L, o = .returned v ∧ QP (some (.int (6 : Int32))) h0 n0 v U'.heap L ∧ FrameEnd U o U' L ({ frames := 0, cells := 0, slots := 0, locals := 0 } : Room).cells ({ frames := 0, cells := 0, slots := 0, locals := 0 } : Room).slots) := by
  refine MetFree.of_bodySF (plainFor_of_name pn_java_lang_Enum) hisR ?_
  intro p e s m args below meth c s₁ Bd hml0 hP hK
  obtain ⟨rfl, hZ, hh⟩ := hP
  have hx := Bd.exec
  have hby := Bd.bytes
  have hml : c.maxLocals = 1 := hml0
  have hown : s.vm.findClass "java/lang/Enum" = some m.cls := findClass_of_methodNamed Bd.named
  have X0 : Stand p l e ({ frames := 0, cells := 0, slots := 0, locals := 0 } : Room) s m #[(.ref a_HOLD_OFF)] below meth c s₁ [] 0 0 := Stand.of_body Bd
  have e0 : s₁.heap = h0 := by rw [← hh, Bd.state]; rfl
  have N0 := Fr.nil n0
  have pre0 : ∀ t, Steps p.tables e below (s₁.setTop (mkF m 0 #[.val (.ref a_HOLD_OFF)] [])) t → Steps p.tables e below (s₁.setTop (entryFrame m #[(.ref a_HOLD_OFF)] 1)) t := fun t k => castTop (by first | (simp [entryFrame, mkF, argsToLocals, Value.category]; done) | rfl) k
  obtain ⟨S_START, E_START, S_READ, E_READ, S_UNREAD, E_UNREAD, S_POWER_ON, E_POWER_ON, S_POWER_OFF, E_POWER_OFF, S_HOLD_ON, E_HOLD_ON, S_HOLD_OFF, E_HOLD_OFF, S_RELEASE, E_RELEASE, S_SPAN_START, E_SPAN_START, S_SPAN_END, E_SPAN_END, S_ON, E_ON, S_OFF, E_OFF, F_START_ordinal, F_HOLD_ON_ordinal, F_HOLD_OFF_ordinal, F_RELEASE_ordinal, F_POWER_ON_ordinal, F_READ_ordinal, F_POWER_OFF_ordinal, F_UNREAD_ordinal, F_SPAN_START_ordinal, F_SPAN_END_ordinal, F_OFF_ordinal, F_ON_ordinal⟩ := id hS
  obtain ⟨T1, X1, e1, st1⟩ := getF X0 hx hZ hown (host := "") (Or.inl (hw _ (List.mem_of_getElem? (i := 45) rfl))) Via.refl e0 F_HOLD_OFF_ordinal (g := (mkF m 1 #[.val (.ref a_HOLD_OFF)] [(.ref a_HOLD_OFF)])) rfl rfl (hb hby d3_1)
  obtain ⟨fs, hr, hrun, hended, hW, hsame⟩ := X1.leave (v := some (.int (6 : Int32))) (fun h => by rw [Bd.returns] at h; cases h)
  refine ⟨_, _, pre0 _ ?_, hrun, hended, _, _, rfl, ?_, ⟨_, rfl⟩, hW, hsame.mono (by decide) (by decide)⟩
  · show Steps p.tables e below (s₁.setTop (mkF m 0 #[.val (.ref a_HOLD_OFF)] [])) _
    refine XS.aloadN X0.here hx rfl (hb hby d3_0) rfl rfl ?_
    show Steps p.tables e below (s₁.setTop (mkF m 1 #[.val (.ref a_HOLD_OFF)] [(.ref a_HOLD_OFF)])) _
    refine st1 _ ?_
    show Steps p.tables e below (T1.setTop (mkF m 4 #[.val (.ref a_HOLD_OFF)] [(.int (6 : Int32))])) _
    exact own_retI X1 hx Bd.returns (hb hby d3_4) hr
  · exact ⟨rfl, N0, e1⟩
theorem d2_38 : decode prog_171_method_6_code 38 = .ok (.getstatic 68, 3) := by decide +kernel
theorem d2_41 : decode prog_171_method_6_code 41 = .ok (.goto 4, 3) := by decide +kernel
set_option maxRecDepth 65536 in
set_option maxHeartbeats 40000000 in
theorem rm2_29 (l : Launch) (Z : State) (a0 : Array Value) (hw : ∀ d ∈ tables_1, d.before a0 Z = true) (ws : List Jvm.Cond) (a_START : Addr) (a_READ : Addr) (a_UNREAD : Addr) (a_POWER_ON : Addr) (a_POWER_OFF : Addr) (a_HOLD_ON : Addr) (a_HOLD_OFF : Addr) (a_RELEASE : Addr) (a_SPAN_START : Addr) (a_SPAN_END : Addr) (a_ON : Addr) (a_OFF : Addr) (p1 : Int32) (h0 : Heap) (n0 : Nat) (Z0 : n0 ≤ h0.size) (hS : Wd Z h0 a_START a_READ a_UNREAD a_POWER_ON a_POWER_OFF a_HOLD_ON a_HOLD_OFF a_RELEASE a_SPAN_START a_SPAN_END a_ON a_OFF) :
    MetFree l (⟨"ebbtide/serve/History$Event", "hold", "()Lebbtide/serve/Hold;"⟩ : MethodName) (head1 (Jvm.Cond.code (⟨"ebbtide/serve/History$Event", "hold", "()Lebbtide/serve/Hold;"⟩ : MethodName) prog_171_method_6_code 1 (some (.object "ebbtide/serve/Hold")) :: ws) ({ frames := 1, cells := 0, slots := 0, locals := 12 } : Room)) (fun a U => a = #[(.ref a_HOLD_OFF)] ∧ Z.Warmed39 U.vm ∧ U.heap = h0) (fun _ _ _ _ _ => True) (fun _ U o U' => ∃ v L, o = .returned v ∧ QP (some (.ref a_OFF)) h0 n0 v U'.heap L ∧ FrameEnd U o U' L ({ frames := 1, cells := 0, slots := 0, locals := 12 } : Room).cells ({ frames := 1, cells := 0, slots := 0, locals := 12 } : Room).slots) := by
  refine MetFree.of_bodySF (plainFor_of_name pn_ebbtide_serve_History_Event) hisR ?_
  intro p e s m args below meth c s₁ Bd hml0 hP hK
  obtain ⟨rfl, hZ, hh⟩ := hP
  have hx := Bd.exec
  have hby := Bd.bytes
  have hml : c.maxLocals = 1 := hml0
  have hown : s.vm.findClass "ebbtide/serve/History$Event" = some m.cls := findClass_of_methodNamed Bd.named
  have X0 : Stand p l e ({ frames := 1, cells := 0, slots := 0, locals := 12 } : Room) s m #[(.ref a_HOLD_OFF)] below meth c s₁ [] 0 0 := Stand.of_body Bd
  have e0 : s₁.heap = h0 := by rw [← hh, Bd.state]; rfl
  have N0 := Fr.nil n0
  have pre0 : ∀ t, Steps p.tables e below (s₁.setTop (mkF m 0 #[.val (.ref a_HOLD_OFF)] [])) t → Steps p.tables e below (s₁.setTop (entryFrame m #[(.ref a_HOLD_OFF)] 1)) t := fun t k => castTop (by first | (simp [entryFrame, mkF, argsToLocals, Value.category]; done) | rfl) k
  obtain ⟨S_START, E_START, S_READ, E_READ, S_UNREAD, E_UNREAD, S_POWER_ON, E_POWER_ON, S_POWER_OFF, E_POWER_OFF, S_HOLD_ON, E_HOLD_ON, S_HOLD_OFF, E_HOLD_OFF, S_RELEASE, E_RELEASE, S_SPAN_START, E_SPAN_START, S_SPAN_END, E_SPAN_END, S_ON, E_ON, S_OFF, E_OFF, F_START_ordinal, F_HOLD_ON_ordinal, F_HOLD_OFF_ordinal, F_RELEASE_ordinal, F_POWER_ON_ordinal, F_READ_ordinal, F_POWER_OFF_ordinal, F_UNREAD_ordinal, F_SPAN_START_ordinal, F_SPAN_END_ordinal, F_OFF_ordinal, F_ON_ordinal⟩ := id hS
  obtain ⟨cq1, kq1, q1a, q1b, q1c⟩ := isOf hZ e0 E_HOLD_OFF
  obtain ⟨_, _, ⟨T1, L1, k1, n1⟩, -, X1, ⟨Lc1, hQ1, l1, y1, z1⟩, st1⟩ := X0.virtualBackUp hx (owner := "java/lang/Enum") (x := (⟨"ebbtide/serve/History$Event", "ordinal", "()I"⟩ : MethodName)) (y := (⟨"java/lang/Enum", "ordinal", "()I"⟩ : MethodName)) hown (mvT hZ (hw _ (List.mem_of_getElem? (i := 38) rfl))) (mvT hZ (hw _ (List.mem_of_getElem? (i := 39) rfl))) (mvT hZ (hw _ (List.mem_of_getElem? (i := 40) rfl))) (by decide) (mvT hZ (hw _ (List.mem_of_getElem? (i := 42) rfl))) (mvT hZ (hw _ (List.mem_of_getElem? (i := 41) rfl))) (backOf (W := 0) (rm3_30 l Z a0 hw [] a_START a_READ a_UNREAD a_POWER_ON a_POWER_OFF a_HOLD_ON a_HOLD_OFF a_RELEASE a_SPAN_START a_SPAN_END a_ON a_OFF p1 h0 n0 Z0 hS) hZ (hw _ (List.mem_of_getElem? (i := 44) rfl)) (hw _ (List.mem_of_getElem? (i := 43) rfl)) (by decide) (by decide)) q1a q1c (g := (mkF m 1 #[.val (.ref a_HOLD_OFF)] [(.ref a_HOLD_OFF)])) rfl (by rw [hml]; rfl) (Steps.refl _) (argsL := []) (rest := []) (lenOf pd_1 rfl) rfl (by show 2 * 0 + _ ≤ _; exact Nat.le_of_eq rfl) (hb hby d2_1) (fun _ _ => ⟨rfl, e0, (by decide : 0 + 0 ≤ _), (by decide : 0 + 0 ≤ _)⟩)
  dsimp only [Pt.U, Pt.locs, Pt.cells, Pt.slots] at X1 l1 y1 z1 st1 hQ1
  subst l1 y1 z1
  obtain ⟨rfl, N1q, e1⟩ := hQ1
  have N1 := Fr.app N0 N1q
  obtain ⟨T2, X2, e2, st2⟩ := getS2 X1 hx hZ hown (host := "") (Or.inl (hw _ (List.mem_of_getElem? (i := 53) rfl))) Via.refl e1 S_OFF (g := (mkF m 38 #[.val (.ref a_HOLD_OFF)] [])) rfl (hb hby d2_38)
  obtain ⟨fs, hr, hrun, hended, hW, hsame⟩ := X2.leave (v := some (.ref a_OFF)) (fun h => by rw [Bd.returns] at h; cases h)
  refine ⟨_, _, pre0 _ ?_, hrun, hended, _, _, rfl, ?_, ⟨_, rfl⟩, hW, hsame.mono (by decide) (by decide)⟩
  · show Steps p.tables e below (s₁.setTop (mkF m 0 #[.val (.ref a_HOLD_OFF)] [])) _
    refine XS.aloadN X0.here hx rfl (hb hby d2_0) rfl rfl ?_
    show Steps p.tables e below (s₁.setTop (mkF m 1 #[.val (.ref a_HOLD_OFF)] [(.ref a_HOLD_OFF)])) _
    refine st1.trans ?_
    show Steps p.tables e below (T1.setTop (mkF m 4 #[.val (.ref a_HOLD_OFF)] [(.int (6 : Int32))])) _
    refine X1.lookupswitchHit hx (g := (mkF m 4 #[.val (.ref a_HOLD_OFF)] [(.int (6 : Int32))])) rfl rfl (hb hby d2_4) (by decide) (a := 6) (off := 34) (by first | decide | rfl | (simp; done)) (by show (0 : Int) ≤ ((4 : Nat) : Int) + 34; decide) _ ?_
    show Steps p.tables e below (T1.setTop (mkF m 38 #[.val (.ref a_HOLD_OFF)] [])) _
    refine st2 _ ?_
    show Steps p.tables e below (T2.setTop (mkF m 41 #[.val (.ref a_HOLD_OFF)] [(.ref a_OFF)])) _
    refine XS.goto X2.here hx rfl (pc0 := 41) (pc' := 45) rfl (hb hby d2_41) (by decide) (by decide) ?_
    show Steps p.tables e below (T2.setTop (mkF m 45 #[.val (.ref a_HOLD_OFF)] [(.ref a_OFF)])) _
    exact own_retA X2 hx Bd.returns rfl rfl (hb hby d2_45) hr
  · exact ⟨rfl, N1, e2⟩
theorem d4_21 : decode prog_171_method_5_code 21 = .ok (.getstatic 22, 3) := by decide +kernel
set_option maxRecDepth 65536 in
set_option maxHeartbeats 40000000 in
theorem rm4_31 (l : Launch) (Z : State) (a0 : Array Value) (hw : ∀ d ∈ tables_1, d.before a0 Z = true) (ws : List Jvm.Cond) (a_START : Addr) (a_READ : Addr) (a_UNREAD : Addr) (a_POWER_ON : Addr) (a_POWER_OFF : Addr) (a_HOLD_ON : Addr) (a_HOLD_OFF : Addr) (a_RELEASE : Addr) (a_SPAN_START : Addr) (a_SPAN_END : Addr) (a_ON : Addr) (a_OFF : Addr) (p1 : Int32) (h0 : Heap) (n0 : Nat) (Z0 : n0 ≤ h0.size) (hS : Wd Z h0 a_START a_READ a_UNREAD a_POWER_ON a_POWER_OFF a_HOLD_ON a_HOLD_OFF a_RELEASE a_SPAN_START a_SPAN_END a_ON a_OFF) :
    MetFree l (⟨"ebbtide/serve/History$Event", "of", "(Lebbtide/serve/Hold;)Lebbtide/serve/History$Event;"⟩ : MethodName) (head1 (Jvm.Cond.code (⟨"ebbtide/serve/History$Event", "of", "(Lebbtide/serve/Hold;)Lebbtide/serve/History$Event;"⟩ : MethodName) prog_171_method_5_code 1 (some (.object "ebbtide/serve/History$Event")) :: ws) ({ frames := 0, cells := 0, slots := 0, locals := 0 } : Room)) (fun a U => a = #[(.ref a_OFF)] ∧ Z.Warmed39 U.vm ∧ U.heap = h0) (fun _ _ _ _ _ => True) (fun _ U o U' => ∃ v L, o = .returned v ∧ QP (some (.ref a_HOLD_OFF)) h0 n0 v U'.heap L ∧ FrameEnd U o U' L ({ frames := 0, cells := 0, slots := 0, locals := 0 } : Room).cells ({ frames := 0, cells := 0, slots := 0, locals := 0 } : Room).slots) := by
  refine MetFree.of_bodySF (plainFor_of_name pn_ebbtide_serve_History_Event) hisR ?_
  intro p e s m args below meth c s₁ Bd hml0 hP hK
  obtain ⟨rfl, hZ, hh⟩ := hP
  have hx := Bd.exec
  have hby := Bd.bytes
  have hml : c.maxLocals = 1 := hml0
  have hown : s.vm.findClass "ebbtide/serve/History$Event" = some m.cls := findClass_of_methodNamed Bd.named
  have X0 : Stand p l e ({ frames := 0, cells := 0, slots := 0, locals := 0 } : Room) s m #[(.ref a_OFF)] below meth c s₁ [] 0 0 := Stand.of_body Bd
  have e0 : s₁.heap = h0 := by rw [← hh, Bd.state]; rfl
  have N0 := Fr.nil n0
  have pre0 : ∀ t, Steps p.tables e below (s₁.setTop (mkF m 0 #[.val (.ref a_OFF)] [])) t → Steps p.tables e below (s₁.setTop (entryFrame m #[(.ref a_OFF)] 1)) t := fun t k => castTop (by first | (simp [entryFrame, mkF, argsToLocals, Value.category]; done) | rfl) k
  obtain ⟨S_START, E_START, S_READ, E_READ, S_UNREAD, E_UNREAD, S_POWER_ON, E_POWER_ON, S_POWER_OFF, E_POWER_OFF, S_HOLD_ON, E_HOLD_ON, S_HOLD_OFF, E_HOLD_OFF, S_RELEASE, E_RELEASE, S_SPAN_START, E_SPAN_START, S_SPAN_END, E_SPAN_END, S_ON, E_ON, S_OFF, E_OFF, F_START_ordinal, F_HOLD_ON_ordinal, F_HOLD_OFF_ordinal, F_RELEASE_ordinal, F_POWER_ON_ordinal, F_READ_ordinal, F_POWER_OFF_ordinal, F_UNREAD_ordinal, F_SPAN_START_ordinal, F_SPAN_END_ordinal, F_OFF_ordinal, F_ON_ordinal⟩ := id hS
  obtain ⟨T1, X1, e1, st1⟩ := getS2 X0 hx hZ hown (host := "") (Or.inl (hw _ (List.mem_of_getElem? (i := 50) rfl))) Via.refl e0 S_ON (g := (mkF m 9 #[.val (.ref a_OFF)] [(.ref a_OFF)])) rfl (hb hby d4_9)
  obtain ⟨T2, X2, e2, st2⟩ := getS2 X1 hx hZ hown (host := "") (Or.inl (hw _ (List.mem_of_getElem? (i := 31) rfl))) Via.refl e1 S_HOLD_OFF (g := (mkF m 21 #[.val (.ref a_OFF)] [])) rfl (hb hby d4_21)
  obtain ⟨fs, hr, hrun, hended, hW, hsame⟩ := X2.leave (v := some (.ref a_HOLD_OFF)) (fun h => by rw [Bd.returns] at h; cases h)
  refine ⟨_, _, pre0 _ ?_, hrun, hended, _, _, rfl, ?_, ⟨_, rfl⟩, hW, hsame.mono (by decide) (by decide)⟩
  · show Steps p.tables e below (s₁.setTop (mkF m 0 #[.val (.ref a_OFF)] [])) _
    refine XS.aloadN X0.here hx rfl (hb hby d4_0) rfl rfl ?_
    show Steps p.tables e below (s₁.setTop (mkF m 1 #[.val (.ref a_OFF)] [(.ref a_OFF)])) _
    refine XS.ifnonnullYes X0.here hx rfl (pc0 := 1) (pc' := 8) rfl (hb hby d4_1) rfl (by decide) (by decide) ?_
    show Steps p.tables e below (s₁.setTop (mkF m 8 #[.val (.ref a_OFF)] [])) _
    refine XS.aloadN X0.here hx rfl (hb hby d4_8) rfl rfl ?_
    show Steps p.tables e below (s₁.setTop (mkF m 9 #[.val (.ref a_OFF)] [(.ref a_OFF)])) _
    refine st1 _ ?_
    show Steps p.tables e below (T1.setTop (mkF m 12 #[.val (.ref a_OFF)] [(.ref a_ON), (.ref a_OFF)])) _
    refine Jvm.RoadKit.acmp (g := (mkF m 12 #[.val (.ref a_OFF)] [(.ref a_ON), (.ref a_OFF)])) X1 hx rfl rfl rfl (pc0 := 12) (pc' := 21) (same := false) rfl (hb hby d4_12) rfl (decide_eq_false fun q => (Fld.ne F_OFF_ordinal F_ON_ordinal (fun q => absurd (Value.int.inj q) (by decide))) (Value.ref.inj q)) (by decide) (by decide) ?_
    show Steps p.tables e below (T1.setTop (mkF m 21 #[.val (.ref a_OFF)] [])) _
    refine st2 _ ?_
    show Steps p.tables e below (T2.setTop (mkF m 24 #[.val (.ref a_OFF)] [(.ref a_HOLD_OFF)])) _
    exact own_retA X2 hx Bd.returns rfl rfl (hb hby d4_24) hr
  · exact ⟨rfl, N0, e2⟩
set_option maxRecDepth 65536 in
set_option maxHeartbeats 40000000 in
theorem rm0_27 (l : Launch) (Z : State) (a0 : Array Value) (hw : ∀ d ∈ tables_1, d.before a0 Z = true) (ws : List Jvm.Cond) (a_START : Addr) (a_READ : Addr) (a_UNREAD : Addr) (a_POWER_ON : Addr) (a_POWER_OFF : Addr) (a_HOLD_ON : Addr) (a_HOLD_OFF : Addr) (a_RELEASE : Addr) (a_SPAN_START : Addr) (a_SPAN_END : Addr) (a_ON : Addr) (a_OFF : Addr) (p1 : Int32) (h0 : Heap) (n0 : Nat) (Z0 : n0 ≤ h0.size) (hS : Wd Z h0 a_START a_READ a_UNREAD a_POWER_ON a_POWER_OFF a_HOLD_ON a_HOLD_OFF a_RELEASE a_SPAN_START a_SPAN_END a_ON a_OFF) (hi : ((p1 &&& (2147483647 : Int32)) % (10 : Int32)) = (6 : Int32)) :
    MetFree l x (head1 (Jvm.Cond.code x code maxLocals ret :: ws) room_1) (fun a U => a = #[(.int p1)] ∧ Z.Warmed39 U.vm ∧ U.heap = h0) (fun _ _ _ _ _ => True) (fun _ U o U' => ∃ v L, o = .returned v ∧ Q0 n0 v L ∧ FrameEnd U o U' L room_1.cells room_1.slots) := by
  refine MetFree.of_bodySF (plainFor_of_name pn_ebbtide_serve_HistoryHoldsPinLaw) hisR ?_
  intro p e s m args below meth c s₁ Bd hml0 hP hK
  obtain ⟨rfl, hZ, hh⟩ := hP
  have hx := Bd.exec
  have hby := Bd.bytes
  have hml : c.maxLocals = 6 := hml0
  have hown : s.vm.findClass "ebbtide/serve/HistoryHoldsPinLaw" = some m.cls := findClass_of_methodNamed Bd.named
  have X0 : Stand p l e room_1 s m #[(.int p1)] below meth c s₁ [] 0 0 := Stand.of_body Bd
  have e0 : s₁.heap = h0 := by rw [← hh, Bd.state]; rfl
  have N0 := Fr.nil n0
  have pre0 : ∀ t, Steps p.tables e below (s₁.setTop (mkF m 0 #[.val (.int p1), .unset, .unset, .unset, .unset, .unset] [])) t → Steps p.tables e below (s₁.setTop (entryFrame m #[(.int p1)] maxLocals)) t := fun t k => castTop (by first | (simp [entryFrame, mkF, argsToLocals, Value.category, maxLocals]; done) | rfl) k
  obtain ⟨S_START, E_START, S_READ, E_READ, S_UNREAD, E_UNREAD, S_POWER_ON, E_POWER_ON, S_POWER_OFF, E_POWER_OFF, S_HOLD_ON, E_HOLD_ON, S_HOLD_OFF, E_HOLD_OFF, S_RELEASE, E_RELEASE, S_SPAN_START, E_SPAN_START, S_SPAN_END, E_SPAN_END, S_ON, E_ON, S_OFF, E_OFF, F_START_ordinal, F_HOLD_ON_ordinal, F_HOLD_OFF_ordinal, F_RELEASE_ordinal, F_POWER_ON_ordinal, F_READ_ordinal, F_POWER_OFF_ordinal, F_UNREAD_ordinal, F_SPAN_START_ordinal, F_SPAN_END_ordinal, F_OFF_ordinal, F_ON_ordinal⟩ := id hS
  obtain ⟨T1, h1, k1, X1, e1, E1, A1, O1, st1⟩ := newR X0 hx hZ hown (hw _ (List.mem_of_getElem? (i := 0) rfl)) (hw _ (List.mem_of_getElem? (i := 1) rfl)) e0 (g := (mkF m 2 #[.val (.int p1), .unset, .unset, .unset, .unset, .unset] [(.int (10 : Int32))])) rfl (hb hby at_2) rfl (by decide) (cap := 10) (by decide) (by decide) (by decide) (by decide)
  obtain ⟨b1, g1⟩ : ∃ z, z = h0.size := ⟨_, rfl⟩
  rw [← g1] at A1 st1
  have V1 : Arv Z h1 b1 k1 (.object "ebbtide/serve/History$Event") (10 : Int32) [.null, .null, .null, .null, .null, .null, .null, .null, .null, .null] .null := (Arv.new A1 (by decide)).pad (pad_rep [] .null 10)
  have K1 : Keep h0 h1 [] := (Keep.refl h0 []).ext E1
  have sz_b1 : h0.size ≤ b1 := Nat.le_trans (Keep.refl h0 []).1 (Nat.le_of_eq g1.symm)
  have gz_b1 : n0 ≤ b1 := Nat.le_trans Z0 sz_b1
  obtain ⟨T2, X2, e2, st2⟩ := getS2 X1 hx hZ hown (host := "") (Or.inl (hw _ (List.mem_of_getElem? (i := 2) rfl))) Via.refl e1 (own_sk S_START K1) (g := (mkF m 7 #[.val (.int p1), .unset, .unset, .unset, .unset, .unset] [(.int (0 : Int32)), (.ref b1), (.ref b1)])) rfl (hb hby at_7)
  obtain ⟨cl3, Ar3, qq3, Sz3, Ng3, Hs3, Gf3⟩ := V1
  have hin3 : ¬ ((0 : Int32) < 0 ∨ cl3.slots.size ≤ ((0 : Int32)).toNatClampNeg) := inb_of Sz3 ⟨by decide, by decide⟩
  obtain ⟨T4, h4, X4, e4, W4, st4⟩ := stR X2 hx hZ e2 Ar3 (j := (0 : Int32)) hin3 rfl (Sto.ofV Ar3 qq3 O1 (Ins.self (E_START.keep K1))) (g := (mkF m 10 #[.val (.int p1), .unset, .unset, .unset, .unset, .unset] [(.ref a_START), (.int (0 : Int32)), (.ref b1), (.ref b1)])) rfl rfl (hb hby at_10)
  have V4 : Arv Z h4 b1 k1 (.object "ebbtide/serve/History$Event") (10 : Int32) [(.ref a_START), .null, .null, .null, .null, .null, .null, .null, .null, .null] .null := Arv.set Ar3 qq3 Sz3 Ng3 Hs3 Gf3 rfl W4 0 rfl (Nat.le_of_ble_eq_true rfl)
  have K4 : Keep h0 h4 [] := K1.wr W4 (Or.inr sz_b1)
  have N4 := Fr.snoc X4 N0 gz_b1
  obtain ⟨T5, X5, e5, st5⟩ := getS2 X4 hx hZ hown (host := "") (Or.inl (hw _ (List.mem_of_getElem? (i := 6) rfl))) Via.refl e4 (own_sk S_READ K4) (g := (mkF m 13 #[.val (.int p1), .unset, .unset, .unset, .unset, .unset] [(.int (1 : Int32)), (.ref b1), (.ref b1)])) rfl (hb hby at_13)
  obtain ⟨cl6, Ar6, qq6, Sz6, Ng6, Hs6, Gf6⟩ := V4
  have hin6 : ¬ ((1 : Int32) < 0 ∨ cl6.slots.size ≤ ((1 : Int32)).toNatClampNeg) := inb_of Sz6 ⟨by decide, by decide⟩
  obtain ⟨T7, h7, X7, e7, W7, st7⟩ := stR X5 hx hZ e5 Ar6 (j := (1 : Int32)) hin6 rfl (Sto.ofV Ar6 qq6 O1 (Ins.self (E_READ.keep K4))) (g := (mkF m 16 #[.val (.int p1), .unset, .unset, .unset, .unset, .unset] [(.ref a_READ), (.int (1 : Int32)), (.ref b1), (.ref b1)])) rfl rfl (hb hby at_16)
  have V7 : Arv Z h7 b1 k1 (.object "ebbtide/serve/History$Event") (10 : Int32) [(.ref a_START), (.ref a_READ), .null, .null, .null, .null, .null, .null, .null, .null] .null := Arv.set Ar6 qq6 Sz6 Ng6 Hs6 Gf6 rfl W7 1 rfl (Nat.le_of_ble_eq_true rfl)
  have K7 : Keep h0 h7 [] := K4.wr W7 (Or.inr sz_b1)
  have N7 := Fr.snoc X7 N4 gz_b1
  obtain ⟨T8, X8, e8, st8⟩ := getS2 X7 hx hZ hown (host := "") (Or.inl (hw _ (List.mem_of_getElem? (i := 8) rfl))) Via.refl e7 (own_sk S_UNREAD K7) (g := (mkF m 19 #[.val (.int p1), .unset, .unset, .unset, .unset, .unset] [(.int (2 : Int32)), (.ref b1), (.ref b1)])) rfl (hb hby at_19)
  obtain ⟨cl9, Ar9, qq9, Sz9, Ng9, Hs9, Gf9⟩ := V7
  have hin9 : ¬ ((2 : Int32) < 0 ∨ cl9.slots.size ≤ ((2 : Int32)).toNatClampNeg) := inb_of Sz9 ⟨by decide, by decide⟩
  obtain ⟨T10, h10, X10, e10, W10, st10⟩ := stR X8 hx hZ e8 Ar9 (j := (2 : Int32)) hin9 rfl (Sto.ofV Ar9 qq9 O1 (Ins.self (E_UNREAD.keep K7))) (g := (mkF m 22 #[.val (.int p1), .unset, .unset, .unset, .unset, .unset] [(.ref a_UNREAD), (.int (2 : Int32)), (.ref b1), (.ref b1)])) rfl rfl (hb hby at_22)
  have V10 : Arv Z h10 b1 k1 (.object "ebbtide/serve/History$Event") (10 : Int32) [(.ref a_START), (.ref a_READ), (.ref a_UNREAD), .null, .null, .null, .null, .null, .null, .null] .null := Arv.set Ar9 qq9 Sz9 Ng9 Hs9 Gf9 rfl W10 2 rfl (Nat.le_of_ble_eq_true rfl)
  have K10 : Keep h0 h10 [] := K7.wr W10 (Or.inr sz_b1)
  have N10 := Fr.snoc X10 N7 gz_b1
  obtain ⟨T11, X11, e11, st11⟩ := getS2 X10 hx hZ hown (host := "") (Or.inl (hw _ (List.mem_of_getElem? (i := 10) rfl))) Via.refl e10 (own_sk S_POWER_ON K10) (g := (mkF m 25 #[.val (.int p1), .unset, .unset, .unset, .unset, .unset] [(.int (3 : Int32)), (.ref b1), (.ref b1)])) rfl (hb hby at_25)
  obtain ⟨cl12, Ar12, qq12, Sz12, Ng12, Hs12, Gf12⟩ := V10
  have hin12 : ¬ ((3 : Int32) < 0 ∨ cl12.slots.size ≤ ((3 : Int32)).toNatClampNeg) := inb_of Sz12 ⟨by decide, by decide⟩
  obtain ⟨T13, h13, X13, e13, W13, st13⟩ := stR X11 hx hZ e11 Ar12 (j := (3 : Int32)) hin12 rfl (Sto.ofV Ar12 qq12 O1 (Ins.self (E_POWER_ON.keep K10))) (g := (mkF m 28 #[.val (.int p1), .unset, .unset, .unset, .unset, .unset] [(.ref a_POWER_ON), (.int (3 : Int32)), (.ref b1), (.ref b1)])) rfl rfl (hb hby at_28)
  have V13 : Arv Z h13 b1 k1 (.object "ebbtide/serve/History$Event") (10 : Int32) [(.ref a_START), (.ref a_READ), (.ref a_UNREAD), (.ref a_POWER_ON), .null, .null, .null, .null, .null, .null] .null := Arv.set Ar12 qq12 Sz12 Ng12 Hs12 Gf12 rfl W13 3 rfl (Nat.le_of_ble_eq_true rfl)
  have K13 : Keep h0 h13 [] := K10.wr W13 (Or.inr sz_b1)
  have N13 := Fr.snoc X13 N10 gz_b1
  obtain ⟨T14, X14, e14, st14⟩ := getS2 X13 hx hZ hown (host := "") (Or.inl (hw _ (List.mem_of_getElem? (i := 12) rfl))) Via.refl e13 (own_sk S_POWER_OFF K13) (g := (mkF m 31 #[.val (.int p1), .unset, .unset, .unset, .unset, .unset] [(.int (4 : Int32)), (.ref b1), (.ref b1)])) rfl (hb hby at_31)
  obtain ⟨cl15, Ar15, qq15, Sz15, Ng15, Hs15, Gf15⟩ := V13
  have hin15 : ¬ ((4 : Int32) < 0 ∨ cl15.slots.size ≤ ((4 : Int32)).toNatClampNeg) := inb_of Sz15 ⟨by decide, by decide⟩
  obtain ⟨T16, h16, X16, e16, W16, st16⟩ := stR X14 hx hZ e14 Ar15 (j := (4 : Int32)) hin15 rfl (Sto.ofV Ar15 qq15 O1 (Ins.self (E_POWER_OFF.keep K13))) (g := (mkF m 34 #[.val (.int p1), .unset, .unset, .unset, .unset, .unset] [(.ref a_POWER_OFF), (.int (4 : Int32)), (.ref b1), (.ref b1)])) rfl rfl (hb hby at_34)
  have V16 : Arv Z h16 b1 k1 (.object "ebbtide/serve/History$Event") (10 : Int32) [(.ref a_START), (.ref a_READ), (.ref a_UNREAD), (.ref a_POWER_ON), (.ref a_POWER_OFF), .null, .null, .null, .null, .null] .null := Arv.set Ar15 qq15 Sz15 Ng15 Hs15 Gf15 rfl W16 4 rfl (Nat.le_of_ble_eq_true rfl)
  have K16 : Keep h0 h16 [] := K13.wr W16 (Or.inr sz_b1)
  have N16 := Fr.snoc X16 N13 gz_b1
  obtain ⟨T17, X17, e17, st17⟩ := getS2 X16 hx hZ hown (host := "") (Or.inl (hw _ (List.mem_of_getElem? (i := 14) rfl))) Via.refl e16 (own_sk S_HOLD_ON K16) (g := (mkF m 37 #[.val (.int p1), .unset, .unset, .unset, .unset, .unset] [(.int (5 : Int32)), (.ref b1), (.ref b1)])) rfl (hb hby at_37)
  obtain ⟨cl18, Ar18, qq18, Sz18, Ng18, Hs18, Gf18⟩ := V16
  have hin18 : ¬ ((5 : Int32) < 0 ∨ cl18.slots.size ≤ ((5 : Int32)).toNatClampNeg) := inb_of Sz18 ⟨by decide, by decide⟩
  obtain ⟨T19, h19, X19, e19, W19, st19⟩ := stR X17 hx hZ e17 Ar18 (j := (5 : Int32)) hin18 rfl (Sto.ofV Ar18 qq18 O1 (Ins.self (E_HOLD_ON.keep K16))) (g := (mkF m 40 #[.val (.int p1), .unset, .unset, .unset, .unset, .unset] [(.ref a_HOLD_ON), (.int (5 : Int32)), (.ref b1), (.ref b1)])) rfl rfl (hb hby at_40)
  have V19 : Arv Z h19 b1 k1 (.object "ebbtide/serve/History$Event") (10 : Int32) [(.ref a_START), (.ref a_READ), (.ref a_UNREAD), (.ref a_POWER_ON), (.ref a_POWER_OFF), (.ref a_HOLD_ON), .null, .null, .null, .null] .null := Arv.set Ar18 qq18 Sz18 Ng18 Hs18 Gf18 rfl W19 5 rfl (Nat.le_of_ble_eq_true rfl)
  have K19 : Keep h0 h19 [] := K16.wr W19 (Or.inr sz_b1)
  have N19 := Fr.snoc X19 N16 gz_b1
  obtain ⟨T20, X20, e20, st20⟩ := getS2 X19 hx hZ hown (host := "") (Or.inl (hw _ (List.mem_of_getElem? (i := 16) rfl))) Via.refl e19 (own_sk S_HOLD_OFF K19) (g := (mkF m 44 #[.val (.int p1), .unset, .unset, .unset, .unset, .unset] [(.int (6 : Int32)), (.ref b1), (.ref b1)])) rfl (hb hby at_44)
  obtain ⟨cl21, Ar21, qq21, Sz21, Ng21, Hs21, Gf21⟩ := V19
  have hin21 : ¬ ((6 : Int32) < 0 ∨ cl21.slots.size ≤ ((6 : Int32)).toNatClampNeg) := inb_of Sz21 ⟨by decide, by decide⟩
  obtain ⟨T22, h22, X22, e22, W22, st22⟩ := stR X20 hx hZ e20 Ar21 (j := (6 : Int32)) hin21 rfl (Sto.ofV Ar21 qq21 O1 (Ins.self (E_HOLD_OFF.keep K19))) (g := (mkF m 47 #[.val (.int p1), .unset, .unset, .unset, .unset, .unset] [(.ref a_HOLD_OFF), (.int (6 : Int32)), (.ref b1), (.ref b1)])) rfl rfl (hb hby at_47)
  have V22 : Arv Z h22 b1 k1 (.object "ebbtide/serve/History$Event") (10 : Int32) [(.ref a_START), (.ref a_READ), (.ref a_UNREAD), (.ref a_POWER_ON), (.ref a_POWER_OFF), (.ref a_HOLD_ON), (.ref a_HOLD_OFF), .null, .null, .null] .null := Arv.set Ar21 qq21 Sz21 Ng21 Hs21 Gf21 rfl W22 6 rfl (Nat.le_of_ble_eq_true rfl)
  have K22 : Keep h0 h22 [] := K19.wr W22 (Or.inr sz_b1)
  have N22 := Fr.snoc X22 N19 gz_b1
  obtain ⟨T23, X23, e23, st23⟩ := getS2 X22 hx hZ hown (host := "") (Or.inl (hw _ (List.mem_of_getElem? (i := 18) rfl))) Via.refl e22 (own_sk S_RELEASE K22) (g := (mkF m 51 #[.val (.int p1), .unset, .unset, .unset, .unset, .unset] [(.int (7 : Int32)), (.ref b1), (.ref b1)])) rfl (hb hby at_51)
  obtain ⟨cl24, Ar24, qq24, Sz24, Ng24, Hs24, Gf24⟩ := V22
  have hin24 : ¬ ((7 : Int32) < 0 ∨ cl24.slots.size ≤ ((7 : Int32)).toNatClampNeg) := inb_of Sz24 ⟨by decide, by decide⟩
  obtain ⟨T25, h25, X25, e25, W25, st25⟩ := stR X23 hx hZ e23 Ar24 (j := (7 : Int32)) hin24 rfl (Sto.ofV Ar24 qq24 O1 (Ins.self (E_RELEASE.keep K22))) (g := (mkF m 54 #[.val (.int p1), .unset, .unset, .unset, .unset, .unset] [(.ref a_RELEASE), (.int (7 : Int32)), (.ref b1), (.ref b1)])) rfl rfl (hb hby at_54)
  have V25 : Arv Z h25 b1 k1 (.object "ebbtide/serve/History$Event") (10 : Int32) [(.ref a_START), (.ref a_READ), (.ref a_UNREAD), (.ref a_POWER_ON), (.ref a_POWER_OFF), (.ref a_HOLD_ON), (.ref a_HOLD_OFF), (.ref a_RELEASE), .null, .null] .null := Arv.set Ar24 qq24 Sz24 Ng24 Hs24 Gf24 rfl W25 7 rfl (Nat.le_of_ble_eq_true rfl)
  have K25 : Keep h0 h25 [] := K22.wr W25 (Or.inr sz_b1)
  have N25 := Fr.snoc X25 N22 gz_b1
  obtain ⟨T26, X26, e26, st26⟩ := getS2 X25 hx hZ hown (host := "") (Or.inl (hw _ (List.mem_of_getElem? (i := 20) rfl))) Via.refl e25 (own_sk S_SPAN_START K25) (g := (mkF m 58 #[.val (.int p1), .unset, .unset, .unset, .unset, .unset] [(.int (8 : Int32)), (.ref b1), (.ref b1)])) rfl (hb hby at_58)
  obtain ⟨cl27, Ar27, qq27, Sz27, Ng27, Hs27, Gf27⟩ := V25
  have hin27 : ¬ ((8 : Int32) < 0 ∨ cl27.slots.size ≤ ((8 : Int32)).toNatClampNeg) := inb_of Sz27 ⟨by decide, by decide⟩
  obtain ⟨T28, h28, X28, e28, W28, st28⟩ := stR X26 hx hZ e26 Ar27 (j := (8 : Int32)) hin27 rfl (Sto.ofV Ar27 qq27 O1 (Ins.self (E_SPAN_START.keep K25))) (g := (mkF m 61 #[.val (.int p1), .unset, .unset, .unset, .unset, .unset] [(.ref a_SPAN_START), (.int (8 : Int32)), (.ref b1), (.ref b1)])) rfl rfl (hb hby at_61)
  have V28 : Arv Z h28 b1 k1 (.object "ebbtide/serve/History$Event") (10 : Int32) [(.ref a_START), (.ref a_READ), (.ref a_UNREAD), (.ref a_POWER_ON), (.ref a_POWER_OFF), (.ref a_HOLD_ON), (.ref a_HOLD_OFF), (.ref a_RELEASE), (.ref a_SPAN_START), .null] .null := Arv.set Ar27 qq27 Sz27 Ng27 Hs27 Gf27 rfl W28 8 rfl (Nat.le_of_ble_eq_true rfl)
  have K28 : Keep h0 h28 [] := K25.wr W28 (Or.inr sz_b1)
  have N28 := Fr.snoc X28 N25 gz_b1
  obtain ⟨T29, X29, e29, st29⟩ := getS2 X28 hx hZ hown (host := "") (Or.inl (hw _ (List.mem_of_getElem? (i := 22) rfl))) Via.refl e28 (own_sk S_SPAN_END K28) (g := (mkF m 65 #[.val (.int p1), .unset, .unset, .unset, .unset, .unset] [(.int (9 : Int32)), (.ref b1), (.ref b1)])) rfl (hb hby at_65)
  obtain ⟨cl30, Ar30, qq30, Sz30, Ng30, Hs30, Gf30⟩ := V28
  have hin30 : ¬ ((9 : Int32) < 0 ∨ cl30.slots.size ≤ ((9 : Int32)).toNatClampNeg) := inb_of Sz30 ⟨by decide, by decide⟩
  obtain ⟨T31, h31, X31, e31, W31, st31⟩ := stR X29 hx hZ e29 Ar30 (j := (9 : Int32)) hin30 rfl (Sto.ofV Ar30 qq30 O1 (Ins.self (E_SPAN_END.keep K28))) (g := (mkF m 68 #[.val (.int p1), .unset, .unset, .unset, .unset, .unset] [(.ref a_SPAN_END), (.int (9 : Int32)), (.ref b1), (.ref b1)])) rfl rfl (hb hby at_68)
  have V31 : Arv Z h31 b1 k1 (.object "ebbtide/serve/History$Event") (10 : Int32) [(.ref a_START), (.ref a_READ), (.ref a_UNREAD), (.ref a_POWER_ON), (.ref a_POWER_OFF), (.ref a_HOLD_ON), (.ref a_HOLD_OFF), (.ref a_RELEASE), (.ref a_SPAN_START), (.ref a_SPAN_END)] .null := Arv.set Ar30 qq30 Sz30 Ng30 Hs30 Gf30 rfl W31 9 rfl (Nat.le_of_ble_eq_true rfl)
  have K31 : Keep h0 h31 [] := K28.wr W31 (Or.inr sz_b1)
  have N31 := Fr.snoc X31 N28 gz_b1
  obtain ⟨cl32, Ar32, qq32, Sz32, Ng32, Hs32, Gf32⟩ := V31
  have hin32 : ¬ ((6 : Int32) < 0 ∨ cl32.slots.size ≤ ((6 : Int32)).toNatClampNeg) := inb_of Sz32 ⟨by decide, by decide⟩
  have hat32 : cl32.slots[((6 : Int32)).toNatClampNeg]? = some (.ref a_HOLD_OFF) := Hs32.at hin32 rfl
  obtain ⟨cq33, kq33, q33a, q33b, q33c⟩ := isOf hZ e31 (E_HOLD_OFF.keep K31)
  obtain ⟨_, _, ⟨T33, L33, k33, n33⟩, -, X33, ⟨Lc33, hQ33, l33, y33, z33⟩, st33⟩ := X31.virtualBack hx (y := (⟨"ebbtide/serve/History$Event", "holds", "()Z"⟩ : MethodName)) (z := (⟨"ebbtide/serve/History$Event", "holds", "()Z"⟩ : MethodName)) hown (mvT hZ (hw _ (List.mem_of_getElem? (i := 25) rfl))) (mvT hZ (hw _ (List.mem_of_getElem? (i := 26) rfl))) (notFace_of_selects (args := #[]) (mvT hZ (hw _ (List.mem_of_getElem? (i := 28) rfl)))) (mvT hZ (hw _ (List.mem_of_getElem? (i := 28) rfl))) (mvT hZ (hw _ (List.mem_of_getElem? (i := 27) rfl))) (by decide) (backOf (W := 0) (rm1_28 l Z a0 hw [] a_START a_READ a_UNREAD a_POWER_ON a_POWER_OFF a_HOLD_ON a_HOLD_OFF a_RELEASE a_SPAN_START a_SPAN_END a_ON a_OFF p1 h31 n0 (Nat.le_trans Z0 K31.1) (own_wk hS K31)) hZ (hw _ (List.mem_of_getElem? (i := 29) rfl)) (hw _ (List.mem_of_getElem? (i := 3) rfl)) (by decide) (by decide)) q33a q33c (g := (mkF m 81 #[.val (.int p1), .val (.ref b1), .val (.ref a_HOLD_OFF), .unset, .unset, .unset] [(.ref a_HOLD_OFF)])) rfl (by rw [hml]; rfl) (Steps.refl _) (argsL := []) (rest := []) (lenOf pd_0 rfl) rfl (by show 2 * 0 + _ ≤ _; exact Nat.le_of_eq rfl) (hb hby at_81) (fun _ _ => ⟨rfl, e31, (by decide : 1 + 0 ≤ _), (by decide : 10 + 0 ≤ _)⟩)
  dsimp only [Pt.U, Pt.locs, Pt.cells, Pt.slots] at X33 l33 y33 z33 st33 hQ33
  subst l33 y33 z33
  obtain ⟨rfl, N33q, e33⟩ := hQ33
  have N33 := Fr.app N31 N33q
  obtain ⟨cq34, kq34, q34a, q34b, q34c⟩ := isOf hZ e33 (E_HOLD_OFF.keep K31)
  obtain ⟨_, _, ⟨T34, L34, k34, n34⟩, -, X34, ⟨Lc34, hQ34, l34, y34, z34⟩, st34⟩ := X33.virtualBack hx (y := (⟨"ebbtide/serve/History$Event", "hold", "()Lebbtide/serve/Hold;"⟩ : MethodName)) (z := (⟨"ebbtide/serve/History$Event", "hold", "()Lebbtide/serve/Hold;"⟩ : MethodName)) hown (mvT hZ (hw _ (List.mem_of_getElem? (i := 33) rfl))) (mvT hZ (hw _ (List.mem_of_getElem? (i := 34) rfl))) (notFace_of_selects (args := #[]) (mvT hZ (hw _ (List.mem_of_getElem? (i := 36) rfl)))) (mvT hZ (hw _ (List.mem_of_getElem? (i := 36) rfl))) (mvT hZ (hw _ (List.mem_of_getElem? (i := 35) rfl))) (by decide) (backOf (W := 0) (rm2_29 l Z a0 hw [] a_START a_READ a_UNREAD a_POWER_ON a_POWER_OFF a_HOLD_ON a_HOLD_OFF a_RELEASE a_SPAN_START a_SPAN_END a_ON a_OFF p1 h31 n0 (Nat.le_trans Z0 K31.1) (own_wk hS K31)) hZ (hw _ (List.mem_of_getElem? (i := 37) rfl)) (hw _ (List.mem_of_getElem? (i := 3) rfl)) (by decide) (by decide)) q34a q34c (g := (mkF m 86 #[.val (.int p1), .val (.ref b1), .val (.ref a_HOLD_OFF), .val (.int (1 : Int32)), .unset, .unset] [(.ref a_HOLD_OFF)])) rfl (by rw [hml]; rfl) (Steps.refl _) (argsL := []) (rest := []) (lenOf pd_2 rfl) rfl (by show 2 * 0 + _ ≤ _; exact Nat.le_of_eq rfl) (hb hby at_86) (fun _ _ => ⟨rfl, e33, (by decide : 1 + 0 ≤ _), (by decide : 10 + 0 ≤ _)⟩)
  dsimp only [Pt.U, Pt.locs, Pt.cells, Pt.slots] at X34 l34 y34 z34 st34 hQ34
  subst l34 y34 z34
  obtain ⟨rfl, N34q, e34⟩ := hQ34
  have N34 := Fr.app N33 N34q
  obtain ⟨_, _, ⟨T35, L35, k35, n35⟩, -, X35, ⟨Lc35, hQ35, l35, y35, z35⟩, st35⟩ := Jvm.LawKit.callS X34 hx (y := (⟨"ebbtide/serve/History$Event", "of", "(Lebbtide/serve/Hold;)Lebbtide/serve/History$Event;"⟩ : MethodName)) hown (mvT hZ (hw _ (List.mem_of_getElem? (i := 47) rfl))) (mvT hZ (hw _ (List.mem_of_getElem? (i := 48) rfl))) (mvT hZ (hw _ (List.mem_of_getElem? (i := 3) rfl))) (mvT hZ (hw _ (List.mem_of_getElem? (i := 49) rfl))) (by decide) (backOf (W := 0) (rm4_31 l Z a0 hw [] a_START a_READ a_UNREAD a_POWER_ON a_POWER_OFF a_HOLD_ON a_HOLD_OFF a_RELEASE a_SPAN_START a_SPAN_END a_ON a_OFF p1 h31 n0 (Nat.le_trans Z0 K31.1) (own_wk hS K31)) hZ (hw _ (List.mem_of_getElem? (i := 49) rfl)) (hw _ (List.mem_of_getElem? (i := 3) rfl)) (by decide) (by decide)) (g := (mkF m 93 #[.val (.int p1), .val (.ref b1), .val (.ref a_HOLD_OFF), .val (.int (1 : Int32)), .val (.ref a_OFF), .unset] [(.ref a_OFF)])) rfl (by rw [hml]; rfl) (argsL := [(.ref a_OFF)]) (rest := []) (lenOf pd_3 rfl) rfl (by show 2 * 0 + _ ≤ _; exact Nat.le_of_eq rfl) (hb hby at_93) (fun _ _ => ⟨rfl, e34, (by decide : 1 + 0 ≤ _), (by decide : 10 + 0 ≤ _)⟩)
  dsimp only [Pt.U, Pt.locs, Pt.cells, Pt.slots] at X35 l35 y35 z35 st35 hQ35
  subst l35 y35 z35
  obtain ⟨rfl, N35q, e35⟩ := hQ35
  have N35 := Fr.app N34 N35q
  obtain ⟨fs, hr, hrun, hended, hW, hsame⟩ := X35.leave (v := some (.int (1 : Int32))) (fun h => by rw [Bd.returns] at h; cases h)
  refine ⟨_, _, pre0 _ ?_, hrun, hended, _, _, rfl, ?_, ⟨_, rfl⟩, hW, hsame.mono (by decide) (by decide)⟩
  · show Steps p.tables e below (s₁.setTop (mkF m 0 #[.val (.int p1), .unset, .unset, .unset, .unset, .unset] [])) _
    refine XS.bipush X0.here hx rfl (hb hby at_0) ?_
    show Steps p.tables e below (s₁.setTop (mkF m 2 #[.val (.int p1), .unset, .unset, .unset, .unset, .unset] [(.int (10 : Int32))])) _
    refine st1 _ ?_
    show Steps p.tables e below (T1.setTop (mkF m 5 #[.val (.int p1), .unset, .unset, .unset, .unset, .unset] [(.ref b1)])) _
    refine XS.dup X1.here hx rfl (hb hby at_5) rfl rfl ?_
    show Steps p.tables e below (T1.setTop (mkF m 6 #[.val (.int p1), .unset, .unset, .unset, .unset, .unset] [(.ref b1), (.ref b1)])) _
    refine XS.iconst X1.here hx rfl (hb hby at_6) ?_
    show Steps p.tables e below (T1.setTop (mkF m 7 #[.val (.int p1), .unset, .unset, .unset, .unset, .unset] [(.int (0 : Int32)), (.ref b1), (.ref b1)])) _
    refine st2 _ ?_
    show Steps p.tables e below (T2.setTop (mkF m 10 #[.val (.int p1), .unset, .unset, .unset, .unset, .unset] [(.ref a_START), (.int (0 : Int32)), (.ref b1), (.ref b1)])) _
    refine st4 _ ?_
    show Steps p.tables e below (T4.setTop (mkF m 11 #[.val (.int p1), .unset, .unset, .unset, .unset, .unset] [(.ref b1)])) _
    refine XS.dup X4.here hx rfl (hb hby at_11) rfl rfl ?_
    show Steps p.tables e below (T4.setTop (mkF m 12 #[.val (.int p1), .unset, .unset, .unset, .unset, .unset] [(.ref b1), (.ref b1)])) _
    refine XS.iconst X4.here hx rfl (hb hby at_12) ?_
    show Steps p.tables e below (T4.setTop (mkF m 13 #[.val (.int p1), .unset, .unset, .unset, .unset, .unset] [(.int (1 : Int32)), (.ref b1), (.ref b1)])) _
    refine st5 _ ?_
    show Steps p.tables e below (T5.setTop (mkF m 16 #[.val (.int p1), .unset, .unset, .unset, .unset, .unset] [(.ref a_READ), (.int (1 : Int32)), (.ref b1), (.ref b1)])) _
    refine st7 _ ?_
    show Steps p.tables e below (T7.setTop (mkF m 17 #[.val (.int p1), .unset, .unset, .unset, .unset, .unset] [(.ref b1)])) _
    refine XS.dup X7.here hx rfl (hb hby at_17) rfl rfl ?_
    show Steps p.tables e below (T7.setTop (mkF m 18 #[.val (.int p1), .unset, .unset, .unset, .unset, .unset] [(.ref b1), (.ref b1)])) _
    refine XS.iconst X7.here hx rfl (hb hby at_18) ?_
    show Steps p.tables e below (T7.setTop (mkF m 19 #[.val (.int p1), .unset, .unset, .unset, .unset, .unset] [(.int (2 : Int32)), (.ref b1), (.ref b1)])) _
    refine st8 _ ?_
    show Steps p.tables e below (T8.setTop (mkF m 22 #[.val (.int p1), .unset, .unset, .unset, .unset, .unset] [(.ref a_UNREAD), (.int (2 : Int32)), (.ref b1), (.ref b1)])) _
    refine st10 _ ?_
    show Steps p.tables e below (T10.setTop (mkF m 23 #[.val (.int p1), .unset, .unset, .unset, .unset, .unset] [(.ref b1)])) _
    refine XS.dup X10.here hx rfl (hb hby at_23) rfl rfl ?_
    show Steps p.tables e below (T10.setTop (mkF m 24 #[.val (.int p1), .unset, .unset, .unset, .unset, .unset] [(.ref b1), (.ref b1)])) _
    refine XS.iconst X10.here hx rfl (hb hby at_24) ?_
    show Steps p.tables e below (T10.setTop (mkF m 25 #[.val (.int p1), .unset, .unset, .unset, .unset, .unset] [(.int (3 : Int32)), (.ref b1), (.ref b1)])) _
    refine st11 _ ?_
    show Steps p.tables e below (T11.setTop (mkF m 28 #[.val (.int p1), .unset, .unset, .unset, .unset, .unset] [(.ref a_POWER_ON), (.int (3 : Int32)), (.ref b1), (.ref b1)])) _
    refine st13 _ ?_
    show Steps p.tables e below (T13.setTop (mkF m 29 #[.val (.int p1), .unset, .unset, .unset, .unset, .unset] [(.ref b1)])) _
    refine XS.dup X13.here hx rfl (hb hby at_29) rfl rfl ?_
    show Steps p.tables e below (T13.setTop (mkF m 30 #[.val (.int p1), .unset, .unset, .unset, .unset, .unset] [(.ref b1), (.ref b1)])) _
    refine XS.iconst X13.here hx rfl (hb hby at_30) ?_
    show Steps p.tables e below (T13.setTop (mkF m 31 #[.val (.int p1), .unset, .unset, .unset, .unset, .unset] [(.int (4 : Int32)), (.ref b1), (.ref b1)])) _
    refine st14 _ ?_
    show Steps p.tables e below (T14.setTop (mkF m 34 #[.val (.int p1), .unset, .unset, .unset, .unset, .unset] [(.ref a_POWER_OFF), (.int (4 : Int32)), (.ref b1), (.ref b1)])) _
    refine st16 _ ?_
    show Steps p.tables e below (T16.setTop (mkF m 35 #[.val (.int p1), .unset, .unset, .unset, .unset, .unset] [(.ref b1)])) _
    refine XS.dup X16.here hx rfl (hb hby at_35) rfl rfl ?_
    show Steps p.tables e below (T16.setTop (mkF m 36 #[.val (.int p1), .unset, .unset, .unset, .unset, .unset] [(.ref b1), (.ref b1)])) _
    refine XS.iconst X16.here hx rfl (hb hby at_36) ?_
    show Steps p.tables e below (T16.setTop (mkF m 37 #[.val (.int p1), .unset, .unset, .unset, .unset, .unset] [(.int (5 : Int32)), (.ref b1), (.ref b1)])) _
    refine st17 _ ?_
    show Steps p.tables e below (T17.setTop (mkF m 40 #[.val (.int p1), .unset, .unset, .unset, .unset, .unset] [(.ref a_HOLD_ON), (.int (5 : Int32)), (.ref b1), (.ref b1)])) _
    refine st19 _ ?_
    show Steps p.tables e below (T19.setTop (mkF m 41 #[.val (.int p1), .unset, .unset, .unset, .unset, .unset] [(.ref b1)])) _
    refine XS.dup X19.here hx rfl (hb hby at_41) rfl rfl ?_
    show Steps p.tables e below (T19.setTop (mkF m 42 #[.val (.int p1), .unset, .unset, .unset, .unset, .unset] [(.ref b1), (.ref b1)])) _
    refine XS.bipush X19.here hx rfl (hb hby at_42) ?_
    show Steps p.tables e below (T19.setTop (mkF m 44 #[.val (.int p1), .unset, .unset, .unset, .unset, .unset] [(.int (6 : Int32)), (.ref b1), (.ref b1)])) _
    refine st20 _ ?_
    show Steps p.tables e below (T20.setTop (mkF m 47 #[.val (.int p1), .unset, .unset, .unset, .unset, .unset] [(.ref a_HOLD_OFF), (.int (6 : Int32)), (.ref b1), (.ref b1)])) _
    refine st22 _ ?_
    show Steps p.tables e below (T22.setTop (mkF m 48 #[.val (.int p1), .unset, .unset, .unset, .unset, .unset] [(.ref b1)])) _
    refine XS.dup X22.here hx rfl (hb hby at_48) rfl rfl ?_
    show Steps p.tables e below (T22.setTop (mkF m 49 #[.val (.int p1), .unset, .unset, .unset, .unset, .unset] [(.ref b1), (.ref b1)])) _
    refine XS.bipush X22.here hx rfl (hb hby at_49) ?_
    show Steps p.tables e below (T22.setTop (mkF m 51 #[.val (.int p1), .unset, .unset, .unset, .unset, .unset] [(.int (7 : Int32)), (.ref b1), (.ref b1)])) _
    refine st23 _ ?_
    show Steps p.tables e below (T23.setTop (mkF m 54 #[.val (.int p1), .unset, .unset, .unset, .unset, .unset] [(.ref a_RELEASE), (.int (7 : Int32)), (.ref b1), (.ref b1)])) _
    refine st25 _ ?_
    show Steps p.tables e below (T25.setTop (mkF m 55 #[.val (.int p1), .unset, .unset, .unset, .unset, .unset] [(.ref b1)])) _
    refine XS.dup X25.here hx rfl (hb hby at_55) rfl rfl ?_
    show Steps p.tables e below (T25.setTop (mkF m 56 #[.val (.int p1), .unset, .unset, .unset, .unset, .unset] [(.ref b1), (.ref b1)])) _
    refine XS.bipush X25.here hx rfl (hb hby at_56) ?_
    show Steps p.tables e below (T25.setTop (mkF m 58 #[.val (.int p1), .unset, .unset, .unset, .unset, .unset] [(.int (8 : Int32)), (.ref b1), (.ref b1)])) _
    refine st26 _ ?_
    show Steps p.tables e below (T26.setTop (mkF m 61 #[.val (.int p1), .unset, .unset, .unset, .unset, .unset] [(.ref a_SPAN_START), (.int (8 : Int32)), (.ref b1), (.ref b1)])) _
    refine st28 _ ?_
    show Steps p.tables e below (T28.setTop (mkF m 62 #[.val (.int p1), .unset, .unset, .unset, .unset, .unset] [(.ref b1)])) _
    refine XS.dup X28.here hx rfl (hb hby at_62) rfl rfl ?_
    show Steps p.tables e below (T28.setTop (mkF m 63 #[.val (.int p1), .unset, .unset, .unset, .unset, .unset] [(.ref b1), (.ref b1)])) _
    refine XS.bipush X28.here hx rfl (hb hby at_63) ?_
    show Steps p.tables e below (T28.setTop (mkF m 65 #[.val (.int p1), .unset, .unset, .unset, .unset, .unset] [(.int (9 : Int32)), (.ref b1), (.ref b1)])) _
    refine st29 _ ?_
    show Steps p.tables e below (T29.setTop (mkF m 68 #[.val (.int p1), .unset, .unset, .unset, .unset, .unset] [(.ref a_SPAN_END), (.int (9 : Int32)), (.ref b1), (.ref b1)])) _
    refine st31 _ ?_
    show Steps p.tables e below (T31.setTop (mkF m 69 #[.val (.int p1), .unset, .unset, .unset, .unset, .unset] [(.ref b1)])) _
    refine XS.astoreN X31.here hx rfl (hb hby at_69) rfl rfl (l' := #[.val (.int p1), .val (.ref b1), .unset, .unset, .unset, .unset]) rfl ?_
    show Steps p.tables e below (T31.setTop (mkF m 70 #[.val (.int p1), .val (.ref b1), .unset, .unset, .unset, .unset] [])) _
    refine XS.aloadN X31.here hx rfl (hb hby at_70) rfl rfl ?_
    show Steps p.tables e below (T31.setTop (mkF m 71 #[.val (.int p1), .val (.ref b1), .unset, .unset, .unset, .unset] [(.ref b1)])) _
    refine XS.iloadN X31.here hx rfl (hb hby at_71) rfl ?_
    show Steps p.tables e below (T31.setTop (mkF m 72 #[.val (.int p1), .val (.ref b1), .unset, .unset, .unset, .unset] [(.int p1), (.ref b1)])) _
    refine X31.ldcInt hx hown (mvT hZ (hw _ (List.mem_of_getElem? (i := 24) rfl))) (g := (mkF m 72 #[.val (.int p1), .val (.ref b1), .unset, .unset, .unset, .unset] [(.int p1), (.ref b1)])) rfl (hb hby at_72) _ ?_
    show Steps p.tables e below (T31.setTop (mkF m 74 #[.val (.int p1), .val (.ref b1), .unset, .unset, .unset, .unset] [(.int (2147483647 : Int32)), (.int p1), (.ref b1)])) _
    refine XS.iand X31.here hx rfl (hb hby at_74) rfl ?_
    show Steps p.tables e below (T31.setTop (mkF m 75 #[.val (.int p1), .val (.ref b1), .unset, .unset, .unset, .unset] [(.int (p1 &&& (2147483647 : Int32))), (.ref b1)])) _
    refine XS.bipush X31.here hx rfl (hb hby at_75) ?_
    show Steps p.tables e below (T31.setTop (mkF m 77 #[.val (.int p1), .val (.ref b1), .unset, .unset, .unset, .unset] [(.int (10 : Int32)), (.int (p1 &&& (2147483647 : Int32))), (.ref b1)])) _
    refine Jvm.RoadKit.iremM (g := (mkF m 77 #[.val (.int p1), .val (.ref b1), .unset, .unset, .unset, .unset] [(.int (10 : Int32)), (.int (p1 &&& (2147483647 : Int32))), (.ref b1)])) X31 hx rfl (hb hby at_77) rfl (by decide) ?_
    rw [hi]
    show Steps p.tables e below (T31.setTop (mkF m 78 #[.val (.int p1), .val (.ref b1), .unset, .unset, .unset, .unset] [(.int (6 : Int32)), (.ref b1)])) _
    refine X31.aaload hx (j := (6 : Int32)) (v := (.ref a_HOLD_OFF)) (by rw [e31]; exact Ar32.1) (State.isArrayOf_alike hZ.alike Ar32.2.1) rfl Ar32.2.2 hin32 hat32 (g := (mkF m 78 #[.val (.int p1), .val (.ref b1), .unset, .unset, .unset, .unset] [(.int (6 : Int32)), (.ref b1)])) rfl rfl (hb hby at_78) _ ?_
    show Steps p.tables e below (T31.setTop (mkF m 79 #[.val (.int p1), .val (.ref b1), .unset, .unset, .unset, .unset] [(.ref a_HOLD_OFF)])) _
    refine XS.astoreN X31.here hx rfl (hb hby at_79) rfl rfl (l' := #[.val (.int p1), .val (.ref b1), .val (.ref a_HOLD_OFF), .unset, .unset, .unset]) rfl ?_
    show Steps p.tables e below (T31.setTop (mkF m 80 #[.val (.int p1), .val (.ref b1), .val (.ref a_HOLD_OFF), .unset, .unset, .unset] [])) _
    refine XS.aloadN X31.here hx rfl (hb hby at_80) rfl rfl ?_
    show Steps p.tables e below (T31.setTop (mkF m 81 #[.val (.int p1), .val (.ref b1), .val (.ref a_HOLD_OFF), .unset, .unset, .unset] [(.ref a_HOLD_OFF)])) _
    refine st33.trans ?_
    show Steps p.tables e below (T33.setTop (mkF m 84 #[.val (.int p1), .val (.ref b1), .val (.ref a_HOLD_OFF), .unset, .unset, .unset] [(.int (1 : Int32))])) _
    refine XS.istoreN X33.here hx rfl (hb hby at_84) rfl (l' := #[.val (.int p1), .val (.ref b1), .val (.ref a_HOLD_OFF), .val (.int (1 : Int32)), .unset, .unset]) rfl ?_
    show Steps p.tables e below (T33.setTop (mkF m 85 #[.val (.int p1), .val (.ref b1), .val (.ref a_HOLD_OFF), .val (.int (1 : Int32)), .unset, .unset] [])) _
    refine XS.aloadN X33.here hx rfl (hb hby at_85) rfl rfl ?_
    show Steps p.tables e below (T33.setTop (mkF m 86 #[.val (.int p1), .val (.ref b1), .val (.ref a_HOLD_OFF), .val (.int (1 : Int32)), .unset, .unset] [(.ref a_HOLD_OFF)])) _
    refine st34.trans ?_
    show Steps p.tables e below (T34.setTop (mkF m 89 #[.val (.int p1), .val (.ref b1), .val (.ref a_HOLD_OFF), .val (.int (1 : Int32)), .unset, .unset] [(.ref a_OFF)])) _
    refine XS.astore X34.here hx rfl (hb hby at_89) rfl rfl (l' := #[.val (.int p1), .val (.ref b1), .val (.ref a_HOLD_OFF), .val (.int (1 : Int32)), .val (.ref a_OFF), .unset]) rfl ?_
    show Steps p.tables e below (T34.setTop (mkF m 91 #[.val (.int p1), .val (.ref b1), .val (.ref a_HOLD_OFF), .val (.int (1 : Int32)), .val (.ref a_OFF), .unset] [])) _
    refine XS.aload X34.here hx rfl (hb hby at_91) rfl rfl ?_
    show Steps p.tables e below (T34.setTop (mkF m 93 #[.val (.int p1), .val (.ref b1), .val (.ref a_HOLD_OFF), .val (.int (1 : Int32)), .val (.ref a_OFF), .unset] [(.ref a_OFF)])) _
    refine st35 _ ?_
    show Steps p.tables e below (T35.setTop (mkF m 96 #[.val (.int p1), .val (.ref b1), .val (.ref a_HOLD_OFF), .val (.int (1 : Int32)), .val (.ref a_OFF), .unset] [(.ref a_HOLD_OFF)])) _
    refine XS.aloadN X35.here hx rfl (hb hby at_96) rfl rfl ?_
    show Steps p.tables e below (T35.setTop (mkF m 97 #[.val (.int p1), .val (.ref b1), .val (.ref a_HOLD_OFF), .val (.int (1 : Int32)), .val (.ref a_OFF), .unset] [(.ref a_HOLD_OFF), (.ref a_HOLD_OFF)])) _
    refine Jvm.RoadKit.acmp (g := (mkF m 97 #[.val (.int p1), .val (.ref b1), .val (.ref a_HOLD_OFF), .val (.int (1 : Int32)), .val (.ref a_OFF), .unset] [(.ref a_HOLD_OFF), (.ref a_HOLD_OFF)])) X35 hx rfl rfl rfl (pc0 := 97) (pc' := 100) (same := true) rfl (hb hby at_97) rfl (decide_eq_true rfl) (by decide) (by decide) ?_
    show Steps p.tables e below (T35.setTop (mkF m 100 #[.val (.int p1), .val (.ref b1), .val (.ref a_HOLD_OFF), .val (.int (1 : Int32)), .val (.ref a_OFF), .unset] [])) _
    refine XS.iconst X35.here hx rfl (hb hby at_100) ?_
    show Steps p.tables e below (T35.setTop (mkF m 101 #[.val (.int p1), .val (.ref b1), .val (.ref a_HOLD_OFF), .val (.int (1 : Int32)), .val (.ref a_OFF), .unset] [(.int (1 : Int32))])) _
    refine XS.goto X35.here hx rfl (pc0 := 101) (pc' := 105) rfl (hb hby at_101) (by decide) (by decide) ?_
    show Steps p.tables e below (T35.setTop (mkF m 105 #[.val (.int p1), .val (.ref b1), .val (.ref a_HOLD_OFF), .val (.int (1 : Int32)), .val (.ref a_OFF), .unset] [(.int (1 : Int32))])) _
    refine XS.istore X35.here hx rfl (hb hby at_105) rfl (l' := #[.val (.int p1), .val (.ref b1), .val (.ref a_HOLD_OFF), .val (.int (1 : Int32)), .val (.ref a_OFF), .val (.int (1 : Int32))]) rfl ?_
    show Steps p.tables e below (T35.setTop (mkF m 107 #[.val (.int p1), .val (.ref b1), .val (.ref a_HOLD_OFF), .val (.int (1 : Int32)), .val (.ref a_OFF), .val (.int (1 : Int32))] [])) _
    refine XS.iloadN X35.here hx rfl (hb hby at_107) rfl ?_
    show Steps p.tables e below (T35.setTop (mkF m 108 #[.val (.int p1), .val (.ref b1), .val (.ref a_HOLD_OFF), .val (.int (1 : Int32)), .val (.ref a_OFF), .val (.int (1 : Int32))] [(.int (1 : Int32))])) _
    refine XS.iload X35.here hx rfl (hb hby at_108) rfl ?_
    show Steps p.tables e below (T35.setTop (mkF m 110 #[.val (.int p1), .val (.ref b1), .val (.ref a_HOLD_OFF), .val (.int (1 : Int32)), .val (.ref a_OFF), .val (.int (1 : Int32))] [(.int (1 : Int32)), (.int (1 : Int32))])) _
    refine XS.icmpNo X35.here hx rfl (hb hby at_110) rfl (teq (by decide : (1 : Int32) = (1 : Int32))).2 ?_
    show Steps p.tables e below (T35.setTop (mkF m 113 #[.val (.int p1), .val (.ref b1), .val (.ref a_HOLD_OFF), .val (.int (1 : Int32)), .val (.ref a_OFF), .val (.int (1 : Int32))] [])) _
    refine XS.iconst X35.here hx rfl (hb hby at_113) ?_
    show Steps p.tables e below (T35.setTop (mkF m 114 #[.val (.int p1), .val (.ref b1), .val (.ref a_HOLD_OFF), .val (.int (1 : Int32)), .val (.ref a_OFF), .val (.int (1 : Int32))] [(.int (1 : Int32))])) _
    refine XS.goto X35.here hx rfl (pc0 := 114) (pc' := 118) rfl (hb hby at_114) (by decide) (by decide) ?_
    show Steps p.tables e below (T35.setTop (mkF m 118 #[.val (.int p1), .val (.ref b1), .val (.ref a_HOLD_OFF), .val (.int (1 : Int32)), .val (.ref a_OFF), .val (.int (1 : Int32))] [(.int (1 : Int32))])) _
    exact retN X35 hx (t := .boolean) Bd.returns (by simp) (hb hby at_118) hr
  · exact ⟨rfl, N35⟩
set_option maxRecDepth 65536 in
set_option maxHeartbeats 40000000 in
theorem rm1_33 (l : Launch) (Z : State) (a0 : Array Value) (hw : ∀ d ∈ tables_1, d.before a0 Z = true) (ws : List Jvm.Cond) (a_START : Addr) (a_READ : Addr) (a_UNREAD : Addr) (a_POWER_ON : Addr) (a_POWER_OFF : Addr) (a_HOLD_ON : Addr) (a_HOLD_OFF : Addr) (a_RELEASE : Addr) (a_SPAN_START : Addr) (a_SPAN_END : Addr) (a_ON : Addr) (a_OFF : Addr) (p1 : Int32) (h0 : Heap) (n0 : Nat) (Z0 : n0 ≤ h0.size) (hS : Wd Z h0 a_START a_READ a_UNREAD a_POWER_ON a_POWER_OFF a_HOLD_ON a_HOLD_OFF a_RELEASE a_SPAN_START a_SPAN_END a_ON a_OFF) :
    MetFree l (⟨"ebbtide/serve/History$Event", "holds", "()Z"⟩ : MethodName) (head1 (Jvm.Cond.code (⟨"ebbtide/serve/History$Event", "holds", "()Z"⟩ : MethodName) prog_171_method_7_code 1 (some .boolean) :: ws) ({ frames := 0, cells := 0, slots := 0, locals := 0 } : Room)) (fun a U => a = #[(.ref a_RELEASE)] ∧ Z.Warmed39 U.vm ∧ U.heap = h0) (fun _ _ _ _ _ => True) (fun _ U o U' => ∃ v L, o = .returned v ∧ QP (some (.int (1 : Int32))) h0 n0 v U'.heap L ∧ FrameEnd U o U' L ({ frames := 0, cells := 0, slots := 0, locals := 0 } : Room).cells ({ frames := 0, cells := 0, slots := 0, locals := 0 } : Room).slots) := by
  refine MetFree.of_bodySF (plainFor_of_name pn_ebbtide_serve_History_Event) hisR ?_
  intro p e s m args below meth c s₁ Bd hml0 hP hK
  obtain ⟨rfl, hZ, hh⟩ := hP
  have hx := Bd.exec
  have hby := Bd.bytes
  have hml : c.maxLocals = 1 := hml0
  have hown : s.vm.findClass "ebbtide/serve/History$Event" = some m.cls := findClass_of_methodNamed Bd.named
  have X0 : Stand p l e ({ frames := 0, cells := 0, slots := 0, locals := 0 } : Room) s m #[(.ref a_RELEASE)] below meth c s₁ [] 0 0 := Stand.of_body Bd
  have e0 : s₁.heap = h0 := by rw [← hh, Bd.state]; rfl
  have N0 := Fr.nil n0
  have pre0 : ∀ t, Steps p.tables e below (s₁.setTop (mkF m 0 #[.val (.ref a_RELEASE)] [])) t → Steps p.tables e below (s₁.setTop (entryFrame m #[(.ref a_RELEASE)] 1)) t := fun t k => castTop (by first | (simp [entryFrame, mkF, argsToLocals, Value.category]; done) | rfl) k
  obtain ⟨S_START, E_START, S_READ, E_READ, S_UNREAD, E_UNREAD, S_POWER_ON, E_POWER_ON, S_POWER_OFF, E_POWER_OFF, S_HOLD_ON, E_HOLD_ON, S_HOLD_OFF, E_HOLD_OFF, S_RELEASE, E_RELEASE, S_SPAN_START, E_SPAN_START, S_SPAN_END, E_SPAN_END, S_ON, E_ON, S_OFF, E_OFF, F_START_ordinal, F_HOLD_ON_ordinal, F_HOLD_OFF_ordinal, F_RELEASE_ordinal, F_POWER_ON_ordinal, F_READ_ordinal, F_POWER_OFF_ordinal, F_UNREAD_ordinal, F_SPAN_START_ordinal, F_SPAN_END_ordinal, F_OFF_ordinal, F_ON_ordinal⟩ := id hS
  obtain ⟨T1, X1, e1, st1⟩ := getS2 X0 hx hZ hown (host := "") (Or.inl (hw _ (List.mem_of_getElem? (i := 30) rfl))) Via.refl e0 S_HOLD_ON (g := (mkF m 1 #[.val (.ref a_RELEASE)] [(.ref a_RELEASE)])) rfl (hb hby d1_1)
  obtain ⟨T2, X2, e2, st2⟩ := getS2 X1 hx hZ hown (host := "") (Or.inl (hw _ (List.mem_of_getElem? (i := 31) rfl))) Via.refl e1 S_HOLD_OFF (g := (mkF m 8 #[.val (.ref a_RELEASE)] [(.ref a_RELEASE)])) rfl (hb hby d1_8)
  obtain ⟨T3, X3, e3, st3⟩ := getS2 X2 hx hZ hown (host := "") (Or.inl (hw _ (List.mem_of_getElem? (i := 32) rfl))) Via.refl e2 S_RELEASE (g := (mkF m 15 #[.val (.ref a_RELEASE)] [(.ref a_RELEASE)])) rfl (hb hby d1_15)
  obtain ⟨fs, hr, hrun, hended, hW, hsame⟩ := X3.leave (v := some (.int (1 : Int32))) (fun h => by rw [Bd.returns] at h; cases h)
  refine ⟨_, _, pre0 _ ?_, hrun, hended, _, _, rfl, ?_, ⟨_, rfl⟩, hW, hsame.mono (by decide) (by decide)⟩
  · show Steps p.tables e below (s₁.setTop (mkF m 0 #[.val (.ref a_RELEASE)] [])) _
    refine XS.aloadN X0.here hx rfl (hb hby d1_0) rfl rfl ?_
    show Steps p.tables e below (s₁.setTop (mkF m 1 #[.val (.ref a_RELEASE)] [(.ref a_RELEASE)])) _
    refine st1 _ ?_
    show Steps p.tables e below (T1.setTop (mkF m 4 #[.val (.ref a_RELEASE)] [(.ref a_HOLD_ON), (.ref a_RELEASE)])) _
    refine Jvm.RoadKit.acmp (g := (mkF m 4 #[.val (.ref a_RELEASE)] [(.ref a_HOLD_ON), (.ref a_RELEASE)])) X1 hx rfl rfl rfl (pc0 := 4) (pc' := 7) (same := false) rfl (hb hby d1_4) rfl (decide_eq_false fun q => (Fld.ne F_RELEASE_ordinal F_HOLD_ON_ordinal (fun q => absurd (Value.int.inj q) (by decide))) (Value.ref.inj q)) (by decide) (by decide) ?_
    show Steps p.tables e below (T1.setTop (mkF m 7 #[.val (.ref a_RELEASE)] [])) _
    refine XS.aloadN X1.here hx rfl (hb hby d1_7) rfl rfl ?_
    show Steps p.tables e below (T1.setTop (mkF m 8 #[.val (.ref a_RELEASE)] [(.ref a_RELEASE)])) _
    refine st2 _ ?_
    show Steps p.tables e below (T2.setTop (mkF m 11 #[.val (.ref a_RELEASE)] [(.ref a_HOLD_OFF), (.ref a_RELEASE)])) _
    refine Jvm.RoadKit.acmp (g := (mkF m 11 #[.val (.ref a_RELEASE)] [(.ref a_HOLD_OFF), (.ref a_RELEASE)])) X2 hx rfl rfl rfl (pc0 := 11) (pc' := 14) (same := false) rfl (hb hby d1_11) rfl (decide_eq_false fun q => (Fld.ne F_RELEASE_ordinal F_HOLD_OFF_ordinal (fun q => absurd (Value.int.inj q) (by decide))) (Value.ref.inj q)) (by decide) (by decide) ?_
    show Steps p.tables e below (T2.setTop (mkF m 14 #[.val (.ref a_RELEASE)] [])) _
    refine XS.aloadN X2.here hx rfl (hb hby d1_14) rfl rfl ?_
    show Steps p.tables e below (T2.setTop (mkF m 15 #[.val (.ref a_RELEASE)] [(.ref a_RELEASE)])) _
    refine st3 _ ?_
    show Steps p.tables e below (T3.setTop (mkF m 18 #[.val (.ref a_RELEASE)] [(.ref a_RELEASE), (.ref a_RELEASE)])) _
    refine Jvm.RoadKit.acmp (g := (mkF m 18 #[.val (.ref a_RELEASE)] [(.ref a_RELEASE), (.ref a_RELEASE)])) X3 hx rfl rfl rfl (pc0 := 18) (pc' := 21) (same := true) rfl (hb hby d1_18) rfl (decide_eq_true rfl) (by decide) (by decide) ?_
    show Steps p.tables e below (T3.setTop (mkF m 21 #[.val (.ref a_RELEASE)] [])) _
    refine XS.iconst X3.here hx rfl (hb hby d1_21) ?_
    show Steps p.tables e below (T3.setTop (mkF m 22 #[.val (.ref a_RELEASE)] [(.int (1 : Int32))])) _
    refine XS.goto X3.here hx rfl (pc0 := 22) (pc' := 26) rfl (hb hby d1_22) (by decide) (by decide) ?_
    show Steps p.tables e below (T3.setTop (mkF m 26 #[.val (.ref a_RELEASE)] [(.int (1 : Int32))])) _
    exact retN X3 hx (t := .boolean) Bd.returns (by simp) (hb hby d1_26) hr
  · exact ⟨rfl, N0, e3⟩
set_option maxRecDepth 65536 in
set_option maxHeartbeats 40000000 in
theorem rm3_35 (l : Launch) (Z : State) (a0 : Array Value) (hw : ∀ d ∈ tables_1, d.before a0 Z = true) (ws : List Jvm.Cond) (a_START : Addr) (a_READ : Addr) (a_UNREAD : Addr) (a_POWER_ON : Addr) (a_POWER_OFF : Addr) (a_HOLD_ON : Addr) (a_HOLD_OFF : Addr) (a_RELEASE : Addr) (a_SPAN_START : Addr) (a_SPAN_END : Addr) (a_ON : Addr) (a_OFF : Addr) (p1 : Int32) (h0 : Heap) (n0 : Nat) (Z0 : n0 ≤ h0.size) (hS : Wd Z h0 a_START a_READ a_UNREAD a_POWER_ON a_POWER_OFF a_HOLD_ON a_HOLD_OFF a_RELEASE a_SPAN_START a_SPAN_END a_ON a_OFF) :
    MetFree l (⟨"java/lang/Enum", "ordinal", "()I"⟩ : MethodName) (head1 (Jvm.Cond.code (⟨"java/lang/Enum", "ordinal", "()I"⟩ : MethodName) jdk_37_method_2_code 1 (some .int) :: ws) ({ frames := 0, cells := 0, slots := 0, locals := 0 } : Room)) (fun a U => a = #[(.ref a_RELEASE)] ∧ Z.Warmed39 U.vm ∧ U.heap = h0) (fun _ _ _ _ _ => True) (fun _ U o U' => ∃ v L, o = .returned v ∧ QP (some (.int (7 : Int32))) h0 n0 v U'.heap L ∧ FrameEnd U o U' L ({ frames := 0, cells := 0, slots := 0, locals := 0 } : Room).cells ({ frames := 0, cells := 0, slots := 0, locals := 0 } : Room).slots) := by
  refine MetFree.of_bodySF (plainFor_of_name pn_java_lang_Enum) hisR ?_
  intro p e s m args below meth c s₁ Bd hml0 hP hK
  obtain ⟨rfl, hZ, hh⟩ := hP
  have hx := Bd.exec
  have hby := Bd.bytes
  have hml : c.maxLocals = 1 := hml0
  have hown : s.vm.findClass "java/lang/Enum" = some m.cls := findClass_of_methodNamed Bd.named
  have X0 : Stand p l e ({ frames := 0, cells := 0, slots := 0, locals := 0 } : Room) s m #[(.ref a_RELEASE)] below meth c s₁ [] 0 0 := Stand.of_body Bd
  have e0 : s₁.heap = h0 := by rw [← hh, Bd.state]; rfl
  have N0 := Fr.nil n0
  have pre0 : ∀ t, Steps p.tables e below (s₁.setTop (mkF m 0 #[.val (.ref a_RELEASE)] [])) t → Steps p.tables e below (s₁.setTop (entryFrame m #[(.ref a_RELEASE)] 1)) t := fun t k => castTop (by first | (simp [entryFrame, mkF, argsToLocals, Value.category]; done) | rfl) k
  obtain ⟨S_START, E_START, S_READ, E_READ, S_UNREAD, E_UNREAD, S_POWER_ON, E_POWER_ON, S_POWER_OFF, E_POWER_OFF, S_HOLD_ON, E_HOLD_ON, S_HOLD_OFF, E_HOLD_OFF, S_RELEASE, E_RELEASE, S_SPAN_START, E_SPAN_START, S_SPAN_END, E_SPAN_END, S_ON, E_ON, S_OFF, E_OFF, F_START_ordinal, F_HOLD_ON_ordinal, F_HOLD_OFF_ordinal, F_RELEASE_ordinal, F_POWER_ON_ordinal, F_READ_ordinal, F_POWER_OFF_ordinal, F_UNREAD_ordinal, F_SPAN_START_ordinal, F_SPAN_END_ordinal, F_OFF_ordinal, F_ON_ordinal⟩ := id hS
  obtain ⟨T1, X1, e1, st1⟩ := getF X0 hx hZ hown (host := "") (Or.inl (hw _ (List.mem_of_getElem? (i := 45) rfl))) Via.refl e0 F_RELEASE_ordinal (g := (mkF m 1 #[.val (.ref a_RELEASE)] [(.ref a_RELEASE)])) rfl rfl (hb hby d3_1)
  obtain ⟨fs, hr, hrun, hended, hW, hsame⟩ := X1.leave (v := some (.int (7 : Int32))) (fun h => by rw [Bd.returns] at h; cases h)
  refine ⟨_, _, pre0 _ ?_, hrun, hended, _, _, rfl, ?_, ⟨_, rfl⟩, hW, hsame.mono (by decide) (by decide)⟩
  · show Steps p.tables e below (s₁.setTop (mkF m 0 #[.val (.ref a_RELEASE)] [])) _
    refine XS.aloadN X0.here hx rfl (hb hby d3_0) rfl rfl ?_
    show Steps p.tables e below (s₁.setTop (mkF m 1 #[.val (.ref a_RELEASE)] [(.ref a_RELEASE)])) _
    refine st1 _ ?_
    show Steps p.tables e below (T1.setTop (mkF m 4 #[.val (.ref a_RELEASE)] [(.int (7 : Int32))])) _
    exact own_retI X1 hx Bd.returns (hb hby d3_4) hr
  · exact ⟨rfl, N0, e1⟩
set_option maxRecDepth 65536 in
set_option maxHeartbeats 40000000 in
theorem rm2_34 (l : Launch) (Z : State) (a0 : Array Value) (hw : ∀ d ∈ tables_1, d.before a0 Z = true) (ws : List Jvm.Cond) (a_START : Addr) (a_READ : Addr) (a_UNREAD : Addr) (a_POWER_ON : Addr) (a_POWER_OFF : Addr) (a_HOLD_ON : Addr) (a_HOLD_OFF : Addr) (a_RELEASE : Addr) (a_SPAN_START : Addr) (a_SPAN_END : Addr) (a_ON : Addr) (a_OFF : Addr) (p1 : Int32) (h0 : Heap) (n0 : Nat) (Z0 : n0 ≤ h0.size) (hS : Wd Z h0 a_START a_READ a_UNREAD a_POWER_ON a_POWER_OFF a_HOLD_ON a_HOLD_OFF a_RELEASE a_SPAN_START a_SPAN_END a_ON a_OFF) :
    MetFree l (⟨"ebbtide/serve/History$Event", "hold", "()Lebbtide/serve/Hold;"⟩ : MethodName) (head1 (Jvm.Cond.code (⟨"ebbtide/serve/History$Event", "hold", "()Lebbtide/serve/Hold;"⟩ : MethodName) prog_171_method_6_code 1 (some (.object "ebbtide/serve/Hold")) :: ws) ({ frames := 1, cells := 0, slots := 0, locals := 12 } : Room)) (fun a U => a = #[(.ref a_RELEASE)] ∧ Z.Warmed39 U.vm ∧ U.heap = h0) (fun _ _ _ _ _ => True) (fun _ U o U' => ∃ v L, o = .returned v ∧ QP (some .null) h0 n0 v U'.heap L ∧ FrameEnd U o U' L ({ frames := 1, cells := 0, slots := 0, locals := 12 } : Room).cells ({ frames := 1, cells := 0, slots := 0, locals := 12 } : Room).slots) := by
  refine MetFree.of_bodySF (plainFor_of_name pn_ebbtide_serve_History_Event) hisR ?_
  intro p e s m args below meth c s₁ Bd hml0 hP hK
  obtain ⟨rfl, hZ, hh⟩ := hP
  have hx := Bd.exec
  have hby := Bd.bytes
  have hml : c.maxLocals = 1 := hml0
  have hown : s.vm.findClass "ebbtide/serve/History$Event" = some m.cls := findClass_of_methodNamed Bd.named
  have X0 : Stand p l e ({ frames := 1, cells := 0, slots := 0, locals := 12 } : Room) s m #[(.ref a_RELEASE)] below meth c s₁ [] 0 0 := Stand.of_body Bd
  have e0 : s₁.heap = h0 := by rw [← hh, Bd.state]; rfl
  have N0 := Fr.nil n0
  have pre0 : ∀ t, Steps p.tables e below (s₁.setTop (mkF m 0 #[.val (.ref a_RELEASE)] [])) t → Steps p.tables e below (s₁.setTop (entryFrame m #[(.ref a_RELEASE)] 1)) t := fun t k => castTop (by first | (simp [entryFrame, mkF, argsToLocals, Value.category]; done) | rfl) k
  obtain ⟨S_START, E_START, S_READ, E_READ, S_UNREAD, E_UNREAD, S_POWER_ON, E_POWER_ON, S_POWER_OFF, E_POWER_OFF, S_HOLD_ON, E_HOLD_ON, S_HOLD_OFF, E_HOLD_OFF, S_RELEASE, E_RELEASE, S_SPAN_START, E_SPAN_START, S_SPAN_END, E_SPAN_END, S_ON, E_ON, S_OFF, E_OFF, F_START_ordinal, F_HOLD_ON_ordinal, F_HOLD_OFF_ordinal, F_RELEASE_ordinal, F_POWER_ON_ordinal, F_READ_ordinal, F_POWER_OFF_ordinal, F_UNREAD_ordinal, F_SPAN_START_ordinal, F_SPAN_END_ordinal, F_OFF_ordinal, F_ON_ordinal⟩ := id hS
  obtain ⟨cq1, kq1, q1a, q1b, q1c⟩ := isOf hZ e0 E_RELEASE
  obtain ⟨_, _, ⟨T1, L1, k1, n1⟩, -, X1, ⟨Lc1, hQ1, l1, y1, z1⟩, st1⟩ := X0.virtualBackUp hx (owner := "java/lang/Enum") (x := (⟨"ebbtide/serve/History$Event", "ordinal", "()I"⟩ : MethodName)) (y := (⟨"java/lang/Enum", "ordinal", "()I"⟩ : MethodName)) hown (mvT hZ (hw _ (List.mem_of_getElem? (i := 38) rfl))) (mvT hZ (hw _ (List.mem_of_getElem? (i := 39) rfl))) (mvT hZ (hw _ (List.mem_of_getElem? (i := 40) rfl))) (by decide) (mvT hZ (hw _ (List.mem_of_getElem? (i := 42) rfl))) (mvT hZ (hw _ (List.mem_of_getElem? (i := 41) rfl))) (backOf (W := 0) (rm3_35 l Z a0 hw [] a_START a_READ a_UNREAD a_POWER_ON a_POWER_OFF a_HOLD_ON a_HOLD_OFF a_RELEASE a_SPAN_START a_SPAN_END a_ON a_OFF p1 h0 n0 Z0 hS) hZ (hw _ (List.mem_of_getElem? (i := 44) rfl)) (hw _ (List.mem_of_getElem? (i := 43) rfl)) (by decide) (by decide)) q1a q1c (g := (mkF m 1 #[.val (.ref a_RELEASE)] [(.ref a_RELEASE)])) rfl (by rw [hml]; rfl) (Steps.refl _) (argsL := []) (rest := []) (lenOf pd_1 rfl) rfl (by show 2 * 0 + _ ≤ _; exact Nat.le_of_eq rfl) (hb hby d2_1) (fun _ _ => ⟨rfl, e0, (by decide : 0 + 0 ≤ _), (by decide : 0 + 0 ≤ _)⟩)
  dsimp only [Pt.U, Pt.locs, Pt.cells, Pt.slots] at X1 l1 y1 z1 st1 hQ1
  subst l1 y1 z1
  obtain ⟨rfl, N1q, e1⟩ := hQ1
  have N1 := Fr.app N0 N1q
  obtain ⟨fs, hr, hrun, hended, hW, hsame⟩ := X1.leave (v := some .null) (fun h => by rw [Bd.returns] at h; cases h)
  refine ⟨_, _, pre0 _ ?_, hrun, hended, _, _, rfl, ?_, ⟨_, rfl⟩, hW, hsame.mono (by decide) (by decide)⟩
  · show Steps p.tables e below (s₁.setTop (mkF m 0 #[.val (.ref a_RELEASE)] [])) _
    refine XS.aloadN X0.here hx rfl (hb hby d2_0) rfl rfl ?_
    show Steps p.tables e below (s₁.setTop (mkF m 1 #[.val (.ref a_RELEASE)] [(.ref a_RELEASE)])) _
    refine st1.trans ?_
    show Steps p.tables e below (T1.setTop (mkF m 4 #[.val (.ref a_RELEASE)] [(.int (7 : Int32))])) _
    refine X1.lookupswitchMiss hx (g := (mkF m 4 #[.val (.ref a_RELEASE)] [(.int (7 : Int32))])) rfl rfl (hb hby d2_4) (by decide) (by first | decide | rfl | (simp; done)) (by show (0 : Int) ≤ ((4 : Nat) : Int) + 40; decide) _ ?_
    show Steps p.tables e below (T1.setTop (mkF m 44 #[.val (.ref a_RELEASE)] [])) _
    refine XS.aconstNull X1.here hx rfl (hb hby d2_44) ?_
    show Steps p.tables e below (T1.setTop (mkF m 45 #[.val (.ref a_RELEASE)] [.null])) _
    exact own_retA X1 hx Bd.returns rfl rfl (hb hby d2_45) hr
  · exact ⟨rfl, N1, e1⟩
set_option maxRecDepth 65536 in
set_option maxHeartbeats 40000000 in
theorem rm0_32 (l : Launch) (Z : State) (a0 : Array Value) (hw : ∀ d ∈ tables_1, d.before a0 Z = true) (ws : List Jvm.Cond) (a_START : Addr) (a_READ : Addr) (a_UNREAD : Addr) (a_POWER_ON : Addr) (a_POWER_OFF : Addr) (a_HOLD_ON : Addr) (a_HOLD_OFF : Addr) (a_RELEASE : Addr) (a_SPAN_START : Addr) (a_SPAN_END : Addr) (a_ON : Addr) (a_OFF : Addr) (p1 : Int32) (h0 : Heap) (n0 : Nat) (Z0 : n0 ≤ h0.size) (hS : Wd Z h0 a_START a_READ a_UNREAD a_POWER_ON a_POWER_OFF a_HOLD_ON a_HOLD_OFF a_RELEASE a_SPAN_START a_SPAN_END a_ON a_OFF) (hi : ((p1 &&& (2147483647 : Int32)) % (10 : Int32)) = (7 : Int32)) :
    MetFree l x (head1 (Jvm.Cond.code x code maxLocals ret :: ws) room_1) (fun a U => a = #[(.int p1)] ∧ Z.Warmed39 U.vm ∧ U.heap = h0) (fun _ _ _ _ _ => True) (fun _ U o U' => ∃ v L, o = .returned v ∧ Q0 n0 v L ∧ FrameEnd U o U' L room_1.cells room_1.slots) := by
  refine MetFree.of_bodySF (plainFor_of_name pn_ebbtide_serve_HistoryHoldsPinLaw) hisR ?_
  intro p e s m args below meth c s₁ Bd hml0 hP hK
  obtain ⟨rfl, hZ, hh⟩ := hP
  have hx := Bd.exec
  have hby := Bd.bytes
  have hml : c.maxLocals = 6 := hml0
  have hown : s.vm.findClass "ebbtide/serve/HistoryHoldsPinLaw" = some m.cls := findClass_of_methodNamed Bd.named
  have X0 : Stand p l e room_1 s m #[(.int p1)] below meth c s₁ [] 0 0 := Stand.of_body Bd
  have e0 : s₁.heap = h0 := by rw [← hh, Bd.state]; rfl
  have N0 := Fr.nil n0
  have pre0 : ∀ t, Steps p.tables e below (s₁.setTop (mkF m 0 #[.val (.int p1), .unset, .unset, .unset, .unset, .unset] [])) t → Steps p.tables e below (s₁.setTop (entryFrame m #[(.int p1)] maxLocals)) t := fun t k => castTop (by first | (simp [entryFrame, mkF, argsToLocals, Value.category, maxLocals]; done) | rfl) k
  obtain ⟨S_START, E_START, S_READ, E_READ, S_UNREAD, E_UNREAD, S_POWER_ON, E_POWER_ON, S_POWER_OFF, E_POWER_OFF, S_HOLD_ON, E_HOLD_ON, S_HOLD_OFF, E_HOLD_OFF, S_RELEASE, E_RELEASE, S_SPAN_START, E_SPAN_START, S_SPAN_END, E_SPAN_END, S_ON, E_ON, S_OFF, E_OFF, F_START_ordinal, F_HOLD_ON_ordinal, F_HOLD_OFF_ordinal, F_RELEASE_ordinal, F_POWER_ON_ordinal, F_READ_ordinal, F_POWER_OFF_ordinal, F_UNREAD_ordinal, F_SPAN_START_ordinal, F_SPAN_END_ordinal, F_OFF_ordinal, F_ON_ordinal⟩ := id hS
  obtain ⟨T1, h1, k1, X1, e1, E1, A1, O1, st1⟩ := newR X0 hx hZ hown (hw _ (List.mem_of_getElem? (i := 0) rfl)) (hw _ (List.mem_of_getElem? (i := 1) rfl)) e0 (g := (mkF m 2 #[.val (.int p1), .unset, .unset, .unset, .unset, .unset] [(.int (10 : Int32))])) rfl (hb hby at_2) rfl (by decide) (cap := 10) (by decide) (by decide) (by decide) (by decide)
  obtain ⟨b1, g1⟩ : ∃ z, z = h0.size := ⟨_, rfl⟩
  rw [← g1] at A1 st1
  have V1 : Arv Z h1 b1 k1 (.object "ebbtide/serve/History$Event") (10 : Int32) [.null, .null, .null, .null, .null, .null, .null, .null, .null, .null] .null := (Arv.new A1 (by decide)).pad (pad_rep [] .null 10)
  have K1 : Keep h0 h1 [] := (Keep.refl h0 []).ext E1
  have sz_b1 : h0.size ≤ b1 := Nat.le_trans (Keep.refl h0 []).1 (Nat.le_of_eq g1.symm)
  have gz_b1 : n0 ≤ b1 := Nat.le_trans Z0 sz_b1
  obtain ⟨T2, X2, e2, st2⟩ := getS2 X1 hx hZ hown (host := "") (Or.inl (hw _ (List.mem_of_getElem? (i := 2) rfl))) Via.refl e1 (own_sk S_START K1) (g := (mkF m 7 #[.val (.int p1), .unset, .unset, .unset, .unset, .unset] [(.int (0 : Int32)), (.ref b1), (.ref b1)])) rfl (hb hby at_7)
  obtain ⟨cl3, Ar3, qq3, Sz3, Ng3, Hs3, Gf3⟩ := V1
  have hin3 : ¬ ((0 : Int32) < 0 ∨ cl3.slots.size ≤ ((0 : Int32)).toNatClampNeg) := inb_of Sz3 ⟨by decide, by decide⟩
  obtain ⟨T4, h4, X4, e4, W4, st4⟩ := stR X2 hx hZ e2 Ar3 (j := (0 : Int32)) hin3 rfl (Sto.ofV Ar3 qq3 O1 (Ins.self (E_START.keep K1))) (g := (mkF m 10 #[.val (.int p1), .unset, .unset, .unset, .unset, .unset] [(.ref a_START), (.int (0 : Int32)), (.ref b1), (.ref b1)])) rfl rfl (hb hby at_10)
  have V4 : Arv Z h4 b1 k1 (.object "ebbtide/serve/History$Event") (10 : Int32) [(.ref a_START), .null, .null, .null, .null, .null, .null, .null, .null, .null] .null := Arv.set Ar3 qq3 Sz3 Ng3 Hs3 Gf3 rfl W4 0 rfl (Nat.le_of_ble_eq_true rfl)
  have K4 : Keep h0 h4 [] := K1.wr W4 (Or.inr sz_b1)
  have N4 := Fr.snoc X4 N0 gz_b1
  obtain ⟨T5, X5, e5, st5⟩ := getS2 X4 hx hZ hown (host := "") (Or.inl (hw _ (List.mem_of_getElem? (i := 6) rfl))) Via.refl e4 (own_sk S_READ K4) (g := (mkF m 13 #[.val (.int p1), .unset, .unset, .unset, .unset, .unset] [(.int (1 : Int32)), (.ref b1), (.ref b1)])) rfl (hb hby at_13)
  obtain ⟨cl6, Ar6, qq6, Sz6, Ng6, Hs6, Gf6⟩ := V4
  have hin6 : ¬ ((1 : Int32) < 0 ∨ cl6.slots.size ≤ ((1 : Int32)).toNatClampNeg) := inb_of Sz6 ⟨by decide, by decide⟩
  obtain ⟨T7, h7, X7, e7, W7, st7⟩ := stR X5 hx hZ e5 Ar6 (j := (1 : Int32)) hin6 rfl (Sto.ofV Ar6 qq6 O1 (Ins.self (E_READ.keep K4))) (g := (mkF m 16 #[.val (.int p1), .unset, .unset, .unset, .unset, .unset] [(.ref a_READ), (.int (1 : Int32)), (.ref b1), (.ref b1)])) rfl rfl (hb hby at_16)
  have V7 : Arv Z h7 b1 k1 (.object "ebbtide/serve/History$Event") (10 : Int32) [(.ref a_START), (.ref a_READ), .null, .null, .null, .null, .null, .null, .null, .null] .null := Arv.set Ar6 qq6 Sz6 Ng6 Hs6 Gf6 rfl W7 1 rfl (Nat.le_of_ble_eq_true rfl)
  have K7 : Keep h0 h7 [] := K4.wr W7 (Or.inr sz_b1)
  have N7 := Fr.snoc X7 N4 gz_b1
  obtain ⟨T8, X8, e8, st8⟩ := getS2 X7 hx hZ hown (host := "") (Or.inl (hw _ (List.mem_of_getElem? (i := 8) rfl))) Via.refl e7 (own_sk S_UNREAD K7) (g := (mkF m 19 #[.val (.int p1), .unset, .unset, .unset, .unset, .unset] [(.int (2 : Int32)), (.ref b1), (.ref b1)])) rfl (hb hby at_19)
  obtain ⟨cl9, Ar9, qq9, Sz9, Ng9, Hs9, Gf9⟩ := V7
  have hin9 : ¬ ((2 : Int32) < 0 ∨ cl9.slots.size ≤ ((2 : Int32)).toNatClampNeg) := inb_of Sz9 ⟨by decide, by decide⟩
  obtain ⟨T10, h10, X10, e10, W10, st10⟩ := stR X8 hx hZ e8 Ar9 (j := (2 : Int32)) hin9 rfl (Sto.ofV Ar9 qq9 O1 (Ins.self (E_UNREAD.keep K7))) (g := (mkF m 22 #[.val (.int p1), .unset, .unset, .unset, .unset, .unset] [(.ref a_UNREAD), (.int (2 : Int32)), (.ref b1), (.ref b1)])) rfl rfl (hb hby at_22)
  have V10 : Arv Z h10 b1 k1 (.object "ebbtide/serve/History$Event") (10 : Int32) [(.ref a_START), (.ref a_READ), (.ref a_UNREAD), .null, .null, .null, .null, .null, .null, .null] .null := Arv.set Ar9 qq9 Sz9 Ng9 Hs9 Gf9 rfl W10 2 rfl (Nat.le_of_ble_eq_true rfl)
  have K10 : Keep h0 h10 [] := K7.wr W10 (Or.inr sz_b1)
  have N10 := Fr.snoc X10 N7 gz_b1
  obtain ⟨T11, X11, e11, st11⟩ := getS2 X10 hx hZ hown (host := "") (Or.inl (hw _ (List.mem_of_getElem? (i := 10) rfl))) Via.refl e10 (own_sk S_POWER_ON K10) (g := (mkF m 25 #[.val (.int p1), .unset, .unset, .unset, .unset, .unset] [(.int (3 : Int32)), (.ref b1), (.ref b1)])) rfl (hb hby at_25)
  obtain ⟨cl12, Ar12, qq12, Sz12, Ng12, Hs12, Gf12⟩ := V10
  have hin12 : ¬ ((3 : Int32) < 0 ∨ cl12.slots.size ≤ ((3 : Int32)).toNatClampNeg) := inb_of Sz12 ⟨by decide, by decide⟩
  obtain ⟨T13, h13, X13, e13, W13, st13⟩ := stR X11 hx hZ e11 Ar12 (j := (3 : Int32)) hin12 rfl (Sto.ofV Ar12 qq12 O1 (Ins.self (E_POWER_ON.keep K10))) (g := (mkF m 28 #[.val (.int p1), .unset, .unset, .unset, .unset, .unset] [(.ref a_POWER_ON), (.int (3 : Int32)), (.ref b1), (.ref b1)])) rfl rfl (hb hby at_28)
  have V13 : Arv Z h13 b1 k1 (.object "ebbtide/serve/History$Event") (10 : Int32) [(.ref a_START), (.ref a_READ), (.ref a_UNREAD), (.ref a_POWER_ON), .null, .null, .null, .null, .null, .null] .null := Arv.set Ar12 qq12 Sz12 Ng12 Hs12 Gf12 rfl W13 3 rfl (Nat.le_of_ble_eq_true rfl)
  have K13 : Keep h0 h13 [] := K10.wr W13 (Or.inr sz_b1)
  have N13 := Fr.snoc X13 N10 gz_b1
  obtain ⟨T14, X14, e14, st14⟩ := getS2 X13 hx hZ hown (host := "") (Or.inl (hw _ (List.mem_of_getElem? (i := 12) rfl))) Via.refl e13 (own_sk S_POWER_OFF K13) (g := (mkF m 31 #[.val (.int p1), .unset, .unset, .unset, .unset, .unset] [(.int (4 : Int32)), (.ref b1), (.ref b1)])) rfl (hb hby at_31)
  obtain ⟨cl15, Ar15, qq15, Sz15, Ng15, Hs15, Gf15⟩ := V13
  have hin15 : ¬ ((4 : Int32) < 0 ∨ cl15.slots.size ≤ ((4 : Int32)).toNatClampNeg) := inb_of Sz15 ⟨by decide, by decide⟩
  obtain ⟨T16, h16, X16, e16, W16, st16⟩ := stR X14 hx hZ e14 Ar15 (j := (4 : Int32)) hin15 rfl (Sto.ofV Ar15 qq15 O1 (Ins.self (E_POWER_OFF.keep K13))) (g := (mkF m 34 #[.val (.int p1), .unset, .unset, .unset, .unset, .unset] [(.ref a_POWER_OFF), (.int (4 : Int32)), (.ref b1), (.ref b1)])) rfl rfl (hb hby at_34)
  have V16 : Arv Z h16 b1 k1 (.object "ebbtide/serve/History$Event") (10 : Int32) [(.ref a_START), (.ref a_READ), (.ref a_UNREAD), (.ref a_POWER_ON), (.ref a_POWER_OFF), .null, .null, .null, .null, .null] .null := Arv.set Ar15 qq15 Sz15 Ng15 Hs15 Gf15 rfl W16 4 rfl (Nat.le_of_ble_eq_true rfl)
  have K16 : Keep h0 h16 [] := K13.wr W16 (Or.inr sz_b1)
  have N16 := Fr.snoc X16 N13 gz_b1
  obtain ⟨T17, X17, e17, st17⟩ := getS2 X16 hx hZ hown (host := "") (Or.inl (hw _ (List.mem_of_getElem? (i := 14) rfl))) Via.refl e16 (own_sk S_HOLD_ON K16) (g := (mkF m 37 #[.val (.int p1), .unset, .unset, .unset, .unset, .unset] [(.int (5 : Int32)), (.ref b1), (.ref b1)])) rfl (hb hby at_37)
  obtain ⟨cl18, Ar18, qq18, Sz18, Ng18, Hs18, Gf18⟩ := V16
  have hin18 : ¬ ((5 : Int32) < 0 ∨ cl18.slots.size ≤ ((5 : Int32)).toNatClampNeg) := inb_of Sz18 ⟨by decide, by decide⟩
  obtain ⟨T19, h19, X19, e19, W19, st19⟩ := stR X17 hx hZ e17 Ar18 (j := (5 : Int32)) hin18 rfl (Sto.ofV Ar18 qq18 O1 (Ins.self (E_HOLD_ON.keep K16))) (g := (mkF m 40 #[.val (.int p1), .unset, .unset, .unset, .unset, .unset] [(.ref a_HOLD_ON), (.int (5 : Int32)), (.ref b1), (.ref b1)])) rfl rfl (hb hby at_40)
  have V19 : Arv Z h19 b1 k1 (.object "ebbtide/serve/History$Event") (10 : Int32) [(.ref a_START), (.ref a_READ), (.ref a_UNREAD), (.ref a_POWER_ON), (.ref a_POWER_OFF), (.ref a_HOLD_ON), .null, .null, .null, .null] .null := Arv.set Ar18 qq18 Sz18 Ng18 Hs18 Gf18 rfl W19 5 rfl (Nat.le_of_ble_eq_true rfl)
  have K19 : Keep h0 h19 [] := K16.wr W19 (Or.inr sz_b1)
  have N19 := Fr.snoc X19 N16 gz_b1
  obtain ⟨T20, X20, e20, st20⟩ := getS2 X19 hx hZ hown (host := "") (Or.inl (hw _ (List.mem_of_getElem? (i := 16) rfl))) Via.refl e19 (own_sk S_HOLD_OFF K19) (g := (mkF m 44 #[.val (.int p1), .unset, .unset, .unset, .unset, .unset] [(.int (6 : Int32)), (.ref b1), (.ref b1)])) rfl (hb hby at_44)
  obtain ⟨cl21, Ar21, qq21, Sz21, Ng21, Hs21, Gf21⟩ := V19
  have hin21 : ¬ ((6 : Int32) < 0 ∨ cl21.slots.size ≤ ((6 : Int32)).toNatClampNeg) := inb_of Sz21 ⟨by decide, by decide⟩
  obtain ⟨T22, h22, X22, e22, W22, st22⟩ := stR X20 hx hZ e20 Ar21 (j := (6 : Int32)) hin21 rfl (Sto.ofV Ar21 qq21 O1 (Ins.self (E_HOLD_OFF.keep K19))) (g := (mkF m 47 #[.val (.int p1), .unset, .unset, .unset, .unset, .unset] [(.ref a_HOLD_OFF), (.int (6 : Int32)), (.ref b1), (.ref b1)])) rfl rfl (hb hby at_47)
  have V22 : Arv Z h22 b1 k1 (.object "ebbtide/serve/History$Event") (10 : Int32) [(.ref a_START), (.ref a_READ), (.ref a_UNREAD), (.ref a_POWER_ON), (.ref a_POWER_OFF), (.ref a_HOLD_ON), (.ref a_HOLD_OFF), .null, .null, .null] .null := Arv.set Ar21 qq21 Sz21 Ng21 Hs21 Gf21 rfl W22 6 rfl (Nat.le_of_ble_eq_true rfl)
  have K22 : Keep h0 h22 [] := K19.wr W22 (Or.inr sz_b1)
  have N22 := Fr.snoc X22 N19 gz_b1
  obtain ⟨T23, X23, e23, st23⟩ := getS2 X22 hx hZ hown (host := "") (Or.inl (hw _ (List.mem_of_getElem? (i := 18) rfl))) Via.refl e22 (own_sk S_RELEASE K22) (g := (mkF m 51 #[.val (.int p1), .unset, .unset, .unset, .unset, .unset] [(.int (7 : Int32)), (.ref b1), (.ref b1)])) rfl (hb hby at_51)
  obtain ⟨cl24, Ar24, qq24, Sz24, Ng24, Hs24, Gf24⟩ := V22
  have hin24 : ¬ ((7 : Int32) < 0 ∨ cl24.slots.size ≤ ((7 : Int32)).toNatClampNeg) := inb_of Sz24 ⟨by decide, by decide⟩
  obtain ⟨T25, h25, X25, e25, W25, st25⟩ := stR X23 hx hZ e23 Ar24 (j := (7 : Int32)) hin24 rfl (Sto.ofV Ar24 qq24 O1 (Ins.self (E_RELEASE.keep K22))) (g := (mkF m 54 #[.val (.int p1), .unset, .unset, .unset, .unset, .unset] [(.ref a_RELEASE), (.int (7 : Int32)), (.ref b1), (.ref b1)])) rfl rfl (hb hby at_54)
  have V25 : Arv Z h25 b1 k1 (.object "ebbtide/serve/History$Event") (10 : Int32) [(.ref a_START), (.ref a_READ), (.ref a_UNREAD), (.ref a_POWER_ON), (.ref a_POWER_OFF), (.ref a_HOLD_ON), (.ref a_HOLD_OFF), (.ref a_RELEASE), .null, .null] .null := Arv.set Ar24 qq24 Sz24 Ng24 Hs24 Gf24 rfl W25 7 rfl (Nat.le_of_ble_eq_true rfl)
  have K25 : Keep h0 h25 [] := K22.wr W25 (Or.inr sz_b1)
  have N25 := Fr.snoc X25 N22 gz_b1
  obtain ⟨T26, X26, e26, st26⟩ := getS2 X25 hx hZ hown (host := "") (Or.inl (hw _ (List.mem_of_getElem? (i := 20) rfl))) Via.refl e25 (own_sk S_SPAN_START K25) (g := (mkF m 58 #[.val (.int p1), .unset, .unset, .unset, .unset, .unset] [(.int (8 : Int32)), (.ref b1), (.ref b1)])) rfl (hb hby at_58)
  obtain ⟨cl27, Ar27, qq27, Sz27, Ng27, Hs27, Gf27⟩ := V25
  have hin27 : ¬ ((8 : Int32) < 0 ∨ cl27.slots.size ≤ ((8 : Int32)).toNatClampNeg) := inb_of Sz27 ⟨by decide, by decide⟩
  obtain ⟨T28, h28, X28, e28, W28, st28⟩ := stR X26 hx hZ e26 Ar27 (j := (8 : Int32)) hin27 rfl (Sto.ofV Ar27 qq27 O1 (Ins.self (E_SPAN_START.keep K25))) (g := (mkF m 61 #[.val (.int p1), .unset, .unset, .unset, .unset, .unset] [(.ref a_SPAN_START), (.int (8 : Int32)), (.ref b1), (.ref b1)])) rfl rfl (hb hby at_61)
  have V28 : Arv Z h28 b1 k1 (.object "ebbtide/serve/History$Event") (10 : Int32) [(.ref a_START), (.ref a_READ), (.ref a_UNREAD), (.ref a_POWER_ON), (.ref a_POWER_OFF), (.ref a_HOLD_ON), (.ref a_HOLD_OFF), (.ref a_RELEASE), (.ref a_SPAN_START), .null] .null := Arv.set Ar27 qq27 Sz27 Ng27 Hs27 Gf27 rfl W28 8 rfl (Nat.le_of_ble_eq_true rfl)
  have K28 : Keep h0 h28 [] := K25.wr W28 (Or.inr sz_b1)
  have N28 := Fr.snoc X28 N25 gz_b1
  obtain ⟨T29, X29, e29, st29⟩ := getS2 X28 hx hZ hown (host := "") (Or.inl (hw _ (List.mem_of_getElem? (i := 22) rfl))) Via.refl e28 (own_sk S_SPAN_END K28) (g := (mkF m 65 #[.val (.int p1), .unset, .unset, .unset, .unset, .unset] [(.int (9 : Int32)), (.ref b1), (.ref b1)])) rfl (hb hby at_65)
  obtain ⟨cl30, Ar30, qq30, Sz30, Ng30, Hs30, Gf30⟩ := V28
  have hin30 : ¬ ((9 : Int32) < 0 ∨ cl30.slots.size ≤ ((9 : Int32)).toNatClampNeg) := inb_of Sz30 ⟨by decide, by decide⟩
  obtain ⟨T31, h31, X31, e31, W31, st31⟩ := stR X29 hx hZ e29 Ar30 (j := (9 : Int32)) hin30 rfl (Sto.ofV Ar30 qq30 O1 (Ins.self (E_SPAN_END.keep K28))) (g := (mkF m 68 #[.val (.int p1), .unset, .unset, .unset, .unset, .unset] [(.ref a_SPAN_END), (.int (9 : Int32)), (.ref b1), (.ref b1)])) rfl rfl (hb hby at_68)
  have V31 : Arv Z h31 b1 k1 (.object "ebbtide/serve/History$Event") (10 : Int32) [(.ref a_START), (.ref a_READ), (.ref a_UNREAD), (.ref a_POWER_ON), (.ref a_POWER_OFF), (.ref a_HOLD_ON), (.ref a_HOLD_OFF), (.ref a_RELEASE), (.ref a_SPAN_START), (.ref a_SPAN_END)] .null := Arv.set Ar30 qq30 Sz30 Ng30 Hs30 Gf30 rfl W31 9 rfl (Nat.le_of_ble_eq_true rfl)
  have K31 : Keep h0 h31 [] := K28.wr W31 (Or.inr sz_b1)
  have N31 := Fr.snoc X31 N28 gz_b1
  obtain ⟨cl32, Ar32, qq32, Sz32, Ng32, Hs32, Gf32⟩ := V31
  have hin32 : ¬ ((7 : Int32) < 0 ∨ cl32.slots.size ≤ ((7 : Int32)).toNatClampNeg) := inb_of Sz32 ⟨by decide, by decide⟩
  have hat32 : cl32.slots[((7 : Int32)).toNatClampNeg]? = some (.ref a_RELEASE) := Hs32.at hin32 rfl
  obtain ⟨cq33, kq33, q33a, q33b, q33c⟩ := isOf hZ e31 (E_RELEASE.keep K31)
  obtain ⟨_, _, ⟨T33, L33, k33, n33⟩, -, X33, ⟨Lc33, hQ33, l33, y33, z33⟩, st33⟩ := X31.virtualBack hx (y := (⟨"ebbtide/serve/History$Event", "holds", "()Z"⟩ : MethodName)) (z := (⟨"ebbtide/serve/History$Event", "holds", "()Z"⟩ : MethodName)) hown (mvT hZ (hw _ (List.mem_of_getElem? (i := 25) rfl))) (mvT hZ (hw _ (List.mem_of_getElem? (i := 26) rfl))) (notFace_of_selects (args := #[]) (mvT hZ (hw _ (List.mem_of_getElem? (i := 28) rfl)))) (mvT hZ (hw _ (List.mem_of_getElem? (i := 28) rfl))) (mvT hZ (hw _ (List.mem_of_getElem? (i := 27) rfl))) (by decide) (backOf (W := 0) (rm1_33 l Z a0 hw [] a_START a_READ a_UNREAD a_POWER_ON a_POWER_OFF a_HOLD_ON a_HOLD_OFF a_RELEASE a_SPAN_START a_SPAN_END a_ON a_OFF p1 h31 n0 (Nat.le_trans Z0 K31.1) (own_wk hS K31)) hZ (hw _ (List.mem_of_getElem? (i := 29) rfl)) (hw _ (List.mem_of_getElem? (i := 3) rfl)) (by decide) (by decide)) q33a q33c (g := (mkF m 81 #[.val (.int p1), .val (.ref b1), .val (.ref a_RELEASE), .unset, .unset, .unset] [(.ref a_RELEASE)])) rfl (by rw [hml]; rfl) (Steps.refl _) (argsL := []) (rest := []) (lenOf pd_0 rfl) rfl (by show 2 * 0 + _ ≤ _; exact Nat.le_of_eq rfl) (hb hby at_81) (fun _ _ => ⟨rfl, e31, (by decide : 1 + 0 ≤ _), (by decide : 10 + 0 ≤ _)⟩)
  dsimp only [Pt.U, Pt.locs, Pt.cells, Pt.slots] at X33 l33 y33 z33 st33 hQ33
  subst l33 y33 z33
  obtain ⟨rfl, N33q, e33⟩ := hQ33
  have N33 := Fr.app N31 N33q
  obtain ⟨cq34, kq34, q34a, q34b, q34c⟩ := isOf hZ e33 (E_RELEASE.keep K31)
  obtain ⟨_, _, ⟨T34, L34, k34, n34⟩, -, X34, ⟨Lc34, hQ34, l34, y34, z34⟩, st34⟩ := X33.virtualBack hx (y := (⟨"ebbtide/serve/History$Event", "hold", "()Lebbtide/serve/Hold;"⟩ : MethodName)) (z := (⟨"ebbtide/serve/History$Event", "hold", "()Lebbtide/serve/Hold;"⟩ : MethodName)) hown (mvT hZ (hw _ (List.mem_of_getElem? (i := 33) rfl))) (mvT hZ (hw _ (List.mem_of_getElem? (i := 34) rfl))) (notFace_of_selects (args := #[]) (mvT hZ (hw _ (List.mem_of_getElem? (i := 36) rfl)))) (mvT hZ (hw _ (List.mem_of_getElem? (i := 36) rfl))) (mvT hZ (hw _ (List.mem_of_getElem? (i := 35) rfl))) (by decide) (backOf (W := 0) (rm2_34 l Z a0 hw [] a_START a_READ a_UNREAD a_POWER_ON a_POWER_OFF a_HOLD_ON a_HOLD_OFF a_RELEASE a_SPAN_START a_SPAN_END a_ON a_OFF p1 h31 n0 (Nat.le_trans Z0 K31.1) (own_wk hS K31)) hZ (hw _ (List.mem_of_getElem? (i := 37) rfl)) (hw _ (List.mem_of_getElem? (i := 3) rfl)) (by decide) (by decide)) q34a q34c (g := (mkF m 86 #[.val (.int p1), .val (.ref b1), .val (.ref a_RELEASE), .val (.int (1 : Int32)), .unset, .unset] [(.ref a_RELEASE)])) rfl (by rw [hml]; rfl) (Steps.refl _) (argsL := []) (rest := []) (lenOf pd_2 rfl) rfl (by show 2 * 0 + _ ≤ _; exact Nat.le_of_eq rfl) (hb hby at_86) (fun _ _ => ⟨rfl, e33, (by decide : 1 + 0 ≤ _), (by decide : 10 + 0 ≤ _)⟩)
  dsimp only [Pt.U, Pt.locs, Pt.cells, Pt.slots] at X34 l34 y34 z34 st34 hQ34
  subst l34 y34 z34
  obtain ⟨rfl, N34q, e34⟩ := hQ34
  have N34 := Fr.app N33 N34q
  obtain ⟨_, _, ⟨T35, L35, k35, n35⟩, -, X35, ⟨Lc35, hQ35, l35, y35, z35⟩, st35⟩ := Jvm.LawKit.callS X34 hx (y := (⟨"ebbtide/serve/History$Event", "of", "(Lebbtide/serve/Hold;)Lebbtide/serve/History$Event;"⟩ : MethodName)) hown (mvT hZ (hw _ (List.mem_of_getElem? (i := 47) rfl))) (mvT hZ (hw _ (List.mem_of_getElem? (i := 48) rfl))) (mvT hZ (hw _ (List.mem_of_getElem? (i := 3) rfl))) (mvT hZ (hw _ (List.mem_of_getElem? (i := 49) rfl))) (by decide) (backOf (W := 0) (rm4_5 l Z a0 hw [] a_START a_READ a_UNREAD a_POWER_ON a_POWER_OFF a_HOLD_ON a_HOLD_OFF a_RELEASE a_SPAN_START a_SPAN_END a_ON a_OFF p1 h31 n0 (Nat.le_trans Z0 K31.1) (own_wk hS K31)) hZ (hw _ (List.mem_of_getElem? (i := 49) rfl)) (hw _ (List.mem_of_getElem? (i := 3) rfl)) (by decide) (by decide)) (g := (mkF m 93 #[.val (.int p1), .val (.ref b1), .val (.ref a_RELEASE), .val (.int (1 : Int32)), .val .null, .unset] [.null])) rfl (by rw [hml]; rfl) (argsL := [.null]) (rest := []) (lenOf pd_3 rfl) rfl (by show 2 * 0 + _ ≤ _; exact Nat.le_of_eq rfl) (hb hby at_93) (fun _ _ => ⟨rfl, e34, (by decide : 1 + 0 ≤ _), (by decide : 10 + 0 ≤ _)⟩)
  dsimp only [Pt.U, Pt.locs, Pt.cells, Pt.slots] at X35 l35 y35 z35 st35 hQ35
  subst l35 y35 z35
  obtain ⟨rfl, N35q, e35⟩ := hQ35
  have N35 := Fr.app N34 N35q
  obtain ⟨fs, hr, hrun, hended, hW, hsame⟩ := X35.leave (v := some (.int (1 : Int32))) (fun h => by rw [Bd.returns] at h; cases h)
  refine ⟨_, _, pre0 _ ?_, hrun, hended, _, _, rfl, ?_, ⟨_, rfl⟩, hW, hsame.mono (by decide) (by decide)⟩
  · show Steps p.tables e below (s₁.setTop (mkF m 0 #[.val (.int p1), .unset, .unset, .unset, .unset, .unset] [])) _
    refine XS.bipush X0.here hx rfl (hb hby at_0) ?_
    show Steps p.tables e below (s₁.setTop (mkF m 2 #[.val (.int p1), .unset, .unset, .unset, .unset, .unset] [(.int (10 : Int32))])) _
    refine st1 _ ?_
    show Steps p.tables e below (T1.setTop (mkF m 5 #[.val (.int p1), .unset, .unset, .unset, .unset, .unset] [(.ref b1)])) _
    refine XS.dup X1.here hx rfl (hb hby at_5) rfl rfl ?_
    show Steps p.tables e below (T1.setTop (mkF m 6 #[.val (.int p1), .unset, .unset, .unset, .unset, .unset] [(.ref b1), (.ref b1)])) _
    refine XS.iconst X1.here hx rfl (hb hby at_6) ?_
    show Steps p.tables e below (T1.setTop (mkF m 7 #[.val (.int p1), .unset, .unset, .unset, .unset, .unset] [(.int (0 : Int32)), (.ref b1), (.ref b1)])) _
    refine st2 _ ?_
    show Steps p.tables e below (T2.setTop (mkF m 10 #[.val (.int p1), .unset, .unset, .unset, .unset, .unset] [(.ref a_START), (.int (0 : Int32)), (.ref b1), (.ref b1)])) _
    refine st4 _ ?_
    show Steps p.tables e below (T4.setTop (mkF m 11 #[.val (.int p1), .unset, .unset, .unset, .unset, .unset] [(.ref b1)])) _
    refine XS.dup X4.here hx rfl (hb hby at_11) rfl rfl ?_
    show Steps p.tables e below (T4.setTop (mkF m 12 #[.val (.int p1), .unset, .unset, .unset, .unset, .unset] [(.ref b1), (.ref b1)])) _
    refine XS.iconst X4.here hx rfl (hb hby at_12) ?_
    show Steps p.tables e below (T4.setTop (mkF m 13 #[.val (.int p1), .unset, .unset, .unset, .unset, .unset] [(.int (1 : Int32)), (.ref b1), (.ref b1)])) _
    refine st5 _ ?_
    show Steps p.tables e below (T5.setTop (mkF m 16 #[.val (.int p1), .unset, .unset, .unset, .unset, .unset] [(.ref a_READ), (.int (1 : Int32)), (.ref b1), (.ref b1)])) _
    refine st7 _ ?_
    show Steps p.tables e below (T7.setTop (mkF m 17 #[.val (.int p1), .unset, .unset, .unset, .unset, .unset] [(.ref b1)])) _
    refine XS.dup X7.here hx rfl (hb hby at_17) rfl rfl ?_
    show Steps p.tables e below (T7.setTop (mkF m 18 #[.val (.int p1), .unset, .unset, .unset, .unset, .unset] [(.ref b1), (.ref b1)])) _
    refine XS.iconst X7.here hx rfl (hb hby at_18) ?_
    show Steps p.tables e below (T7.setTop (mkF m 19 #[.val (.int p1), .unset, .unset, .unset, .unset, .unset] [(.int (2 : Int32)), (.ref b1), (.ref b1)])) _
    refine st8 _ ?_
    show Steps p.tables e below (T8.setTop (mkF m 22 #[.val (.int p1), .unset, .unset, .unset, .unset, .unset] [(.ref a_UNREAD), (.int (2 : Int32)), (.ref b1), (.ref b1)])) _
    refine st10 _ ?_
    show Steps p.tables e below (T10.setTop (mkF m 23 #[.val (.int p1), .unset, .unset, .unset, .unset, .unset] [(.ref b1)])) _
    refine XS.dup X10.here hx rfl (hb hby at_23) rfl rfl ?_
    show Steps p.tables e below (T10.setTop (mkF m 24 #[.val (.int p1), .unset, .unset, .unset, .unset, .unset] [(.ref b1), (.ref b1)])) _
    refine XS.iconst X10.here hx rfl (hb hby at_24) ?_
    show Steps p.tables e below (T10.setTop (mkF m 25 #[.val (.int p1), .unset, .unset, .unset, .unset, .unset] [(.int (3 : Int32)), (.ref b1), (.ref b1)])) _
    refine st11 _ ?_
    show Steps p.tables e below (T11.setTop (mkF m 28 #[.val (.int p1), .unset, .unset, .unset, .unset, .unset] [(.ref a_POWER_ON), (.int (3 : Int32)), (.ref b1), (.ref b1)])) _
    refine st13 _ ?_
    show Steps p.tables e below (T13.setTop (mkF m 29 #[.val (.int p1), .unset, .unset, .unset, .unset, .unset] [(.ref b1)])) _
    refine XS.dup X13.here hx rfl (hb hby at_29) rfl rfl ?_
    show Steps p.tables e below (T13.setTop (mkF m 30 #[.val (.int p1), .unset, .unset, .unset, .unset, .unset] [(.ref b1), (.ref b1)])) _
    refine XS.iconst X13.here hx rfl (hb hby at_30) ?_
    show Steps p.tables e below (T13.setTop (mkF m 31 #[.val (.int p1), .unset, .unset, .unset, .unset, .unset] [(.int (4 : Int32)), (.ref b1), (.ref b1)])) _
    refine st14 _ ?_
    show Steps p.tables e below (T14.setTop (mkF m 34 #[.val (.int p1), .unset, .unset, .unset, .unset, .unset] [(.ref a_POWER_OFF), (.int (4 : Int32)), (.ref b1), (.ref b1)])) _
    refine st16 _ ?_
    show Steps p.tables e below (T16.setTop (mkF m 35 #[.val (.int p1), .unset, .unset, .unset, .unset, .unset] [(.ref b1)])) _
    refine XS.dup X16.here hx rfl (hb hby at_35) rfl rfl ?_
    show Steps p.tables e below (T16.setTop (mkF m 36 #[.val (.int p1), .unset, .unset, .unset, .unset, .unset] [(.ref b1), (.ref b1)])) _
    refine XS.iconst X16.here hx rfl (hb hby at_36) ?_
    show Steps p.tables e below (T16.setTop (mkF m 37 #[.val (.int p1), .unset, .unset, .unset, .unset, .unset] [(.int (5 : Int32)), (.ref b1), (.ref b1)])) _
    refine st17 _ ?_
    show Steps p.tables e below (T17.setTop (mkF m 40 #[.val (.int p1), .unset, .unset, .unset, .unset, .unset] [(.ref a_HOLD_ON), (.int (5 : Int32)), (.ref b1), (.ref b1)])) _
    refine st19 _ ?_
    show Steps p.tables e below (T19.setTop (mkF m 41 #[.val (.int p1), .unset, .unset, .unset, .unset, .unset] [(.ref b1)])) _
    refine XS.dup X19.here hx rfl (hb hby at_41) rfl rfl ?_
    show Steps p.tables e below (T19.setTop (mkF m 42 #[.val (.int p1), .unset, .unset, .unset, .unset, .unset] [(.ref b1), (.ref b1)])) _
    refine XS.bipush X19.here hx rfl (hb hby at_42) ?_
    show Steps p.tables e below (T19.setTop (mkF m 44 #[.val (.int p1), .unset, .unset, .unset, .unset, .unset] [(.int (6 : Int32)), (.ref b1), (.ref b1)])) _
    refine st20 _ ?_
    show Steps p.tables e below (T20.setTop (mkF m 47 #[.val (.int p1), .unset, .unset, .unset, .unset, .unset] [(.ref a_HOLD_OFF), (.int (6 : Int32)), (.ref b1), (.ref b1)])) _
    refine st22 _ ?_
    show Steps p.tables e below (T22.setTop (mkF m 48 #[.val (.int p1), .unset, .unset, .unset, .unset, .unset] [(.ref b1)])) _
    refine XS.dup X22.here hx rfl (hb hby at_48) rfl rfl ?_
    show Steps p.tables e below (T22.setTop (mkF m 49 #[.val (.int p1), .unset, .unset, .unset, .unset, .unset] [(.ref b1), (.ref b1)])) _
    refine XS.bipush X22.here hx rfl (hb hby at_49) ?_
    show Steps p.tables e below (T22.setTop (mkF m 51 #[.val (.int p1), .unset, .unset, .unset, .unset, .unset] [(.int (7 : Int32)), (.ref b1), (.ref b1)])) _
    refine st23 _ ?_
    show Steps p.tables e below (T23.setTop (mkF m 54 #[.val (.int p1), .unset, .unset, .unset, .unset, .unset] [(.ref a_RELEASE), (.int (7 : Int32)), (.ref b1), (.ref b1)])) _
    refine st25 _ ?_
    show Steps p.tables e below (T25.setTop (mkF m 55 #[.val (.int p1), .unset, .unset, .unset, .unset, .unset] [(.ref b1)])) _
    refine XS.dup X25.here hx rfl (hb hby at_55) rfl rfl ?_
    show Steps p.tables e below (T25.setTop (mkF m 56 #[.val (.int p1), .unset, .unset, .unset, .unset, .unset] [(.ref b1), (.ref b1)])) _
    refine XS.bipush X25.here hx rfl (hb hby at_56) ?_
    show Steps p.tables e below (T25.setTop (mkF m 58 #[.val (.int p1), .unset, .unset, .unset, .unset, .unset] [(.int (8 : Int32)), (.ref b1), (.ref b1)])) _
    refine st26 _ ?_
    show Steps p.tables e below (T26.setTop (mkF m 61 #[.val (.int p1), .unset, .unset, .unset, .unset, .unset] [(.ref a_SPAN_START), (.int (8 : Int32)), (.ref b1), (.ref b1)])) _
    refine st28 _ ?_
    show Steps p.tables e below (T28.setTop (mkF m 62 #[.val (.int p1), .unset, .unset, .unset, .unset, .unset] [(.ref b1)])) _
    refine XS.dup X28.here hx rfl (hb hby at_62) rfl rfl ?_
    show Steps p.tables e below (T28.setTop (mkF m 63 #[.val (.int p1), .unset, .unset, .unset, .unset, .unset] [(.ref b1), (.ref b1)])) _
    refine XS.bipush X28.here hx rfl (hb hby at_63) ?_
    show Steps p.tables e below (T28.setTop (mkF m 65 #[.val (.int p1), .unset, .unset, .unset, .unset, .unset] [(.int (9 : Int32)), (.ref b1), (.ref b1)])) _
    refine st29 _ ?_
    show Steps p.tables e below (T29.setTop (mkF m 68 #[.val (.int p1), .unset, .unset, .unset, .unset, .unset] [(.ref a_SPAN_END), (.int (9 : Int32)), (.ref b1), (.ref b1)])) _
    refine st31 _ ?_
    show Steps p.tables e below (T31.setTop (mkF m 69 #[.val (.int p1), .unset, .unset, .unset, .unset, .unset] [(.ref b1)])) _
    refine XS.astoreN X31.here hx rfl (hb hby at_69) rfl rfl (l' := #[.val (.int p1), .val (.ref b1), .unset, .unset, .unset, .unset]) rfl ?_
    show Steps p.tables e below (T31.setTop (mkF m 70 #[.val (.int p1), .val (.ref b1), .unset, .unset, .unset, .unset] [])) _
    refine XS.aloadN X31.here hx rfl (hb hby at_70) rfl rfl ?_
    show Steps p.tables e below (T31.setTop (mkF m 71 #[.val (.int p1), .val (.ref b1), .unset, .unset, .unset, .unset] [(.ref b1)])) _
    refine XS.iloadN X31.here hx rfl (hb hby at_71) rfl ?_
    show Steps p.tables e below (T31.setTop (mkF m 72 #[.val (.int p1), .val (.ref b1), .unset, .unset, .unset, .unset] [(.int p1), (.ref b1)])) _
    refine X31.ldcInt hx hown (mvT hZ (hw _ (List.mem_of_getElem? (i := 24) rfl))) (g := (mkF m 72 #[.val (.int p1), .val (.ref b1), .unset, .unset, .unset, .unset] [(.int p1), (.ref b1)])) rfl (hb hby at_72) _ ?_
    show Steps p.tables e below (T31.setTop (mkF m 74 #[.val (.int p1), .val (.ref b1), .unset, .unset, .unset, .unset] [(.int (2147483647 : Int32)), (.int p1), (.ref b1)])) _
    refine XS.iand X31.here hx rfl (hb hby at_74) rfl ?_
    show Steps p.tables e below (T31.setTop (mkF m 75 #[.val (.int p1), .val (.ref b1), .unset, .unset, .unset, .unset] [(.int (p1 &&& (2147483647 : Int32))), (.ref b1)])) _
    refine XS.bipush X31.here hx rfl (hb hby at_75) ?_
    show Steps p.tables e below (T31.setTop (mkF m 77 #[.val (.int p1), .val (.ref b1), .unset, .unset, .unset, .unset] [(.int (10 : Int32)), (.int (p1 &&& (2147483647 : Int32))), (.ref b1)])) _
    refine Jvm.RoadKit.iremM (g := (mkF m 77 #[.val (.int p1), .val (.ref b1), .unset, .unset, .unset, .unset] [(.int (10 : Int32)), (.int (p1 &&& (2147483647 : Int32))), (.ref b1)])) X31 hx rfl (hb hby at_77) rfl (by decide) ?_
    rw [hi]
    show Steps p.tables e below (T31.setTop (mkF m 78 #[.val (.int p1), .val (.ref b1), .unset, .unset, .unset, .unset] [(.int (7 : Int32)), (.ref b1)])) _
    refine X31.aaload hx (j := (7 : Int32)) (v := (.ref a_RELEASE)) (by rw [e31]; exact Ar32.1) (State.isArrayOf_alike hZ.alike Ar32.2.1) rfl Ar32.2.2 hin32 hat32 (g := (mkF m 78 #[.val (.int p1), .val (.ref b1), .unset, .unset, .unset, .unset] [(.int (7 : Int32)), (.ref b1)])) rfl rfl (hb hby at_78) _ ?_
    show Steps p.tables e below (T31.setTop (mkF m 79 #[.val (.int p1), .val (.ref b1), .unset, .unset, .unset, .unset] [(.ref a_RELEASE)])) _
    refine XS.astoreN X31.here hx rfl (hb hby at_79) rfl rfl (l' := #[.val (.int p1), .val (.ref b1), .val (.ref a_RELEASE), .unset, .unset, .unset]) rfl ?_
    show Steps p.tables e below (T31.setTop (mkF m 80 #[.val (.int p1), .val (.ref b1), .val (.ref a_RELEASE), .unset, .unset, .unset] [])) _
    refine XS.aloadN X31.here hx rfl (hb hby at_80) rfl rfl ?_
    show Steps p.tables e below (T31.setTop (mkF m 81 #[.val (.int p1), .val (.ref b1), .val (.ref a_RELEASE), .unset, .unset, .unset] [(.ref a_RELEASE)])) _
    refine st33.trans ?_
    show Steps p.tables e below (T33.setTop (mkF m 84 #[.val (.int p1), .val (.ref b1), .val (.ref a_RELEASE), .unset, .unset, .unset] [(.int (1 : Int32))])) _
    refine XS.istoreN X33.here hx rfl (hb hby at_84) rfl (l' := #[.val (.int p1), .val (.ref b1), .val (.ref a_RELEASE), .val (.int (1 : Int32)), .unset, .unset]) rfl ?_
    show Steps p.tables e below (T33.setTop (mkF m 85 #[.val (.int p1), .val (.ref b1), .val (.ref a_RELEASE), .val (.int (1 : Int32)), .unset, .unset] [])) _
    refine XS.aloadN X33.here hx rfl (hb hby at_85) rfl rfl ?_
    show Steps p.tables e below (T33.setTop (mkF m 86 #[.val (.int p1), .val (.ref b1), .val (.ref a_RELEASE), .val (.int (1 : Int32)), .unset, .unset] [(.ref a_RELEASE)])) _
    refine st34.trans ?_
    show Steps p.tables e below (T34.setTop (mkF m 89 #[.val (.int p1), .val (.ref b1), .val (.ref a_RELEASE), .val (.int (1 : Int32)), .unset, .unset] [.null])) _
    refine XS.astore X34.here hx rfl (hb hby at_89) rfl rfl (l' := #[.val (.int p1), .val (.ref b1), .val (.ref a_RELEASE), .val (.int (1 : Int32)), .val .null, .unset]) rfl ?_
    show Steps p.tables e below (T34.setTop (mkF m 91 #[.val (.int p1), .val (.ref b1), .val (.ref a_RELEASE), .val (.int (1 : Int32)), .val .null, .unset] [])) _
    refine XS.aload X34.here hx rfl (hb hby at_91) rfl rfl ?_
    show Steps p.tables e below (T34.setTop (mkF m 93 #[.val (.int p1), .val (.ref b1), .val (.ref a_RELEASE), .val (.int (1 : Int32)), .val .null, .unset] [.null])) _
    refine st35 _ ?_
    show Steps p.tables e below (T35.setTop (mkF m 96 #[.val (.int p1), .val (.ref b1), .val (.ref a_RELEASE), .val (.int (1 : Int32)), .val .null, .unset] [(.ref a_RELEASE)])) _
    refine XS.aloadN X35.here hx rfl (hb hby at_96) rfl rfl ?_
    show Steps p.tables e below (T35.setTop (mkF m 97 #[.val (.int p1), .val (.ref b1), .val (.ref a_RELEASE), .val (.int (1 : Int32)), .val .null, .unset] [(.ref a_RELEASE), (.ref a_RELEASE)])) _
    refine Jvm.RoadKit.acmp (g := (mkF m 97 #[.val (.int p1), .val (.ref b1), .val (.ref a_RELEASE), .val (.int (1 : Int32)), .val .null, .unset] [(.ref a_RELEASE), (.ref a_RELEASE)])) X35 hx rfl rfl rfl (pc0 := 97) (pc' := 100) (same := true) rfl (hb hby at_97) rfl (decide_eq_true rfl) (by decide) (by decide) ?_
    show Steps p.tables e below (T35.setTop (mkF m 100 #[.val (.int p1), .val (.ref b1), .val (.ref a_RELEASE), .val (.int (1 : Int32)), .val .null, .unset] [])) _
    refine XS.iconst X35.here hx rfl (hb hby at_100) ?_
    show Steps p.tables e below (T35.setTop (mkF m 101 #[.val (.int p1), .val (.ref b1), .val (.ref a_RELEASE), .val (.int (1 : Int32)), .val .null, .unset] [(.int (1 : Int32))])) _
    refine XS.goto X35.here hx rfl (pc0 := 101) (pc' := 105) rfl (hb hby at_101) (by decide) (by decide) ?_
    show Steps p.tables e below (T35.setTop (mkF m 105 #[.val (.int p1), .val (.ref b1), .val (.ref a_RELEASE), .val (.int (1 : Int32)), .val .null, .unset] [(.int (1 : Int32))])) _
    refine XS.istore X35.here hx rfl (hb hby at_105) rfl (l' := #[.val (.int p1), .val (.ref b1), .val (.ref a_RELEASE), .val (.int (1 : Int32)), .val .null, .val (.int (1 : Int32))]) rfl ?_
    show Steps p.tables e below (T35.setTop (mkF m 107 #[.val (.int p1), .val (.ref b1), .val (.ref a_RELEASE), .val (.int (1 : Int32)), .val .null, .val (.int (1 : Int32))] [])) _
    refine XS.iloadN X35.here hx rfl (hb hby at_107) rfl ?_
    show Steps p.tables e below (T35.setTop (mkF m 108 #[.val (.int p1), .val (.ref b1), .val (.ref a_RELEASE), .val (.int (1 : Int32)), .val .null, .val (.int (1 : Int32))] [(.int (1 : Int32))])) _
    refine XS.iload X35.here hx rfl (hb hby at_108) rfl ?_
    show Steps p.tables e below (T35.setTop (mkF m 110 #[.val (.int p1), .val (.ref b1), .val (.ref a_RELEASE), .val (.int (1 : Int32)), .val .null, .val (.int (1 : Int32))] [(.int (1 : Int32)), (.int (1 : Int32))])) _
    refine XS.icmpNo X35.here hx rfl (hb hby at_110) rfl (teq (by decide : (1 : Int32) = (1 : Int32))).2 ?_
    show Steps p.tables e below (T35.setTop (mkF m 113 #[.val (.int p1), .val (.ref b1), .val (.ref a_RELEASE), .val (.int (1 : Int32)), .val .null, .val (.int (1 : Int32))] [])) _
    refine XS.iconst X35.here hx rfl (hb hby at_113) ?_
    show Steps p.tables e below (T35.setTop (mkF m 114 #[.val (.int p1), .val (.ref b1), .val (.ref a_RELEASE), .val (.int (1 : Int32)), .val .null, .val (.int (1 : Int32))] [(.int (1 : Int32))])) _
    refine XS.goto X35.here hx rfl (pc0 := 114) (pc' := 118) rfl (hb hby at_114) (by decide) (by decide) ?_
    show Steps p.tables e below (T35.setTop (mkF m 118 #[.val (.int p1), .val (.ref b1), .val (.ref a_RELEASE), .val (.int (1 : Int32)), .val .null, .val (.int (1 : Int32))] [(.int (1 : Int32))])) _
    exact retN X35 hx (t := .boolean) Bd.returns (by simp) (hb hby at_118) hr
  · exact ⟨rfl, N35⟩
set_option maxRecDepth 65536 in
set_option maxHeartbeats 40000000 in
theorem rm1_37 (l : Launch) (Z : State) (a0 : Array Value) (hw : ∀ d ∈ tables_1, d.before a0 Z = true) (ws : List Jvm.Cond) (a_START : Addr) (a_READ : Addr) (a_UNREAD : Addr) (a_POWER_ON : Addr) (a_POWER_OFF : Addr) (a_HOLD_ON : Addr) (a_HOLD_OFF : Addr) (a_RELEASE : Addr) (a_SPAN_START : Addr) (a_SPAN_END : Addr) (a_ON : Addr) (a_OFF : Addr) (p1 : Int32) (h0 : Heap) (n0 : Nat) (Z0 : n0 ≤ h0.size) (hS : Wd Z h0 a_START a_READ a_UNREAD a_POWER_ON a_POWER_OFF a_HOLD_ON a_HOLD_OFF a_RELEASE a_SPAN_START a_SPAN_END a_ON a_OFF) :
    MetFree l (⟨"ebbtide/serve/History$Event", "holds", "()Z"⟩ : MethodName) (head1 (Jvm.Cond.code (⟨"ebbtide/serve/History$Event", "holds", "()Z"⟩ : MethodName) prog_171_method_7_code 1 (some .boolean) :: ws) ({ frames := 0, cells := 0, slots := 0, locals := 0 } : Room)) (fun a U => a = #[(.ref a_SPAN_START)] ∧ Z.Warmed39 U.vm ∧ U.heap = h0) (fun _ _ _ _ _ => True) (fun _ U o U' => ∃ v L, o = .returned v ∧ QP (some (.int (0 : Int32))) h0 n0 v U'.heap L ∧ FrameEnd U o U' L ({ frames := 0, cells := 0, slots := 0, locals := 0 } : Room).cells ({ frames := 0, cells := 0, slots := 0, locals := 0 } : Room).slots) := by
  refine MetFree.of_bodySF (plainFor_of_name pn_ebbtide_serve_History_Event) hisR ?_
  intro p e s m args below meth c s₁ Bd hml0 hP hK
  obtain ⟨rfl, hZ, hh⟩ := hP
  have hx := Bd.exec
  have hby := Bd.bytes
  have hml : c.maxLocals = 1 := hml0
  have hown : s.vm.findClass "ebbtide/serve/History$Event" = some m.cls := findClass_of_methodNamed Bd.named
  have X0 : Stand p l e ({ frames := 0, cells := 0, slots := 0, locals := 0 } : Room) s m #[(.ref a_SPAN_START)] below meth c s₁ [] 0 0 := Stand.of_body Bd
  have e0 : s₁.heap = h0 := by rw [← hh, Bd.state]; rfl
  have N0 := Fr.nil n0
  have pre0 : ∀ t, Steps p.tables e below (s₁.setTop (mkF m 0 #[.val (.ref a_SPAN_START)] [])) t → Steps p.tables e below (s₁.setTop (entryFrame m #[(.ref a_SPAN_START)] 1)) t := fun t k => castTop (by first | (simp [entryFrame, mkF, argsToLocals, Value.category]; done) | rfl) k
  obtain ⟨S_START, E_START, S_READ, E_READ, S_UNREAD, E_UNREAD, S_POWER_ON, E_POWER_ON, S_POWER_OFF, E_POWER_OFF, S_HOLD_ON, E_HOLD_ON, S_HOLD_OFF, E_HOLD_OFF, S_RELEASE, E_RELEASE, S_SPAN_START, E_SPAN_START, S_SPAN_END, E_SPAN_END, S_ON, E_ON, S_OFF, E_OFF, F_START_ordinal, F_HOLD_ON_ordinal, F_HOLD_OFF_ordinal, F_RELEASE_ordinal, F_POWER_ON_ordinal, F_READ_ordinal, F_POWER_OFF_ordinal, F_UNREAD_ordinal, F_SPAN_START_ordinal, F_SPAN_END_ordinal, F_OFF_ordinal, F_ON_ordinal⟩ := id hS
  obtain ⟨T1, X1, e1, st1⟩ := getS2 X0 hx hZ hown (host := "") (Or.inl (hw _ (List.mem_of_getElem? (i := 30) rfl))) Via.refl e0 S_HOLD_ON (g := (mkF m 1 #[.val (.ref a_SPAN_START)] [(.ref a_SPAN_START)])) rfl (hb hby d1_1)
  obtain ⟨T2, X2, e2, st2⟩ := getS2 X1 hx hZ hown (host := "") (Or.inl (hw _ (List.mem_of_getElem? (i := 31) rfl))) Via.refl e1 S_HOLD_OFF (g := (mkF m 8 #[.val (.ref a_SPAN_START)] [(.ref a_SPAN_START)])) rfl (hb hby d1_8)
  obtain ⟨T3, X3, e3, st3⟩ := getS2 X2 hx hZ hown (host := "") (Or.inl (hw _ (List.mem_of_getElem? (i := 32) rfl))) Via.refl e2 S_RELEASE (g := (mkF m 15 #[.val (.ref a_SPAN_START)] [(.ref a_SPAN_START)])) rfl (hb hby d1_15)
  obtain ⟨fs, hr, hrun, hended, hW, hsame⟩ := X3.leave (v := some (.int (0 : Int32))) (fun h => by rw [Bd.returns] at h; cases h)
  refine ⟨_, _, pre0 _ ?_, hrun, hended, _, _, rfl, ?_, ⟨_, rfl⟩, hW, hsame.mono (by decide) (by decide)⟩
  · show Steps p.tables e below (s₁.setTop (mkF m 0 #[.val (.ref a_SPAN_START)] [])) _
    refine XS.aloadN X0.here hx rfl (hb hby d1_0) rfl rfl ?_
    show Steps p.tables e below (s₁.setTop (mkF m 1 #[.val (.ref a_SPAN_START)] [(.ref a_SPAN_START)])) _
    refine st1 _ ?_
    show Steps p.tables e below (T1.setTop (mkF m 4 #[.val (.ref a_SPAN_START)] [(.ref a_HOLD_ON), (.ref a_SPAN_START)])) _
    refine Jvm.RoadKit.acmp (g := (mkF m 4 #[.val (.ref a_SPAN_START)] [(.ref a_HOLD_ON), (.ref a_SPAN_START)])) X1 hx rfl rfl rfl (pc0 := 4) (pc' := 7) (same := false) rfl (hb hby d1_4) rfl (decide_eq_false fun q => (Fld.ne F_SPAN_START_ordinal F_HOLD_ON_ordinal (fun q => absurd (Value.int.inj q) (by decide))) (Value.ref.inj q)) (by decide) (by decide) ?_
    show Steps p.tables e below (T1.setTop (mkF m 7 #[.val (.ref a_SPAN_START)] [])) _
    refine XS.aloadN X1.here hx rfl (hb hby d1_7) rfl rfl ?_
    show Steps p.tables e below (T1.setTop (mkF m 8 #[.val (.ref a_SPAN_START)] [(.ref a_SPAN_START)])) _
    refine st2 _ ?_
    show Steps p.tables e below (T2.setTop (mkF m 11 #[.val (.ref a_SPAN_START)] [(.ref a_HOLD_OFF), (.ref a_SPAN_START)])) _
    refine Jvm.RoadKit.acmp (g := (mkF m 11 #[.val (.ref a_SPAN_START)] [(.ref a_HOLD_OFF), (.ref a_SPAN_START)])) X2 hx rfl rfl rfl (pc0 := 11) (pc' := 14) (same := false) rfl (hb hby d1_11) rfl (decide_eq_false fun q => (Fld.ne F_SPAN_START_ordinal F_HOLD_OFF_ordinal (fun q => absurd (Value.int.inj q) (by decide))) (Value.ref.inj q)) (by decide) (by decide) ?_
    show Steps p.tables e below (T2.setTop (mkF m 14 #[.val (.ref a_SPAN_START)] [])) _
    refine XS.aloadN X2.here hx rfl (hb hby d1_14) rfl rfl ?_
    show Steps p.tables e below (T2.setTop (mkF m 15 #[.val (.ref a_SPAN_START)] [(.ref a_SPAN_START)])) _
    refine st3 _ ?_
    show Steps p.tables e below (T3.setTop (mkF m 18 #[.val (.ref a_SPAN_START)] [(.ref a_RELEASE), (.ref a_SPAN_START)])) _
    refine Jvm.RoadKit.acmp (g := (mkF m 18 #[.val (.ref a_SPAN_START)] [(.ref a_RELEASE), (.ref a_SPAN_START)])) X3 hx rfl rfl rfl (pc0 := 18) (pc' := 25) (same := false) rfl (hb hby d1_18) rfl (decide_eq_false fun q => (Fld.ne F_SPAN_START_ordinal F_RELEASE_ordinal (fun q => absurd (Value.int.inj q) (by decide))) (Value.ref.inj q)) (by decide) (by decide) ?_
    show Steps p.tables e below (T3.setTop (mkF m 25 #[.val (.ref a_SPAN_START)] [])) _
    refine XS.iconst X3.here hx rfl (hb hby d1_25) ?_
    show Steps p.tables e below (T3.setTop (mkF m 26 #[.val (.ref a_SPAN_START)] [(.int (0 : Int32))])) _
    exact retN X3 hx (t := .boolean) Bd.returns (by simp) (hb hby d1_26) hr
  · exact ⟨rfl, N0, e3⟩
set_option maxRecDepth 65536 in
set_option maxHeartbeats 40000000 in
theorem rm3_39 (l : Launch) (Z : State) (a0 : Array Value) (hw : ∀ d ∈ tables_1, d.before a0 Z = true) (ws : List Jvm.Cond) (a_START : Addr) (a_READ : Addr) (a_UNREAD : Addr) (a_POWER_ON : Addr) (a_POWER_OFF : Addr) (a_HOLD_ON : Addr) (a_HOLD_OFF : Addr) (a_RELEASE : Addr) (a_SPAN_START : Addr) (a_SPAN_END : Addr) (a_ON : Addr) (a_OFF : Addr) (p1 : Int32) (h0 : Heap) (n0 : Nat) (Z0 : n0 ≤ h0.size) (hS : Wd Z h0 a_START a_READ a_UNREAD a_POWER_ON a_POWER_OFF a_HOLD_ON a_HOLD_OFF a_RELEASE a_SPAN_START a_SPAN_END a_ON a_OFF) :
    MetFree l (⟨"java/lang/Enum", "ordinal", "()I"⟩ : MethodName) (head1 (Jvm.Cond.code (⟨"java/lang/Enum", "ordinal", "()I"⟩ : MethodName) jdk_37_method_2_code 1 (some .int) :: ws) ({ frames := 0, cells := 0, slots := 0, locals := 0 } : Room)) (fun a U => a = #[(.ref a_SPAN_START)] ∧ Z.Warmed39 U.vm ∧ U.heap = h0) (fun _ _ _ _ _ => True) (fun _ U o U' => ∃ v L, o = .returned v ∧ QP (some (.int (8 : Int32))) h0 n0 v U'.heap L ∧ FrameEnd U o U' L ({ frames := 0, cells := 0, slots := 0, locals := 0 } : Room).cells ({ frames := 0, cells := 0, slots := 0, locals := 0 } : Room).slots) := by
  refine MetFree.of_bodySF (plainFor_of_name pn_java_lang_Enum) hisR ?_
  intro p e s m args below meth c s₁ Bd hml0 hP hK
  obtain ⟨rfl, hZ, hh⟩ := hP
  have hx := Bd.exec
  have hby := Bd.bytes
  have hml : c.maxLocals = 1 := hml0
  have hown : s.vm.findClass "java/lang/Enum" = some m.cls := findClass_of_methodNamed Bd.named
  have X0 : Stand p l e ({ frames := 0, cells := 0, slots := 0, locals := 0 } : Room) s m #[(.ref a_SPAN_START)] below meth c s₁ [] 0 0 := Stand.of_body Bd
  have e0 : s₁.heap = h0 := by rw [← hh, Bd.state]; rfl
  have N0 := Fr.nil n0
  have pre0 : ∀ t, Steps p.tables e below (s₁.setTop (mkF m 0 #[.val (.ref a_SPAN_START)] [])) t → Steps p.tables e below (s₁.setTop (entryFrame m #[(.ref a_SPAN_START)] 1)) t := fun t k => castTop (by first | (simp [entryFrame, mkF, argsToLocals, Value.category]; done) | rfl) k
  obtain ⟨S_START, E_START, S_READ, E_READ, S_UNREAD, E_UNREAD, S_POWER_ON, E_POWER_ON, S_POWER_OFF, E_POWER_OFF, S_HOLD_ON, E_HOLD_ON, S_HOLD_OFF, E_HOLD_OFF, S_RELEASE, E_RELEASE, S_SPAN_START, E_SPAN_START, S_SPAN_END, E_SPAN_END, S_ON, E_ON, S_OFF, E_OFF, F_START_ordinal, F_HOLD_ON_ordinal, F_HOLD_OFF_ordinal, F_RELEASE_ordinal, F_POWER_ON_ordinal, F_READ_ordinal, F_POWER_OFF_ordinal, F_UNREAD_ordinal, F_SPAN_START_ordinal, F_SPAN_END_ordinal, F_OFF_ordinal, F_ON_ordinal⟩ := id hS
  obtain ⟨T1, X1, e1, st1⟩ := getF X0 hx hZ hown (host := "") (Or.inl (hw _ (List.mem_of_getElem? (i := 45) rfl))) Via.refl e0 F_SPAN_START_ordinal (g := (mkF m 1 #[.val (.ref a_SPAN_START)] [(.ref a_SPAN_START)])) rfl rfl (hb hby d3_1)
  obtain ⟨fs, hr, hrun, hended, hW, hsame⟩ := X1.leave (v := some (.int (8 : Int32))) (fun h => by rw [Bd.returns] at h; cases h)
  refine ⟨_, _, pre0 _ ?_, hrun, hended, _, _, rfl, ?_, ⟨_, rfl⟩, hW, hsame.mono (by decide) (by decide)⟩
  · show Steps p.tables e below (s₁.setTop (mkF m 0 #[.val (.ref a_SPAN_START)] [])) _
    refine XS.aloadN X0.here hx rfl (hb hby d3_0) rfl rfl ?_
    show Steps p.tables e below (s₁.setTop (mkF m 1 #[.val (.ref a_SPAN_START)] [(.ref a_SPAN_START)])) _
    refine st1 _ ?_
    show Steps p.tables e below (T1.setTop (mkF m 4 #[.val (.ref a_SPAN_START)] [(.int (8 : Int32))])) _
    exact own_retI X1 hx Bd.returns (hb hby d3_4) hr
  · exact ⟨rfl, N0, e1⟩
set_option maxRecDepth 65536 in
set_option maxHeartbeats 40000000 in
theorem rm2_38 (l : Launch) (Z : State) (a0 : Array Value) (hw : ∀ d ∈ tables_1, d.before a0 Z = true) (ws : List Jvm.Cond) (a_START : Addr) (a_READ : Addr) (a_UNREAD : Addr) (a_POWER_ON : Addr) (a_POWER_OFF : Addr) (a_HOLD_ON : Addr) (a_HOLD_OFF : Addr) (a_RELEASE : Addr) (a_SPAN_START : Addr) (a_SPAN_END : Addr) (a_ON : Addr) (a_OFF : Addr) (p1 : Int32) (h0 : Heap) (n0 : Nat) (Z0 : n0 ≤ h0.size) (hS : Wd Z h0 a_START a_READ a_UNREAD a_POWER_ON a_POWER_OFF a_HOLD_ON a_HOLD_OFF a_RELEASE a_SPAN_START a_SPAN_END a_ON a_OFF) :
    MetFree l (⟨"ebbtide/serve/History$Event", "hold", "()Lebbtide/serve/Hold;"⟩ : MethodName) (head1 (Jvm.Cond.code (⟨"ebbtide/serve/History$Event", "hold", "()Lebbtide/serve/Hold;"⟩ : MethodName) prog_171_method_6_code 1 (some (.object "ebbtide/serve/Hold")) :: ws) ({ frames := 1, cells := 0, slots := 0, locals := 12 } : Room)) (fun a U => a = #[(.ref a_SPAN_START)] ∧ Z.Warmed39 U.vm ∧ U.heap = h0) (fun _ _ _ _ _ => True) (fun _ U o U' => ∃ v L, o = .returned v ∧ QP (some .null) h0 n0 v U'.heap L ∧ FrameEnd U o U' L ({ frames := 1, cells := 0, slots := 0, locals := 12 } : Room).cells ({ frames := 1, cells := 0, slots := 0, locals := 12 } : Room).slots) := by
  refine MetFree.of_bodySF (plainFor_of_name pn_ebbtide_serve_History_Event) hisR ?_
  intro p e s m args below meth c s₁ Bd hml0 hP hK
  obtain ⟨rfl, hZ, hh⟩ := hP
  have hx := Bd.exec
  have hby := Bd.bytes
  have hml : c.maxLocals = 1 := hml0
  have hown : s.vm.findClass "ebbtide/serve/History$Event" = some m.cls := findClass_of_methodNamed Bd.named
  have X0 : Stand p l e ({ frames := 1, cells := 0, slots := 0, locals := 12 } : Room) s m #[(.ref a_SPAN_START)] below meth c s₁ [] 0 0 := Stand.of_body Bd
  have e0 : s₁.heap = h0 := by rw [← hh, Bd.state]; rfl
  have N0 := Fr.nil n0
  have pre0 : ∀ t, Steps p.tables e below (s₁.setTop (mkF m 0 #[.val (.ref a_SPAN_START)] [])) t → Steps p.tables e below (s₁.setTop (entryFrame m #[(.ref a_SPAN_START)] 1)) t := fun t k => castTop (by first | (simp [entryFrame, mkF, argsToLocals, Value.category]; done) | rfl) k
  obtain ⟨S_START, E_START, S_READ, E_READ, S_UNREAD, E_UNREAD, S_POWER_ON, E_POWER_ON, S_POWER_OFF, E_POWER_OFF, S_HOLD_ON, E_HOLD_ON, S_HOLD_OFF, E_HOLD_OFF, S_RELEASE, E_RELEASE, S_SPAN_START, E_SPAN_START, S_SPAN_END, E_SPAN_END, S_ON, E_ON, S_OFF, E_OFF, F_START_ordinal, F_HOLD_ON_ordinal, F_HOLD_OFF_ordinal, F_RELEASE_ordinal, F_POWER_ON_ordinal, F_READ_ordinal, F_POWER_OFF_ordinal, F_UNREAD_ordinal, F_SPAN_START_ordinal, F_SPAN_END_ordinal, F_OFF_ordinal, F_ON_ordinal⟩ := id hS
  obtain ⟨cq1, kq1, q1a, q1b, q1c⟩ := isOf hZ e0 E_SPAN_START
  obtain ⟨_, _, ⟨T1, L1, k1, n1⟩, -, X1, ⟨Lc1, hQ1, l1, y1, z1⟩, st1⟩ := X0.virtualBackUp hx (owner := "java/lang/Enum") (x := (⟨"ebbtide/serve/History$Event", "ordinal", "()I"⟩ : MethodName)) (y := (⟨"java/lang/Enum", "ordinal", "()I"⟩ : MethodName)) hown (mvT hZ (hw _ (List.mem_of_getElem? (i := 38) rfl))) (mvT hZ (hw _ (List.mem_of_getElem? (i := 39) rfl))) (mvT hZ (hw _ (List.mem_of_getElem? (i := 40) rfl))) (by decide) (mvT hZ (hw _ (List.mem_of_getElem? (i := 42) rfl))) (mvT hZ (hw _ (List.mem_of_getElem? (i := 41) rfl))) (backOf (W := 0) (rm3_39 l Z a0 hw [] a_START a_READ a_UNREAD a_POWER_ON a_POWER_OFF a_HOLD_ON a_HOLD_OFF a_RELEASE a_SPAN_START a_SPAN_END a_ON a_OFF p1 h0 n0 Z0 hS) hZ (hw _ (List.mem_of_getElem? (i := 44) rfl)) (hw _ (List.mem_of_getElem? (i := 43) rfl)) (by decide) (by decide)) q1a q1c (g := (mkF m 1 #[.val (.ref a_SPAN_START)] [(.ref a_SPAN_START)])) rfl (by rw [hml]; rfl) (Steps.refl _) (argsL := []) (rest := []) (lenOf pd_1 rfl) rfl (by show 2 * 0 + _ ≤ _; exact Nat.le_of_eq rfl) (hb hby d2_1) (fun _ _ => ⟨rfl, e0, (by decide : 0 + 0 ≤ _), (by decide : 0 + 0 ≤ _)⟩)
  dsimp only [Pt.U, Pt.locs, Pt.cells, Pt.slots] at X1 l1 y1 z1 st1 hQ1
  subst l1 y1 z1
  obtain ⟨rfl, N1q, e1⟩ := hQ1
  have N1 := Fr.app N0 N1q
  obtain ⟨fs, hr, hrun, hended, hW, hsame⟩ := X1.leave (v := some .null) (fun h => by rw [Bd.returns] at h; cases h)
  refine ⟨_, _, pre0 _ ?_, hrun, hended, _, _, rfl, ?_, ⟨_, rfl⟩, hW, hsame.mono (by decide) (by decide)⟩
  · show Steps p.tables e below (s₁.setTop (mkF m 0 #[.val (.ref a_SPAN_START)] [])) _
    refine XS.aloadN X0.here hx rfl (hb hby d2_0) rfl rfl ?_
    show Steps p.tables e below (s₁.setTop (mkF m 1 #[.val (.ref a_SPAN_START)] [(.ref a_SPAN_START)])) _
    refine st1.trans ?_
    show Steps p.tables e below (T1.setTop (mkF m 4 #[.val (.ref a_SPAN_START)] [(.int (8 : Int32))])) _
    refine X1.lookupswitchMiss hx (g := (mkF m 4 #[.val (.ref a_SPAN_START)] [(.int (8 : Int32))])) rfl rfl (hb hby d2_4) (by decide) (by first | decide | rfl | (simp; done)) (by show (0 : Int) ≤ ((4 : Nat) : Int) + 40; decide) _ ?_
    show Steps p.tables e below (T1.setTop (mkF m 44 #[.val (.ref a_SPAN_START)] [])) _
    refine XS.aconstNull X1.here hx rfl (hb hby d2_44) ?_
    show Steps p.tables e below (T1.setTop (mkF m 45 #[.val (.ref a_SPAN_START)] [.null])) _
    exact own_retA X1 hx Bd.returns rfl rfl (hb hby d2_45) hr
  · exact ⟨rfl, N1, e1⟩
set_option maxRecDepth 65536 in
set_option maxHeartbeats 40000000 in
theorem rm0_36 (l : Launch) (Z : State) (a0 : Array Value) (hw : ∀ d ∈ tables_1, d.before a0 Z = true) (ws : List Jvm.Cond) (a_START : Addr) (a_READ : Addr) (a_UNREAD : Addr) (a_POWER_ON : Addr) (a_POWER_OFF : Addr) (a_HOLD_ON : Addr) (a_HOLD_OFF : Addr) (a_RELEASE : Addr) (a_SPAN_START : Addr) (a_SPAN_END : Addr) (a_ON : Addr) (a_OFF : Addr) (p1 : Int32) (h0 : Heap) (n0 : Nat) (Z0 : n0 ≤ h0.size) (hS : Wd Z h0 a_START a_READ a_UNREAD a_POWER_ON a_POWER_OFF a_HOLD_ON a_HOLD_OFF a_RELEASE a_SPAN_START a_SPAN_END a_ON a_OFF) (hi : ((p1 &&& (2147483647 : Int32)) % (10 : Int32)) = (8 : Int32)) :
    MetFree l x (head1 (Jvm.Cond.code x code maxLocals ret :: ws) room_1) (fun a U => a = #[(.int p1)] ∧ Z.Warmed39 U.vm ∧ U.heap = h0) (fun _ _ _ _ _ => True) (fun _ U o U' => ∃ v L, o = .returned v ∧ Q0 n0 v L ∧ FrameEnd U o U' L room_1.cells room_1.slots) := by
  refine MetFree.of_bodySF (plainFor_of_name pn_ebbtide_serve_HistoryHoldsPinLaw) hisR ?_
  intro p e s m args below meth c s₁ Bd hml0 hP hK
  obtain ⟨rfl, hZ, hh⟩ := hP
  have hx := Bd.exec
  have hby := Bd.bytes
  have hml : c.maxLocals = 6 := hml0
  have hown : s.vm.findClass "ebbtide/serve/HistoryHoldsPinLaw" = some m.cls := findClass_of_methodNamed Bd.named
  have X0 : Stand p l e room_1 s m #[(.int p1)] below meth c s₁ [] 0 0 := Stand.of_body Bd
  have e0 : s₁.heap = h0 := by rw [← hh, Bd.state]; rfl
  have N0 := Fr.nil n0
  have pre0 : ∀ t, Steps p.tables e below (s₁.setTop (mkF m 0 #[.val (.int p1), .unset, .unset, .unset, .unset, .unset] [])) t → Steps p.tables e below (s₁.setTop (entryFrame m #[(.int p1)] maxLocals)) t := fun t k => castTop (by first | (simp [entryFrame, mkF, argsToLocals, Value.category, maxLocals]; done) | rfl) k
  obtain ⟨S_START, E_START, S_READ, E_READ, S_UNREAD, E_UNREAD, S_POWER_ON, E_POWER_ON, S_POWER_OFF, E_POWER_OFF, S_HOLD_ON, E_HOLD_ON, S_HOLD_OFF, E_HOLD_OFF, S_RELEASE, E_RELEASE, S_SPAN_START, E_SPAN_START, S_SPAN_END, E_SPAN_END, S_ON, E_ON, S_OFF, E_OFF, F_START_ordinal, F_HOLD_ON_ordinal, F_HOLD_OFF_ordinal, F_RELEASE_ordinal, F_POWER_ON_ordinal, F_READ_ordinal, F_POWER_OFF_ordinal, F_UNREAD_ordinal, F_SPAN_START_ordinal, F_SPAN_END_ordinal, F_OFF_ordinal, F_ON_ordinal⟩ := id hS
  obtain ⟨T1, h1, k1, X1, e1, E1, A1, O1, st1⟩ := newR X0 hx hZ hown (hw _ (List.mem_of_getElem? (i := 0) rfl)) (hw _ (List.mem_of_getElem? (i := 1) rfl)) e0 (g := (mkF m 2 #[.val (.int p1), .unset, .unset, .unset, .unset, .unset] [(.int (10 : Int32))])) rfl (hb hby at_2) rfl (by decide) (cap := 10) (by decide) (by decide) (by decide) (by decide)
  obtain ⟨b1, g1⟩ : ∃ z, z = h0.size := ⟨_, rfl⟩
  rw [← g1] at A1 st1
  have V1 : Arv Z h1 b1 k1 (.object "ebbtide/serve/History$Event") (10 : Int32) [.null, .null, .null, .null, .null, .null, .null, .null, .null, .null] .null := (Arv.new A1 (by decide)).pad (pad_rep [] .null 10)
  have K1 : Keep h0 h1 [] := (Keep.refl h0 []).ext E1
  have sz_b1 : h0.size ≤ b1 := Nat.le_trans (Keep.refl h0 []).1 (Nat.le_of_eq g1.symm)
  have gz_b1 : n0 ≤ b1 := Nat.le_trans Z0 sz_b1
  obtain ⟨T2, X2, e2, st2⟩ := getS2 X1 hx hZ hown (host := "") (Or.inl (hw _ (List.mem_of_getElem? (i := 2) rfl))) Via.refl e1 (own_sk S_START K1) (g := (mkF m 7 #[.val (.int p1), .unset, .unset, .unset, .unset, .unset] [(.int (0 : Int32)), (.ref b1), (.ref b1)])) rfl (hb hby at_7)
  obtain ⟨cl3, Ar3, qq3, Sz3, Ng3, Hs3, Gf3⟩ := V1
  have hin3 : ¬ ((0 : Int32) < 0 ∨ cl3.slots.size ≤ ((0 : Int32)).toNatClampNeg) := inb_of Sz3 ⟨by decide, by decide⟩
  obtain ⟨T4, h4, X4, e4, W4, st4⟩ := stR X2 hx hZ e2 Ar3 (j := (0 : Int32)) hin3 rfl (Sto.ofV Ar3 qq3 O1 (Ins.self (E_START.keep K1))) (g := (mkF m 10 #[.val (.int p1), .unset, .unset, .unset, .unset, .unset] [(.ref a_START), (.int (0 : Int32)), (.ref b1), (.ref b1)])) rfl rfl (hb hby at_10)
  have V4 : Arv Z h4 b1 k1 (.object "ebbtide/serve/History$Event") (10 : Int32) [(.ref a_START), .null, .null, .null, .null, .null, .null, .null, .null, .null] .null := Arv.set Ar3 qq3 Sz3 Ng3 Hs3 Gf3 rfl W4 0 rfl (Nat.le_of_ble_eq_true rfl)
  have K4 : Keep h0 h4 [] := K1.wr W4 (Or.inr sz_b1)
  have N4 := Fr.snoc X4 N0 gz_b1
  obtain ⟨T5, X5, e5, st5⟩ := getS2 X4 hx hZ hown (host := "") (Or.inl (hw _ (List.mem_of_getElem? (i := 6) rfl))) Via.refl e4 (own_sk S_READ K4) (g := (mkF m 13 #[.val (.int p1), .unset, .unset, .unset, .unset, .unset] [(.int (1 : Int32)), (.ref b1), (.ref b1)])) rfl (hb hby at_13)
  obtain ⟨cl6, Ar6, qq6, Sz6, Ng6, Hs6, Gf6⟩ := V4
  have hin6 : ¬ ((1 : Int32) < 0 ∨ cl6.slots.size ≤ ((1 : Int32)).toNatClampNeg) := inb_of Sz6 ⟨by decide, by decide⟩
  obtain ⟨T7, h7, X7, e7, W7, st7⟩ := stR X5 hx hZ e5 Ar6 (j := (1 : Int32)) hin6 rfl (Sto.ofV Ar6 qq6 O1 (Ins.self (E_READ.keep K4))) (g := (mkF m 16 #[.val (.int p1), .unset, .unset, .unset, .unset, .unset] [(.ref a_READ), (.int (1 : Int32)), (.ref b1), (.ref b1)])) rfl rfl (hb hby at_16)
  have V7 : Arv Z h7 b1 k1 (.object "ebbtide/serve/History$Event") (10 : Int32) [(.ref a_START), (.ref a_READ), .null, .null, .null, .null, .null, .null, .null, .null] .null := Arv.set Ar6 qq6 Sz6 Ng6 Hs6 Gf6 rfl W7 1 rfl (Nat.le_of_ble_eq_true rfl)
  have K7 : Keep h0 h7 [] := K4.wr W7 (Or.inr sz_b1)
  have N7 := Fr.snoc X7 N4 gz_b1
  obtain ⟨T8, X8, e8, st8⟩ := getS2 X7 hx hZ hown (host := "") (Or.inl (hw _ (List.mem_of_getElem? (i := 8) rfl))) Via.refl e7 (own_sk S_UNREAD K7) (g := (mkF m 19 #[.val (.int p1), .unset, .unset, .unset, .unset, .unset] [(.int (2 : Int32)), (.ref b1), (.ref b1)])) rfl (hb hby at_19)
  obtain ⟨cl9, Ar9, qq9, Sz9, Ng9, Hs9, Gf9⟩ := V7
  have hin9 : ¬ ((2 : Int32) < 0 ∨ cl9.slots.size ≤ ((2 : Int32)).toNatClampNeg) := inb_of Sz9 ⟨by decide, by decide⟩
  obtain ⟨T10, h10, X10, e10, W10, st10⟩ := stR X8 hx hZ e8 Ar9 (j := (2 : Int32)) hin9 rfl (Sto.ofV Ar9 qq9 O1 (Ins.self (E_UNREAD.keep K7))) (g := (mkF m 22 #[.val (.int p1), .unset, .unset, .unset, .unset, .unset] [(.ref a_UNREAD), (.int (2 : Int32)), (.ref b1), (.ref b1)])) rfl rfl (hb hby at_22)
  have V10 : Arv Z h10 b1 k1 (.object "ebbtide/serve/History$Event") (10 : Int32) [(.ref a_START), (.ref a_READ), (.ref a_UNREAD), .null, .null, .null, .null, .null, .null, .null] .null := Arv.set Ar9 qq9 Sz9 Ng9 Hs9 Gf9 rfl W10 2 rfl (Nat.le_of_ble_eq_true rfl)
  have K10 : Keep h0 h10 [] := K7.wr W10 (Or.inr sz_b1)
  have N10 := Fr.snoc X10 N7 gz_b1
  obtain ⟨T11, X11, e11, st11⟩ := getS2 X10 hx hZ hown (host := "") (Or.inl (hw _ (List.mem_of_getElem? (i := 10) rfl))) Via.refl e10 (own_sk S_POWER_ON K10) (g := (mkF m 25 #[.val (.int p1), .unset, .unset, .unset, .unset, .unset] [(.int (3 : Int32)), (.ref b1), (.ref b1)])) rfl (hb hby at_25)
  obtain ⟨cl12, Ar12, qq12, Sz12, Ng12, Hs12, Gf12⟩ := V10
  have hin12 : ¬ ((3 : Int32) < 0 ∨ cl12.slots.size ≤ ((3 : Int32)).toNatClampNeg) := inb_of Sz12 ⟨by decide, by decide⟩
  obtain ⟨T13, h13, X13, e13, W13, st13⟩ := stR X11 hx hZ e11 Ar12 (j := (3 : Int32)) hin12 rfl (Sto.ofV Ar12 qq12 O1 (Ins.self (E_POWER_ON.keep K10))) (g := (mkF m 28 #[.val (.int p1), .unset, .unset, .unset, .unset, .unset] [(.ref a_POWER_ON), (.int (3 : Int32)), (.ref b1), (.ref b1)])) rfl rfl (hb hby at_28)
  have V13 : Arv Z h13 b1 k1 (.object "ebbtide/serve/History$Event") (10 : Int32) [(.ref a_START), (.ref a_READ), (.ref a_UNREAD), (.ref a_POWER_ON), .null, .null, .null, .null, .null, .null] .null := Arv.set Ar12 qq12 Sz12 Ng12 Hs12 Gf12 rfl W13 3 rfl (Nat.le_of_ble_eq_true rfl)
  have K13 : Keep h0 h13 [] := K10.wr W13 (Or.inr sz_b1)
  have N13 := Fr.snoc X13 N10 gz_b1
  obtain ⟨T14, X14, e14, st14⟩ := getS2 X13 hx hZ hown (host := "") (Or.inl (hw _ (List.mem_of_getElem? (i := 12) rfl))) Via.refl e13 (own_sk S_POWER_OFF K13) (g := (mkF m 31 #[.val (.int p1), .unset, .unset, .unset, .unset, .unset] [(.int (4 : Int32)), (.ref b1), (.ref b1)])) rfl (hb hby at_31)
  obtain ⟨cl15, Ar15, qq15, Sz15, Ng15, Hs15, Gf15⟩ := V13
  have hin15 : ¬ ((4 : Int32) < 0 ∨ cl15.slots.size ≤ ((4 : Int32)).toNatClampNeg) := inb_of Sz15 ⟨by decide, by decide⟩
  obtain ⟨T16, h16, X16, e16, W16, st16⟩ := stR X14 hx hZ e14 Ar15 (j := (4 : Int32)) hin15 rfl (Sto.ofV Ar15 qq15 O1 (Ins.self (E_POWER_OFF.keep K13))) (g := (mkF m 34 #[.val (.int p1), .unset, .unset, .unset, .unset, .unset] [(.ref a_POWER_OFF), (.int (4 : Int32)), (.ref b1), (.ref b1)])) rfl rfl (hb hby at_34)
  have V16 : Arv Z h16 b1 k1 (.object "ebbtide/serve/History$Event") (10 : Int32) [(.ref a_START), (.ref a_READ), (.ref a_UNREAD), (.ref a_POWER_ON), (.ref a_POWER_OFF), .null, .null, .null, .null, .null] .null := Arv.set Ar15 qq15 Sz15 Ng15 Hs15 Gf15 rfl W16 4 rfl (Nat.le_of_ble_eq_true rfl)
  have K16 : Keep h0 h16 [] := K13.wr W16 (Or.inr sz_b1)
  have N16 := Fr.snoc X16 N13 gz_b1
  obtain ⟨T17, X17, e17, st17⟩ := getS2 X16 hx hZ hown (host := "") (Or.inl (hw _ (List.mem_of_getElem? (i := 14) rfl))) Via.refl e16 (own_sk S_HOLD_ON K16) (g := (mkF m 37 #[.val (.int p1), .unset, .unset, .unset, .unset, .unset] [(.int (5 : Int32)), (.ref b1), (.ref b1)])) rfl (hb hby at_37)
  obtain ⟨cl18, Ar18, qq18, Sz18, Ng18, Hs18, Gf18⟩ := V16
  have hin18 : ¬ ((5 : Int32) < 0 ∨ cl18.slots.size ≤ ((5 : Int32)).toNatClampNeg) := inb_of Sz18 ⟨by decide, by decide⟩
  obtain ⟨T19, h19, X19, e19, W19, st19⟩ := stR X17 hx hZ e17 Ar18 (j := (5 : Int32)) hin18 rfl (Sto.ofV Ar18 qq18 O1 (Ins.self (E_HOLD_ON.keep K16))) (g := (mkF m 40 #[.val (.int p1), .unset, .unset, .unset, .unset, .unset] [(.ref a_HOLD_ON), (.int (5 : Int32)), (.ref b1), (.ref b1)])) rfl rfl (hb hby at_40)
  have V19 : Arv Z h19 b1 k1 (.object "ebbtide/serve/History$Event") (10 : Int32) [(.ref a_START), (.ref a_READ), (.ref a_UNREAD), (.ref a_POWER_ON), (.ref a_POWER_OFF), (.ref a_HOLD_ON), .null, .null, .null, .null] .null := Arv.set Ar18 qq18 Sz18 Ng18 Hs18 Gf18 rfl W19 5 rfl (Nat.le_of_ble_eq_true rfl)
  have K19 : Keep h0 h19 [] := K16.wr W19 (Or.inr sz_b1)
  have N19 := Fr.snoc X19 N16 gz_b1
  obtain ⟨T20, X20, e20, st20⟩ := getS2 X19 hx hZ hown (host := "") (Or.inl (hw _ (List.mem_of_getElem? (i := 16) rfl))) Via.refl e19 (own_sk S_HOLD_OFF K19) (g := (mkF m 44 #[.val (.int p1), .unset, .unset, .unset, .unset, .unset] [(.int (6 : Int32)), (.ref b1), (.ref b1)])) rfl (hb hby at_44)
  obtain ⟨cl21, Ar21, qq21, Sz21, Ng21, Hs21, Gf21⟩ := V19
  have hin21 : ¬ ((6 : Int32) < 0 ∨ cl21.slots.size ≤ ((6 : Int32)).toNatClampNeg) := inb_of Sz21 ⟨by decide, by decide⟩
  obtain ⟨T22, h22, X22, e22, W22, st22⟩ := stR X20 hx hZ e20 Ar21 (j := (6 : Int32)) hin21 rfl (Sto.ofV Ar21 qq21 O1 (Ins.self (E_HOLD_OFF.keep K19))) (g := (mkF m 47 #[.val (.int p1), .unset, .unset, .unset, .unset, .unset] [(.ref a_HOLD_OFF), (.int (6 : Int32)), (.ref b1), (.ref b1)])) rfl rfl (hb hby at_47)
  have V22 : Arv Z h22 b1 k1 (.object "ebbtide/serve/History$Event") (10 : Int32) [(.ref a_START), (.ref a_READ), (.ref a_UNREAD), (.ref a_POWER_ON), (.ref a_POWER_OFF), (.ref a_HOLD_ON), (.ref a_HOLD_OFF), .null, .null, .null] .null := Arv.set Ar21 qq21 Sz21 Ng21 Hs21 Gf21 rfl W22 6 rfl (Nat.le_of_ble_eq_true rfl)
  have K22 : Keep h0 h22 [] := K19.wr W22 (Or.inr sz_b1)
  have N22 := Fr.snoc X22 N19 gz_b1
  obtain ⟨T23, X23, e23, st23⟩ := getS2 X22 hx hZ hown (host := "") (Or.inl (hw _ (List.mem_of_getElem? (i := 18) rfl))) Via.refl e22 (own_sk S_RELEASE K22) (g := (mkF m 51 #[.val (.int p1), .unset, .unset, .unset, .unset, .unset] [(.int (7 : Int32)), (.ref b1), (.ref b1)])) rfl (hb hby at_51)
  obtain ⟨cl24, Ar24, qq24, Sz24, Ng24, Hs24, Gf24⟩ := V22
  have hin24 : ¬ ((7 : Int32) < 0 ∨ cl24.slots.size ≤ ((7 : Int32)).toNatClampNeg) := inb_of Sz24 ⟨by decide, by decide⟩
  obtain ⟨T25, h25, X25, e25, W25, st25⟩ := stR X23 hx hZ e23 Ar24 (j := (7 : Int32)) hin24 rfl (Sto.ofV Ar24 qq24 O1 (Ins.self (E_RELEASE.keep K22))) (g := (mkF m 54 #[.val (.int p1), .unset, .unset, .unset, .unset, .unset] [(.ref a_RELEASE), (.int (7 : Int32)), (.ref b1), (.ref b1)])) rfl rfl (hb hby at_54)
  have V25 : Arv Z h25 b1 k1 (.object "ebbtide/serve/History$Event") (10 : Int32) [(.ref a_START), (.ref a_READ), (.ref a_UNREAD), (.ref a_POWER_ON), (.ref a_POWER_OFF), (.ref a_HOLD_ON), (.ref a_HOLD_OFF), (.ref a_RELEASE), .null, .null] .null := Arv.set Ar24 qq24 Sz24 Ng24 Hs24 Gf24 rfl W25 7 rfl (Nat.le_of_ble_eq_true rfl)
  have K25 : Keep h0 h25 [] := K22.wr W25 (Or.inr sz_b1)
  have N25 := Fr.snoc X25 N22 gz_b1
  obtain ⟨T26, X26, e26, st26⟩ := getS2 X25 hx hZ hown (host := "") (Or.inl (hw _ (List.mem_of_getElem? (i := 20) rfl))) Via.refl e25 (own_sk S_SPAN_START K25) (g := (mkF m 58 #[.val (.int p1), .unset, .unset, .unset, .unset, .unset] [(.int (8 : Int32)), (.ref b1), (.ref b1)])) rfl (hb hby at_58)
  obtain ⟨cl27, Ar27, qq27, Sz27, Ng27, Hs27, Gf27⟩ := V25
  have hin27 : ¬ ((8 : Int32) < 0 ∨ cl27.slots.size ≤ ((8 : Int32)).toNatClampNeg) := inb_of Sz27 ⟨by decide, by decide⟩
  obtain ⟨T28, h28, X28, e28, W28, st28⟩ := stR X26 hx hZ e26 Ar27 (j := (8 : Int32)) hin27 rfl (Sto.ofV Ar27 qq27 O1 (Ins.self (E_SPAN_START.keep K25))) (g := (mkF m 61 #[.val (.int p1), .unset, .unset, .unset, .unset, .unset] [(.ref a_SPAN_START), (.int (8 : Int32)), (.ref b1), (.ref b1)])) rfl rfl (hb hby at_61)
  have V28 : Arv Z h28 b1 k1 (.object "ebbtide/serve/History$Event") (10 : Int32) [(.ref a_START), (.ref a_READ), (.ref a_UNREAD), (.ref a_POWER_ON), (.ref a_POWER_OFF), (.ref a_HOLD_ON), (.ref a_HOLD_OFF), (.ref a_RELEASE), (.ref a_SPAN_START), .null] .null := Arv.set Ar27 qq27 Sz27 Ng27 Hs27 Gf27 rfl W28 8 rfl (Nat.le_of_ble_eq_true rfl)
  have K28 : Keep h0 h28 [] := K25.wr W28 (Or.inr sz_b1)
  have N28 := Fr.snoc X28 N25 gz_b1
  obtain ⟨T29, X29, e29, st29⟩ := getS2 X28 hx hZ hown (host := "") (Or.inl (hw _ (List.mem_of_getElem? (i := 22) rfl))) Via.refl e28 (own_sk S_SPAN_END K28) (g := (mkF m 65 #[.val (.int p1), .unset, .unset, .unset, .unset, .unset] [(.int (9 : Int32)), (.ref b1), (.ref b1)])) rfl (hb hby at_65)
  obtain ⟨cl30, Ar30, qq30, Sz30, Ng30, Hs30, Gf30⟩ := V28
  have hin30 : ¬ ((9 : Int32) < 0 ∨ cl30.slots.size ≤ ((9 : Int32)).toNatClampNeg) := inb_of Sz30 ⟨by decide, by decide⟩
  obtain ⟨T31, h31, X31, e31, W31, st31⟩ := stR X29 hx hZ e29 Ar30 (j := (9 : Int32)) hin30 rfl (Sto.ofV Ar30 qq30 O1 (Ins.self (E_SPAN_END.keep K28))) (g := (mkF m 68 #[.val (.int p1), .unset, .unset, .unset, .unset, .unset] [(.ref a_SPAN_END), (.int (9 : Int32)), (.ref b1), (.ref b1)])) rfl rfl (hb hby at_68)
  have V31 : Arv Z h31 b1 k1 (.object "ebbtide/serve/History$Event") (10 : Int32) [(.ref a_START), (.ref a_READ), (.ref a_UNREAD), (.ref a_POWER_ON), (.ref a_POWER_OFF), (.ref a_HOLD_ON), (.ref a_HOLD_OFF), (.ref a_RELEASE), (.ref a_SPAN_START), (.ref a_SPAN_END)] .null := Arv.set Ar30 qq30 Sz30 Ng30 Hs30 Gf30 rfl W31 9 rfl (Nat.le_of_ble_eq_true rfl)
  have K31 : Keep h0 h31 [] := K28.wr W31 (Or.inr sz_b1)
  have N31 := Fr.snoc X31 N28 gz_b1
  obtain ⟨cl32, Ar32, qq32, Sz32, Ng32, Hs32, Gf32⟩ := V31
  have hin32 : ¬ ((8 : Int32) < 0 ∨ cl32.slots.size ≤ ((8 : Int32)).toNatClampNeg) := inb_of Sz32 ⟨by decide, by decide⟩
  have hat32 : cl32.slots[((8 : Int32)).toNatClampNeg]? = some (.ref a_SPAN_START) := Hs32.at hin32 rfl
  obtain ⟨cq33, kq33, q33a, q33b, q33c⟩ := isOf hZ e31 (E_SPAN_START.keep K31)
  obtain ⟨_, _, ⟨T33, L33, k33, n33⟩, -, X33, ⟨Lc33, hQ33, l33, y33, z33⟩, st33⟩ := X31.virtualBack hx (y := (⟨"ebbtide/serve/History$Event", "holds", "()Z"⟩ : MethodName)) (z := (⟨"ebbtide/serve/History$Event", "holds", "()Z"⟩ : MethodName)) hown (mvT hZ (hw _ (List.mem_of_getElem? (i := 25) rfl))) (mvT hZ (hw _ (List.mem_of_getElem? (i := 26) rfl))) (notFace_of_selects (args := #[]) (mvT hZ (hw _ (List.mem_of_getElem? (i := 28) rfl)))) (mvT hZ (hw _ (List.mem_of_getElem? (i := 28) rfl))) (mvT hZ (hw _ (List.mem_of_getElem? (i := 27) rfl))) (by decide) (backOf (W := 0) (rm1_37 l Z a0 hw [] a_START a_READ a_UNREAD a_POWER_ON a_POWER_OFF a_HOLD_ON a_HOLD_OFF a_RELEASE a_SPAN_START a_SPAN_END a_ON a_OFF p1 h31 n0 (Nat.le_trans Z0 K31.1) (own_wk hS K31)) hZ (hw _ (List.mem_of_getElem? (i := 29) rfl)) (hw _ (List.mem_of_getElem? (i := 3) rfl)) (by decide) (by decide)) q33a q33c (g := (mkF m 81 #[.val (.int p1), .val (.ref b1), .val (.ref a_SPAN_START), .unset, .unset, .unset] [(.ref a_SPAN_START)])) rfl (by rw [hml]; rfl) (Steps.refl _) (argsL := []) (rest := []) (lenOf pd_0 rfl) rfl (by show 2 * 0 + _ ≤ _; exact Nat.le_of_eq rfl) (hb hby at_81) (fun _ _ => ⟨rfl, e31, (by decide : 1 + 0 ≤ _), (by decide : 10 + 0 ≤ _)⟩)
  dsimp only [Pt.U, Pt.locs, Pt.cells, Pt.slots] at X33 l33 y33 z33 st33 hQ33
  subst l33 y33 z33
  obtain ⟨rfl, N33q, e33⟩ := hQ33
  have N33 := Fr.app N31 N33q
  obtain ⟨cq34, kq34, q34a, q34b, q34c⟩ := isOf hZ e33 (E_SPAN_START.keep K31)
  obtain ⟨_, _, ⟨T34, L34, k34, n34⟩, -, X34, ⟨Lc34, hQ34, l34, y34, z34⟩, st34⟩ := X33.virtualBack hx (y := (⟨"ebbtide/serve/History$Event", "hold", "()Lebbtide/serve/Hold;"⟩ : MethodName)) (z := (⟨"ebbtide/serve/History$Event", "hold", "()Lebbtide/serve/Hold;"⟩ : MethodName)) hown (mvT hZ (hw _ (List.mem_of_getElem? (i := 33) rfl))) (mvT hZ (hw _ (List.mem_of_getElem? (i := 34) rfl))) (notFace_of_selects (args := #[]) (mvT hZ (hw _ (List.mem_of_getElem? (i := 36) rfl)))) (mvT hZ (hw _ (List.mem_of_getElem? (i := 36) rfl))) (mvT hZ (hw _ (List.mem_of_getElem? (i := 35) rfl))) (by decide) (backOf (W := 0) (rm2_38 l Z a0 hw [] a_START a_READ a_UNREAD a_POWER_ON a_POWER_OFF a_HOLD_ON a_HOLD_OFF a_RELEASE a_SPAN_START a_SPAN_END a_ON a_OFF p1 h31 n0 (Nat.le_trans Z0 K31.1) (own_wk hS K31)) hZ (hw _ (List.mem_of_getElem? (i := 37) rfl)) (hw _ (List.mem_of_getElem? (i := 3) rfl)) (by decide) (by decide)) q34a q34c (g := (mkF m 86 #[.val (.int p1), .val (.ref b1), .val (.ref a_SPAN_START), .val (.int (0 : Int32)), .unset, .unset] [(.ref a_SPAN_START)])) rfl (by rw [hml]; rfl) (Steps.refl _) (argsL := []) (rest := []) (lenOf pd_2 rfl) rfl (by show 2 * 0 + _ ≤ _; exact Nat.le_of_eq rfl) (hb hby at_86) (fun _ _ => ⟨rfl, e33, (by decide : 1 + 0 ≤ _), (by decide : 10 + 0 ≤ _)⟩)
  dsimp only [Pt.U, Pt.locs, Pt.cells, Pt.slots] at X34 l34 y34 z34 st34 hQ34
  subst l34 y34 z34
  obtain ⟨rfl, N34q, e34⟩ := hQ34
  have N34 := Fr.app N33 N34q
  obtain ⟨_, _, ⟨T35, L35, k35, n35⟩, -, X35, ⟨Lc35, hQ35, l35, y35, z35⟩, st35⟩ := Jvm.LawKit.callS X34 hx (y := (⟨"ebbtide/serve/History$Event", "of", "(Lebbtide/serve/Hold;)Lebbtide/serve/History$Event;"⟩ : MethodName)) hown (mvT hZ (hw _ (List.mem_of_getElem? (i := 47) rfl))) (mvT hZ (hw _ (List.mem_of_getElem? (i := 48) rfl))) (mvT hZ (hw _ (List.mem_of_getElem? (i := 3) rfl))) (mvT hZ (hw _ (List.mem_of_getElem? (i := 49) rfl))) (by decide) (backOf (W := 0) (rm4_5 l Z a0 hw [] a_START a_READ a_UNREAD a_POWER_ON a_POWER_OFF a_HOLD_ON a_HOLD_OFF a_RELEASE a_SPAN_START a_SPAN_END a_ON a_OFF p1 h31 n0 (Nat.le_trans Z0 K31.1) (own_wk hS K31)) hZ (hw _ (List.mem_of_getElem? (i := 49) rfl)) (hw _ (List.mem_of_getElem? (i := 3) rfl)) (by decide) (by decide)) (g := (mkF m 93 #[.val (.int p1), .val (.ref b1), .val (.ref a_SPAN_START), .val (.int (0 : Int32)), .val .null, .unset] [.null])) rfl (by rw [hml]; rfl) (argsL := [.null]) (rest := []) (lenOf pd_3 rfl) rfl (by show 2 * 0 + _ ≤ _; exact Nat.le_of_eq rfl) (hb hby at_93) (fun _ _ => ⟨rfl, e34, (by decide : 1 + 0 ≤ _), (by decide : 10 + 0 ≤ _)⟩)
  dsimp only [Pt.U, Pt.locs, Pt.cells, Pt.slots] at X35 l35 y35 z35 st35 hQ35
  subst l35 y35 z35
  obtain ⟨rfl, N35q, e35⟩ := hQ35
  have N35 := Fr.app N34 N35q
  obtain ⟨fs, hr, hrun, hended, hW, hsame⟩ := X35.leave (v := some (.int (1 : Int32))) (fun h => by rw [Bd.returns] at h; cases h)
  refine ⟨_, _, pre0 _ ?_, hrun, hended, _, _, rfl, ?_, ⟨_, rfl⟩, hW, hsame.mono (by decide) (by decide)⟩
  · show Steps p.tables e below (s₁.setTop (mkF m 0 #[.val (.int p1), .unset, .unset, .unset, .unset, .unset] [])) _
    refine XS.bipush X0.here hx rfl (hb hby at_0) ?_
    show Steps p.tables e below (s₁.setTop (mkF m 2 #[.val (.int p1), .unset, .unset, .unset, .unset, .unset] [(.int (10 : Int32))])) _
    refine st1 _ ?_
    show Steps p.tables e below (T1.setTop (mkF m 5 #[.val (.int p1), .unset, .unset, .unset, .unset, .unset] [(.ref b1)])) _
    refine XS.dup X1.here hx rfl (hb hby at_5) rfl rfl ?_
    show Steps p.tables e below (T1.setTop (mkF m 6 #[.val (.int p1), .unset, .unset, .unset, .unset, .unset] [(.ref b1), (.ref b1)])) _
    refine XS.iconst X1.here hx rfl (hb hby at_6) ?_
    show Steps p.tables e below (T1.setTop (mkF m 7 #[.val (.int p1), .unset, .unset, .unset, .unset, .unset] [(.int (0 : Int32)), (.ref b1), (.ref b1)])) _
    refine st2 _ ?_
    show Steps p.tables e below (T2.setTop (mkF m 10 #[.val (.int p1), .unset, .unset, .unset, .unset, .unset] [(.ref a_START), (.int (0 : Int32)), (.ref b1), (.ref b1)])) _
    refine st4 _ ?_
    show Steps p.tables e below (T4.setTop (mkF m 11 #[.val (.int p1), .unset, .unset, .unset, .unset, .unset] [(.ref b1)])) _
    refine XS.dup X4.here hx rfl (hb hby at_11) rfl rfl ?_
    show Steps p.tables e below (T4.setTop (mkF m 12 #[.val (.int p1), .unset, .unset, .unset, .unset, .unset] [(.ref b1), (.ref b1)])) _
    refine XS.iconst X4.here hx rfl (hb hby at_12) ?_
    show Steps p.tables e below (T4.setTop (mkF m 13 #[.val (.int p1), .unset, .unset, .unset, .unset, .unset] [(.int (1 : Int32)), (.ref b1), (.ref b1)])) _
    refine st5 _ ?_
    show Steps p.tables e below (T5.setTop (mkF m 16 #[.val (.int p1), .unset, .unset, .unset, .unset, .unset] [(.ref a_READ), (.int (1 : Int32)), (.ref b1), (.ref b1)])) _
    refine st7 _ ?_
    show Steps p.tables e below (T7.setTop (mkF m 17 #[.val (.int p1), .unset, .unset, .unset, .unset, .unset] [(.ref b1)])) _
    refine XS.dup X7.here hx rfl (hb hby at_17) rfl rfl ?_
    show Steps p.tables e below (T7.setTop (mkF m 18 #[.val (.int p1), .unset, .unset, .unset, .unset, .unset] [(.ref b1), (.ref b1)])) _
    refine XS.iconst X7.here hx rfl (hb hby at_18) ?_
    show Steps p.tables e below (T7.setTop (mkF m 19 #[.val (.int p1), .unset, .unset, .unset, .unset, .unset] [(.int (2 : Int32)), (.ref b1), (.ref b1)])) _
    refine st8 _ ?_
    show Steps p.tables e below (T8.setTop (mkF m 22 #[.val (.int p1), .unset, .unset, .unset, .unset, .unset] [(.ref a_UNREAD), (.int (2 : Int32)), (.ref b1), (.ref b1)])) _
    refine st10 _ ?_
    show Steps p.tables e below (T10.setTop (mkF m 23 #[.val (.int p1), .unset, .unset, .unset, .unset, .unset] [(.ref b1)])) _
    refine XS.dup X10.here hx rfl (hb hby at_23) rfl rfl ?_
    show Steps p.tables e below (T10.setTop (mkF m 24 #[.val (.int p1), .unset, .unset, .unset, .unset, .unset] [(.ref b1), (.ref b1)])) _
    refine XS.iconst X10.here hx rfl (hb hby at_24) ?_
    show Steps p.tables e below (T10.setTop (mkF m 25 #[.val (.int p1), .unset, .unset, .unset, .unset, .unset] [(.int (3 : Int32)), (.ref b1), (.ref b1)])) _
    refine st11 _ ?_
    show Steps p.tables e below (T11.setTop (mkF m 28 #[.val (.int p1), .unset, .unset, .unset, .unset, .unset] [(.ref a_POWER_ON), (.int (3 : Int32)), (.ref b1), (.ref b1)])) _
    refine st13 _ ?_
    show Steps p.tables e below (T13.setTop (mkF m 29 #[.val (.int p1), .unset, .unset, .unset, .unset, .unset] [(.ref b1)])) _
    refine XS.dup X13.here hx rfl (hb hby at_29) rfl rfl ?_
    show Steps p.tables e below (T13.setTop (mkF m 30 #[.val (.int p1), .unset, .unset, .unset, .unset, .unset] [(.ref b1), (.ref b1)])) _
    refine XS.iconst X13.here hx rfl (hb hby at_30) ?_
    show Steps p.tables e below (T13.setTop (mkF m 31 #[.val (.int p1), .unset, .unset, .unset, .unset, .unset] [(.int (4 : Int32)), (.ref b1), (.ref b1)])) _
    refine st14 _ ?_
    show Steps p.tables e below (T14.setTop (mkF m 34 #[.val (.int p1), .unset, .unset, .unset, .unset, .unset] [(.ref a_POWER_OFF), (.int (4 : Int32)), (.ref b1), (.ref b1)])) _
    refine st16 _ ?_
    show Steps p.tables e below (T16.setTop (mkF m 35 #[.val (.int p1), .unset, .unset, .unset, .unset, .unset] [(.ref b1)])) _
    refine XS.dup X16.here hx rfl (hb hby at_35) rfl rfl ?_
    show Steps p.tables e below (T16.setTop (mkF m 36 #[.val (.int p1), .unset, .unset, .unset, .unset, .unset] [(.ref b1), (.ref b1)])) _
    refine XS.iconst X16.here hx rfl (hb hby at_36) ?_
    show Steps p.tables e below (T16.setTop (mkF m 37 #[.val (.int p1), .unset, .unset, .unset, .unset, .unset] [(.int (5 : Int32)), (.ref b1), (.ref b1)])) _
    refine st17 _ ?_
    show Steps p.tables e below (T17.setTop (mkF m 40 #[.val (.int p1), .unset, .unset, .unset, .unset, .unset] [(.ref a_HOLD_ON), (.int (5 : Int32)), (.ref b1), (.ref b1)])) _
    refine st19 _ ?_
    show Steps p.tables e below (T19.setTop (mkF m 41 #[.val (.int p1), .unset, .unset, .unset, .unset, .unset] [(.ref b1)])) _
    refine XS.dup X19.here hx rfl (hb hby at_41) rfl rfl ?_
    show Steps p.tables e below (T19.setTop (mkF m 42 #[.val (.int p1), .unset, .unset, .unset, .unset, .unset] [(.ref b1), (.ref b1)])) _
    refine XS.bipush X19.here hx rfl (hb hby at_42) ?_
    show Steps p.tables e below (T19.setTop (mkF m 44 #[.val (.int p1), .unset, .unset, .unset, .unset, .unset] [(.int (6 : Int32)), (.ref b1), (.ref b1)])) _
    refine st20 _ ?_
    show Steps p.tables e below (T20.setTop (mkF m 47 #[.val (.int p1), .unset, .unset, .unset, .unset, .unset] [(.ref a_HOLD_OFF), (.int (6 : Int32)), (.ref b1), (.ref b1)])) _
    refine st22 _ ?_
    show Steps p.tables e below (T22.setTop (mkF m 48 #[.val (.int p1), .unset, .unset, .unset, .unset, .unset] [(.ref b1)])) _
    refine XS.dup X22.here hx rfl (hb hby at_48) rfl rfl ?_
    show Steps p.tables e below (T22.setTop (mkF m 49 #[.val (.int p1), .unset, .unset, .unset, .unset, .unset] [(.ref b1), (.ref b1)])) _
    refine XS.bipush X22.here hx rfl (hb hby at_49) ?_
    show Steps p.tables e below (T22.setTop (mkF m 51 #[.val (.int p1), .unset, .unset, .unset, .unset, .unset] [(.int (7 : Int32)), (.ref b1), (.ref b1)])) _
    refine st23 _ ?_
    show Steps p.tables e below (T23.setTop (mkF m 54 #[.val (.int p1), .unset, .unset, .unset, .unset, .unset] [(.ref a_RELEASE), (.int (7 : Int32)), (.ref b1), (.ref b1)])) _
    refine st25 _ ?_
    show Steps p.tables e below (T25.setTop (mkF m 55 #[.val (.int p1), .unset, .unset, .unset, .unset, .unset] [(.ref b1)])) _
    refine XS.dup X25.here hx rfl (hb hby at_55) rfl rfl ?_
    show Steps p.tables e below (T25.setTop (mkF m 56 #[.val (.int p1), .unset, .unset, .unset, .unset, .unset] [(.ref b1), (.ref b1)])) _
    refine XS.bipush X25.here hx rfl (hb hby at_56) ?_
    show Steps p.tables e below (T25.setTop (mkF m 58 #[.val (.int p1), .unset, .unset, .unset, .unset, .unset] [(.int (8 : Int32)), (.ref b1), (.ref b1)])) _
    refine st26 _ ?_
    show Steps p.tables e below (T26.setTop (mkF m 61 #[.val (.int p1), .unset, .unset, .unset, .unset, .unset] [(.ref a_SPAN_START), (.int (8 : Int32)), (.ref b1), (.ref b1)])) _
    refine st28 _ ?_
    show Steps p.tables e below (T28.setTop (mkF m 62 #[.val (.int p1), .unset, .unset, .unset, .unset, .unset] [(.ref b1)])) _
    refine XS.dup X28.here hx rfl (hb hby at_62) rfl rfl ?_
    show Steps p.tables e below (T28.setTop (mkF m 63 #[.val (.int p1), .unset, .unset, .unset, .unset, .unset] [(.ref b1), (.ref b1)])) _
    refine XS.bipush X28.here hx rfl (hb hby at_63) ?_
    show Steps p.tables e below (T28.setTop (mkF m 65 #[.val (.int p1), .unset, .unset, .unset, .unset, .unset] [(.int (9 : Int32)), (.ref b1), (.ref b1)])) _
    refine st29 _ ?_
    show Steps p.tables e below (T29.setTop (mkF m 68 #[.val (.int p1), .unset, .unset, .unset, .unset, .unset] [(.ref a_SPAN_END), (.int (9 : Int32)), (.ref b1), (.ref b1)])) _
    refine st31 _ ?_
    show Steps p.tables e below (T31.setTop (mkF m 69 #[.val (.int p1), .unset, .unset, .unset, .unset, .unset] [(.ref b1)])) _
    refine XS.astoreN X31.here hx rfl (hb hby at_69) rfl rfl (l' := #[.val (.int p1), .val (.ref b1), .unset, .unset, .unset, .unset]) rfl ?_
    show Steps p.tables e below (T31.setTop (mkF m 70 #[.val (.int p1), .val (.ref b1), .unset, .unset, .unset, .unset] [])) _
    refine XS.aloadN X31.here hx rfl (hb hby at_70) rfl rfl ?_
    show Steps p.tables e below (T31.setTop (mkF m 71 #[.val (.int p1), .val (.ref b1), .unset, .unset, .unset, .unset] [(.ref b1)])) _
    refine XS.iloadN X31.here hx rfl (hb hby at_71) rfl ?_
    show Steps p.tables e below (T31.setTop (mkF m 72 #[.val (.int p1), .val (.ref b1), .unset, .unset, .unset, .unset] [(.int p1), (.ref b1)])) _
    refine X31.ldcInt hx hown (mvT hZ (hw _ (List.mem_of_getElem? (i := 24) rfl))) (g := (mkF m 72 #[.val (.int p1), .val (.ref b1), .unset, .unset, .unset, .unset] [(.int p1), (.ref b1)])) rfl (hb hby at_72) _ ?_
    show Steps p.tables e below (T31.setTop (mkF m 74 #[.val (.int p1), .val (.ref b1), .unset, .unset, .unset, .unset] [(.int (2147483647 : Int32)), (.int p1), (.ref b1)])) _
    refine XS.iand X31.here hx rfl (hb hby at_74) rfl ?_
    show Steps p.tables e below (T31.setTop (mkF m 75 #[.val (.int p1), .val (.ref b1), .unset, .unset, .unset, .unset] [(.int (p1 &&& (2147483647 : Int32))), (.ref b1)])) _
    refine XS.bipush X31.here hx rfl (hb hby at_75) ?_
    show Steps p.tables e below (T31.setTop (mkF m 77 #[.val (.int p1), .val (.ref b1), .unset, .unset, .unset, .unset] [(.int (10 : Int32)), (.int (p1 &&& (2147483647 : Int32))), (.ref b1)])) _
    refine Jvm.RoadKit.iremM (g := (mkF m 77 #[.val (.int p1), .val (.ref b1), .unset, .unset, .unset, .unset] [(.int (10 : Int32)), (.int (p1 &&& (2147483647 : Int32))), (.ref b1)])) X31 hx rfl (hb hby at_77) rfl (by decide) ?_
    rw [hi]
    show Steps p.tables e below (T31.setTop (mkF m 78 #[.val (.int p1), .val (.ref b1), .unset, .unset, .unset, .unset] [(.int (8 : Int32)), (.ref b1)])) _
    refine X31.aaload hx (j := (8 : Int32)) (v := (.ref a_SPAN_START)) (by rw [e31]; exact Ar32.1) (State.isArrayOf_alike hZ.alike Ar32.2.1) rfl Ar32.2.2 hin32 hat32 (g := (mkF m 78 #[.val (.int p1), .val (.ref b1), .unset, .unset, .unset, .unset] [(.int (8 : Int32)), (.ref b1)])) rfl rfl (hb hby at_78) _ ?_
    show Steps p.tables e below (T31.setTop (mkF m 79 #[.val (.int p1), .val (.ref b1), .unset, .unset, .unset, .unset] [(.ref a_SPAN_START)])) _
    refine XS.astoreN X31.here hx rfl (hb hby at_79) rfl rfl (l' := #[.val (.int p1), .val (.ref b1), .val (.ref a_SPAN_START), .unset, .unset, .unset]) rfl ?_
    show Steps p.tables e below (T31.setTop (mkF m 80 #[.val (.int p1), .val (.ref b1), .val (.ref a_SPAN_START), .unset, .unset, .unset] [])) _
    refine XS.aloadN X31.here hx rfl (hb hby at_80) rfl rfl ?_
    show Steps p.tables e below (T31.setTop (mkF m 81 #[.val (.int p1), .val (.ref b1), .val (.ref a_SPAN_START), .unset, .unset, .unset] [(.ref a_SPAN_START)])) _
    refine st33.trans ?_
    show Steps p.tables e below (T33.setTop (mkF m 84 #[.val (.int p1), .val (.ref b1), .val (.ref a_SPAN_START), .unset, .unset, .unset] [(.int (0 : Int32))])) _
    refine XS.istoreN X33.here hx rfl (hb hby at_84) rfl (l' := #[.val (.int p1), .val (.ref b1), .val (.ref a_SPAN_START), .val (.int (0 : Int32)), .unset, .unset]) rfl ?_
    show Steps p.tables e below (T33.setTop (mkF m 85 #[.val (.int p1), .val (.ref b1), .val (.ref a_SPAN_START), .val (.int (0 : Int32)), .unset, .unset] [])) _
    refine XS.aloadN X33.here hx rfl (hb hby at_85) rfl rfl ?_
    show Steps p.tables e below (T33.setTop (mkF m 86 #[.val (.int p1), .val (.ref b1), .val (.ref a_SPAN_START), .val (.int (0 : Int32)), .unset, .unset] [(.ref a_SPAN_START)])) _
    refine st34.trans ?_
    show Steps p.tables e below (T34.setTop (mkF m 89 #[.val (.int p1), .val (.ref b1), .val (.ref a_SPAN_START), .val (.int (0 : Int32)), .unset, .unset] [.null])) _
    refine XS.astore X34.here hx rfl (hb hby at_89) rfl rfl (l' := #[.val (.int p1), .val (.ref b1), .val (.ref a_SPAN_START), .val (.int (0 : Int32)), .val .null, .unset]) rfl ?_
    show Steps p.tables e below (T34.setTop (mkF m 91 #[.val (.int p1), .val (.ref b1), .val (.ref a_SPAN_START), .val (.int (0 : Int32)), .val .null, .unset] [])) _
    refine XS.aload X34.here hx rfl (hb hby at_91) rfl rfl ?_
    show Steps p.tables e below (T34.setTop (mkF m 93 #[.val (.int p1), .val (.ref b1), .val (.ref a_SPAN_START), .val (.int (0 : Int32)), .val .null, .unset] [.null])) _
    refine st35 _ ?_
    show Steps p.tables e below (T35.setTop (mkF m 96 #[.val (.int p1), .val (.ref b1), .val (.ref a_SPAN_START), .val (.int (0 : Int32)), .val .null, .unset] [(.ref a_RELEASE)])) _
    refine XS.aloadN X35.here hx rfl (hb hby at_96) rfl rfl ?_
    show Steps p.tables e below (T35.setTop (mkF m 97 #[.val (.int p1), .val (.ref b1), .val (.ref a_SPAN_START), .val (.int (0 : Int32)), .val .null, .unset] [(.ref a_SPAN_START), (.ref a_RELEASE)])) _
    refine Jvm.RoadKit.acmp (g := (mkF m 97 #[.val (.int p1), .val (.ref b1), .val (.ref a_SPAN_START), .val (.int (0 : Int32)), .val .null, .unset] [(.ref a_SPAN_START), (.ref a_RELEASE)])) X35 hx rfl rfl rfl (pc0 := 97) (pc' := 104) (same := false) rfl (hb hby at_97) rfl (decide_eq_false fun q => (Fld.ne F_RELEASE_ordinal F_SPAN_START_ordinal (fun q => absurd (Value.int.inj q) (by decide))) (Value.ref.inj q)) (by decide) (by decide) ?_
    show Steps p.tables e below (T35.setTop (mkF m 104 #[.val (.int p1), .val (.ref b1), .val (.ref a_SPAN_START), .val (.int (0 : Int32)), .val .null, .unset] [])) _
    refine XS.iconst X35.here hx rfl (hb hby at_104) ?_
    show Steps p.tables e below (T35.setTop (mkF m 105 #[.val (.int p1), .val (.ref b1), .val (.ref a_SPAN_START), .val (.int (0 : Int32)), .val .null, .unset] [(.int (0 : Int32))])) _
    refine XS.istore X35.here hx rfl (hb hby at_105) rfl (l' := #[.val (.int p1), .val (.ref b1), .val (.ref a_SPAN_START), .val (.int (0 : Int32)), .val .null, .val (.int (0 : Int32))]) rfl ?_
    show Steps p.tables e below (T35.setTop (mkF m 107 #[.val (.int p1), .val (.ref b1), .val (.ref a_SPAN_START), .val (.int (0 : Int32)), .val .null, .val (.int (0 : Int32))] [])) _
    refine XS.iloadN X35.here hx rfl (hb hby at_107) rfl ?_
    show Steps p.tables e below (T35.setTop (mkF m 108 #[.val (.int p1), .val (.ref b1), .val (.ref a_SPAN_START), .val (.int (0 : Int32)), .val .null, .val (.int (0 : Int32))] [(.int (0 : Int32))])) _
    refine XS.iload X35.here hx rfl (hb hby at_108) rfl ?_
    show Steps p.tables e below (T35.setTop (mkF m 110 #[.val (.int p1), .val (.ref b1), .val (.ref a_SPAN_START), .val (.int (0 : Int32)), .val .null, .val (.int (0 : Int32))] [(.int (0 : Int32)), (.int (0 : Int32))])) _
    refine XS.icmpNo X35.here hx rfl (hb hby at_110) rfl (teq (by decide : (0 : Int32) = (0 : Int32))).2 ?_
    show Steps p.tables e below (T35.setTop (mkF m 113 #[.val (.int p1), .val (.ref b1), .val (.ref a_SPAN_START), .val (.int (0 : Int32)), .val .null, .val (.int (0 : Int32))] [])) _
    refine XS.iconst X35.here hx rfl (hb hby at_113) ?_
    show Steps p.tables e below (T35.setTop (mkF m 114 #[.val (.int p1), .val (.ref b1), .val (.ref a_SPAN_START), .val (.int (0 : Int32)), .val .null, .val (.int (0 : Int32))] [(.int (1 : Int32))])) _
    refine XS.goto X35.here hx rfl (pc0 := 114) (pc' := 118) rfl (hb hby at_114) (by decide) (by decide) ?_
    show Steps p.tables e below (T35.setTop (mkF m 118 #[.val (.int p1), .val (.ref b1), .val (.ref a_SPAN_START), .val (.int (0 : Int32)), .val .null, .val (.int (0 : Int32))] [(.int (1 : Int32))])) _
    exact retN X35 hx (t := .boolean) Bd.returns (by simp) (hb hby at_118) hr
  · exact ⟨rfl, N35⟩
set_option maxRecDepth 65536 in
set_option maxHeartbeats 40000000 in
theorem rm1_41 (l : Launch) (Z : State) (a0 : Array Value) (hw : ∀ d ∈ tables_1, d.before a0 Z = true) (ws : List Jvm.Cond) (a_START : Addr) (a_READ : Addr) (a_UNREAD : Addr) (a_POWER_ON : Addr) (a_POWER_OFF : Addr) (a_HOLD_ON : Addr) (a_HOLD_OFF : Addr) (a_RELEASE : Addr) (a_SPAN_START : Addr) (a_SPAN_END : Addr) (a_ON : Addr) (a_OFF : Addr) (p1 : Int32) (h0 : Heap) (n0 : Nat) (Z0 : n0 ≤ h0.size) (hS : Wd Z h0 a_START a_READ a_UNREAD a_POWER_ON a_POWER_OFF a_HOLD_ON a_HOLD_OFF a_RELEASE a_SPAN_START a_SPAN_END a_ON a_OFF) :
    MetFree l (⟨"ebbtide/serve/History$Event", "holds", "()Z"⟩ : MethodName) (head1 (Jvm.Cond.code (⟨"ebbtide/serve/History$Event", "holds", "()Z"⟩ : MethodName) prog_171_method_7_code 1 (some .boolean) :: ws) ({ frames := 0, cells := 0, slots := 0, locals := 0 } : Room)) (fun a U => a = #[(.ref a_SPAN_END)] ∧ Z.Warmed39 U.vm ∧ U.heap = h0) (fun _ _ _ _ _ => True) (fun _ U o U' => ∃ v L, o = .returned v ∧ QP (some (.int (0 : Int32))) h0 n0 v U'.heap L ∧ FrameEnd U o U' L ({ frames := 0, cells := 0, slots := 0, locals := 0 } : Room).cells ({ frames := 0, cells := 0, slots := 0, locals := 0 } : Room).slots) := by
  refine MetFree.of_bodySF (plainFor_of_name pn_ebbtide_serve_History_Event) hisR ?_
  intro p e s m args below meth c s₁ Bd hml0 hP hK
  obtain ⟨rfl, hZ, hh⟩ := hP
  have hx := Bd.exec
  have hby := Bd.bytes
  have hml : c.maxLocals = 1 := hml0
  have hown : s.vm.findClass "ebbtide/serve/History$Event" = some m.cls := findClass_of_methodNamed Bd.named
  have X0 : Stand p l e ({ frames := 0, cells := 0, slots := 0, locals := 0 } : Room) s m #[(.ref a_SPAN_END)] below meth c s₁ [] 0 0 := Stand.of_body Bd
  have e0 : s₁.heap = h0 := by rw [← hh, Bd.state]; rfl
  have N0 := Fr.nil n0
  have pre0 : ∀ t, Steps p.tables e below (s₁.setTop (mkF m 0 #[.val (.ref a_SPAN_END)] [])) t → Steps p.tables e below (s₁.setTop (entryFrame m #[(.ref a_SPAN_END)] 1)) t := fun t k => castTop (by first | (simp [entryFrame, mkF, argsToLocals, Value.category]; done) | rfl) k
  obtain ⟨S_START, E_START, S_READ, E_READ, S_UNREAD, E_UNREAD, S_POWER_ON, E_POWER_ON, S_POWER_OFF, E_POWER_OFF, S_HOLD_ON, E_HOLD_ON, S_HOLD_OFF, E_HOLD_OFF, S_RELEASE, E_RELEASE, S_SPAN_START, E_SPAN_START, S_SPAN_END, E_SPAN_END, S_ON, E_ON, S_OFF, E_OFF, F_START_ordinal, F_HOLD_ON_ordinal, F_HOLD_OFF_ordinal, F_RELEASE_ordinal, F_POWER_ON_ordinal, F_READ_ordinal, F_POWER_OFF_ordinal, F_UNREAD_ordinal, F_SPAN_START_ordinal, F_SPAN_END_ordinal, F_OFF_ordinal, F_ON_ordinal⟩ := id hS
  obtain ⟨T1, X1, e1, st1⟩ := getS2 X0 hx hZ hown (host := "") (Or.inl (hw _ (List.mem_of_getElem? (i := 30) rfl))) Via.refl e0 S_HOLD_ON (g := (mkF m 1 #[.val (.ref a_SPAN_END)] [(.ref a_SPAN_END)])) rfl (hb hby d1_1)
  obtain ⟨T2, X2, e2, st2⟩ := getS2 X1 hx hZ hown (host := "") (Or.inl (hw _ (List.mem_of_getElem? (i := 31) rfl))) Via.refl e1 S_HOLD_OFF (g := (mkF m 8 #[.val (.ref a_SPAN_END)] [(.ref a_SPAN_END)])) rfl (hb hby d1_8)
  obtain ⟨T3, X3, e3, st3⟩ := getS2 X2 hx hZ hown (host := "") (Or.inl (hw _ (List.mem_of_getElem? (i := 32) rfl))) Via.refl e2 S_RELEASE (g := (mkF m 15 #[.val (.ref a_SPAN_END)] [(.ref a_SPAN_END)])) rfl (hb hby d1_15)
  obtain ⟨fs, hr, hrun, hended, hW, hsame⟩ := X3.leave (v := some (.int (0 : Int32))) (fun h => by rw [Bd.returns] at h; cases h)
  refine ⟨_, _, pre0 _ ?_, hrun, hended, _, _, rfl, ?_, ⟨_, rfl⟩, hW, hsame.mono (by decide) (by decide)⟩
  · show Steps p.tables e below (s₁.setTop (mkF m 0 #[.val (.ref a_SPAN_END)] [])) _
    refine XS.aloadN X0.here hx rfl (hb hby d1_0) rfl rfl ?_
    show Steps p.tables e below (s₁.setTop (mkF m 1 #[.val (.ref a_SPAN_END)] [(.ref a_SPAN_END)])) _
    refine st1 _ ?_
    show Steps p.tables e below (T1.setTop (mkF m 4 #[.val (.ref a_SPAN_END)] [(.ref a_HOLD_ON), (.ref a_SPAN_END)])) _
    refine Jvm.RoadKit.acmp (g := (mkF m 4 #[.val (.ref a_SPAN_END)] [(.ref a_HOLD_ON), (.ref a_SPAN_END)])) X1 hx rfl rfl rfl (pc0 := 4) (pc' := 7) (same := false) rfl (hb hby d1_4) rfl (decide_eq_false fun q => (Fld.ne F_SPAN_END_ordinal F_HOLD_ON_ordinal (fun q => absurd (Value.int.inj q) (by decide))) (Value.ref.inj q)) (by decide) (by decide) ?_
    show Steps p.tables e below (T1.setTop (mkF m 7 #[.val (.ref a_SPAN_END)] [])) _
    refine XS.aloadN X1.here hx rfl (hb hby d1_7) rfl rfl ?_
    show Steps p.tables e below (T1.setTop (mkF m 8 #[.val (.ref a_SPAN_END)] [(.ref a_SPAN_END)])) _
    refine st2 _ ?_
    show Steps p.tables e below (T2.setTop (mkF m 11 #[.val (.ref a_SPAN_END)] [(.ref a_HOLD_OFF), (.ref a_SPAN_END)])) _
    refine Jvm.RoadKit.acmp (g := (mkF m 11 #[.val (.ref a_SPAN_END)] [(.ref a_HOLD_OFF), (.ref a_SPAN_END)])) X2 hx rfl rfl rfl (pc0 := 11) (pc' := 14) (same := false) rfl (hb hby d1_11) rfl (decide_eq_false fun q => (Fld.ne F_SPAN_END_ordinal F_HOLD_OFF_ordinal (fun q => absurd (Value.int.inj q) (by decide))) (Value.ref.inj q)) (by decide) (by decide) ?_
    show Steps p.tables e below (T2.setTop (mkF m 14 #[.val (.ref a_SPAN_END)] [])) _
    refine XS.aloadN X2.here hx rfl (hb hby d1_14) rfl rfl ?_
    show Steps p.tables e below (T2.setTop (mkF m 15 #[.val (.ref a_SPAN_END)] [(.ref a_SPAN_END)])) _
    refine st3 _ ?_
    show Steps p.tables e below (T3.setTop (mkF m 18 #[.val (.ref a_SPAN_END)] [(.ref a_RELEASE), (.ref a_SPAN_END)])) _
    refine Jvm.RoadKit.acmp (g := (mkF m 18 #[.val (.ref a_SPAN_END)] [(.ref a_RELEASE), (.ref a_SPAN_END)])) X3 hx rfl rfl rfl (pc0 := 18) (pc' := 25) (same := false) rfl (hb hby d1_18) rfl (decide_eq_false fun q => (Fld.ne F_SPAN_END_ordinal F_RELEASE_ordinal (fun q => absurd (Value.int.inj q) (by decide))) (Value.ref.inj q)) (by decide) (by decide) ?_
    show Steps p.tables e below (T3.setTop (mkF m 25 #[.val (.ref a_SPAN_END)] [])) _
    refine XS.iconst X3.here hx rfl (hb hby d1_25) ?_
    show Steps p.tables e below (T3.setTop (mkF m 26 #[.val (.ref a_SPAN_END)] [(.int (0 : Int32))])) _
    exact retN X3 hx (t := .boolean) Bd.returns (by simp) (hb hby d1_26) hr
  · exact ⟨rfl, N0, e3⟩
set_option maxRecDepth 65536 in
set_option maxHeartbeats 40000000 in
theorem rm3_43 (l : Launch) (Z : State) (a0 : Array Value) (hw : ∀ d ∈ tables_1, d.before a0 Z = true) (ws : List Jvm.Cond) (a_START : Addr) (a_READ : Addr) (a_UNREAD : Addr) (a_POWER_ON : Addr) (a_POWER_OFF : Addr) (a_HOLD_ON : Addr) (a_HOLD_OFF : Addr) (a_RELEASE : Addr) (a_SPAN_START : Addr) (a_SPAN_END : Addr) (a_ON : Addr) (a_OFF : Addr) (p1 : Int32) (h0 : Heap) (n0 : Nat) (Z0 : n0 ≤ h0.size) (hS : Wd Z h0 a_START a_READ a_UNREAD a_POWER_ON a_POWER_OFF a_HOLD_ON a_HOLD_OFF a_RELEASE a_SPAN_START a_SPAN_END a_ON a_OFF) :
    MetFree l (⟨"java/lang/Enum", "ordinal", "()I"⟩ : MethodName) (head1 (Jvm.Cond.code (⟨"java/lang/Enum", "ordinal", "()I"⟩ : MethodName) jdk_37_method_2_code 1 (some .int) :: ws) ({ frames := 0, cells := 0, slots := 0, locals := 0 } : Room)) (fun a U => a = #[(.ref a_SPAN_END)] ∧ Z.Warmed39 U.vm ∧ U.heap = h0) (fun _ _ _ _ _ => True) (fun _ U o U' => ∃ v L, o = .returned v ∧ QP (some (.int (9 : Int32))) h0 n0 v U'.heap L ∧ FrameEnd U o U' L ({ frames := 0, cells := 0, slots := 0, locals := 0 } : Room).cells ({ frames := 0, cells := 0, slots := 0, locals := 0 } : Room).slots) := by
  refine MetFree.of_bodySF (plainFor_of_name pn_java_lang_Enum) hisR ?_
  intro p e s m args below meth c s₁ Bd hml0 hP hK
  obtain ⟨rfl, hZ, hh⟩ := hP
  have hx := Bd.exec
  have hby := Bd.bytes
  have hml : c.maxLocals = 1 := hml0
  have hown : s.vm.findClass "java/lang/Enum" = some m.cls := findClass_of_methodNamed Bd.named
  have X0 : Stand p l e ({ frames := 0, cells := 0, slots := 0, locals := 0 } : Room) s m #[(.ref a_SPAN_END)] below meth c s₁ [] 0 0 := Stand.of_body Bd
  have e0 : s₁.heap = h0 := by rw [← hh, Bd.state]; rfl
  have N0 := Fr.nil n0
  have pre0 : ∀ t, Steps p.tables e below (s₁.setTop (mkF m 0 #[.val (.ref a_SPAN_END)] [])) t → Steps p.tables e below (s₁.setTop (entryFrame m #[(.ref a_SPAN_END)] 1)) t := fun t k => castTop (by first | (simp [entryFrame, mkF, argsToLocals, Value.category]; done) | rfl) k
  obtain ⟨S_START, E_START, S_READ, E_READ, S_UNREAD, E_UNREAD, S_POWER_ON, E_POWER_ON, S_POWER_OFF, E_POWER_OFF, S_HOLD_ON, E_HOLD_ON, S_HOLD_OFF, E_HOLD_OFF, S_RELEASE, E_RELEASE, S_SPAN_START, E_SPAN_START, S_SPAN_END, E_SPAN_END, S_ON, E_ON, S_OFF, E_OFF, F_START_ordinal, F_HOLD_ON_ordinal, F_HOLD_OFF_ordinal, F_RELEASE_ordinal, F_POWER_ON_ordinal, F_READ_ordinal, F_POWER_OFF_ordinal, F_UNREAD_ordinal, F_SPAN_START_ordinal, F_SPAN_END_ordinal, F_OFF_ordinal, F_ON_ordinal⟩ := id hS
  obtain ⟨T1, X1, e1, st1⟩ := getF X0 hx hZ hown (host := "") (Or.inl (hw _ (List.mem_of_getElem? (i := 45) rfl))) Via.refl e0 F_SPAN_END_ordinal (g := (mkF m 1 #[.val (.ref a_SPAN_END)] [(.ref a_SPAN_END)])) rfl rfl (hb hby d3_1)
  obtain ⟨fs, hr, hrun, hended, hW, hsame⟩ := X1.leave (v := some (.int (9 : Int32))) (fun h => by rw [Bd.returns] at h; cases h)
  refine ⟨_, _, pre0 _ ?_, hrun, hended, _, _, rfl, ?_, ⟨_, rfl⟩, hW, hsame.mono (by decide) (by decide)⟩
  · show Steps p.tables e below (s₁.setTop (mkF m 0 #[.val (.ref a_SPAN_END)] [])) _
    refine XS.aloadN X0.here hx rfl (hb hby d3_0) rfl rfl ?_
    show Steps p.tables e below (s₁.setTop (mkF m 1 #[.val (.ref a_SPAN_END)] [(.ref a_SPAN_END)])) _
    refine st1 _ ?_
    show Steps p.tables e below (T1.setTop (mkF m 4 #[.val (.ref a_SPAN_END)] [(.int (9 : Int32))])) _
    exact own_retI X1 hx Bd.returns (hb hby d3_4) hr
  · exact ⟨rfl, N0, e1⟩
set_option maxRecDepth 65536 in
set_option maxHeartbeats 40000000 in
theorem rm2_42 (l : Launch) (Z : State) (a0 : Array Value) (hw : ∀ d ∈ tables_1, d.before a0 Z = true) (ws : List Jvm.Cond) (a_START : Addr) (a_READ : Addr) (a_UNREAD : Addr) (a_POWER_ON : Addr) (a_POWER_OFF : Addr) (a_HOLD_ON : Addr) (a_HOLD_OFF : Addr) (a_RELEASE : Addr) (a_SPAN_START : Addr) (a_SPAN_END : Addr) (a_ON : Addr) (a_OFF : Addr) (p1 : Int32) (h0 : Heap) (n0 : Nat) (Z0 : n0 ≤ h0.size) (hS : Wd Z h0 a_START a_READ a_UNREAD a_POWER_ON a_POWER_OFF a_HOLD_ON a_HOLD_OFF a_RELEASE a_SPAN_START a_SPAN_END a_ON a_OFF) :
    MetFree l (⟨"ebbtide/serve/History$Event", "hold", "()Lebbtide/serve/Hold;"⟩ : MethodName) (head1 (Jvm.Cond.code (⟨"ebbtide/serve/History$Event", "hold", "()Lebbtide/serve/Hold;"⟩ : MethodName) prog_171_method_6_code 1 (some (.object "ebbtide/serve/Hold")) :: ws) ({ frames := 1, cells := 0, slots := 0, locals := 12 } : Room)) (fun a U => a = #[(.ref a_SPAN_END)] ∧ Z.Warmed39 U.vm ∧ U.heap = h0) (fun _ _ _ _ _ => True) (fun _ U o U' => ∃ v L, o = .returned v ∧ QP (some .null) h0 n0 v U'.heap L ∧ FrameEnd U o U' L ({ frames := 1, cells := 0, slots := 0, locals := 12 } : Room).cells ({ frames := 1, cells := 0, slots := 0, locals := 12 } : Room).slots) := by
  refine MetFree.of_bodySF (plainFor_of_name pn_ebbtide_serve_History_Event) hisR ?_
  intro p e s m args below meth c s₁ Bd hml0 hP hK
  obtain ⟨rfl, hZ, hh⟩ := hP
  have hx := Bd.exec
  have hby := Bd.bytes
  have hml : c.maxLocals = 1 := hml0
  have hown : s.vm.findClass "ebbtide/serve/History$Event" = some m.cls := findClass_of_methodNamed Bd.named
  have X0 : Stand p l e ({ frames := 1, cells := 0, slots := 0, locals := 12 } : Room) s m #[(.ref a_SPAN_END)] below meth c s₁ [] 0 0 := Stand.of_body Bd
  have e0 : s₁.heap = h0 := by rw [← hh, Bd.state]; rfl
  have N0 := Fr.nil n0
  have pre0 : ∀ t, Steps p.tables e below (s₁.setTop (mkF m 0 #[.val (.ref a_SPAN_END)] [])) t → Steps p.tables e below (s₁.setTop (entryFrame m #[(.ref a_SPAN_END)] 1)) t := fun t k => castTop (by first | (simp [entryFrame, mkF, argsToLocals, Value.category]; done) | rfl) k
  obtain ⟨S_START, E_START, S_READ, E_READ, S_UNREAD, E_UNREAD, S_POWER_ON, E_POWER_ON, S_POWER_OFF, E_POWER_OFF, S_HOLD_ON, E_HOLD_ON, S_HOLD_OFF, E_HOLD_OFF, S_RELEASE, E_RELEASE, S_SPAN_START, E_SPAN_START, S_SPAN_END, E_SPAN_END, S_ON, E_ON, S_OFF, E_OFF, F_START_ordinal, F_HOLD_ON_ordinal, F_HOLD_OFF_ordinal, F_RELEASE_ordinal, F_POWER_ON_ordinal, F_READ_ordinal, F_POWER_OFF_ordinal, F_UNREAD_ordinal, F_SPAN_START_ordinal, F_SPAN_END_ordinal, F_OFF_ordinal, F_ON_ordinal⟩ := id hS
  obtain ⟨cq1, kq1, q1a, q1b, q1c⟩ := isOf hZ e0 E_SPAN_END
  obtain ⟨_, _, ⟨T1, L1, k1, n1⟩, -, X1, ⟨Lc1, hQ1, l1, y1, z1⟩, st1⟩ := X0.virtualBackUp hx (owner := "java/lang/Enum") (x := (⟨"ebbtide/serve/History$Event", "ordinal", "()I"⟩ : MethodName)) (y := (⟨"java/lang/Enum", "ordinal", "()I"⟩ : MethodName)) hown (mvT hZ (hw _ (List.mem_of_getElem? (i := 38) rfl))) (mvT hZ (hw _ (List.mem_of_getElem? (i := 39) rfl))) (mvT hZ (hw _ (List.mem_of_getElem? (i := 40) rfl))) (by decide) (mvT hZ (hw _ (List.mem_of_getElem? (i := 42) rfl))) (mvT hZ (hw _ (List.mem_of_getElem? (i := 41) rfl))) (backOf (W := 0) (rm3_43 l Z a0 hw [] a_START a_READ a_UNREAD a_POWER_ON a_POWER_OFF a_HOLD_ON a_HOLD_OFF a_RELEASE a_SPAN_START a_SPAN_END a_ON a_OFF p1 h0 n0 Z0 hS) hZ (hw _ (List.mem_of_getElem? (i := 44) rfl)) (hw _ (List.mem_of_getElem? (i := 43) rfl)) (by decide) (by decide)) q1a q1c (g := (mkF m 1 #[.val (.ref a_SPAN_END)] [(.ref a_SPAN_END)])) rfl (by rw [hml]; rfl) (Steps.refl _) (argsL := []) (rest := []) (lenOf pd_1 rfl) rfl (by show 2 * 0 + _ ≤ _; exact Nat.le_of_eq rfl) (hb hby d2_1) (fun _ _ => ⟨rfl, e0, (by decide : 0 + 0 ≤ _), (by decide : 0 + 0 ≤ _)⟩)
  dsimp only [Pt.U, Pt.locs, Pt.cells, Pt.slots] at X1 l1 y1 z1 st1 hQ1
  subst l1 y1 z1
  obtain ⟨rfl, N1q, e1⟩ := hQ1
  have N1 := Fr.app N0 N1q
  obtain ⟨fs, hr, hrun, hended, hW, hsame⟩ := X1.leave (v := some .null) (fun h => by rw [Bd.returns] at h; cases h)
  refine ⟨_, _, pre0 _ ?_, hrun, hended, _, _, rfl, ?_, ⟨_, rfl⟩, hW, hsame.mono (by decide) (by decide)⟩
  · show Steps p.tables e below (s₁.setTop (mkF m 0 #[.val (.ref a_SPAN_END)] [])) _
    refine XS.aloadN X0.here hx rfl (hb hby d2_0) rfl rfl ?_
    show Steps p.tables e below (s₁.setTop (mkF m 1 #[.val (.ref a_SPAN_END)] [(.ref a_SPAN_END)])) _
    refine st1.trans ?_
    show Steps p.tables e below (T1.setTop (mkF m 4 #[.val (.ref a_SPAN_END)] [(.int (9 : Int32))])) _
    refine X1.lookupswitchMiss hx (g := (mkF m 4 #[.val (.ref a_SPAN_END)] [(.int (9 : Int32))])) rfl rfl (hb hby d2_4) (by decide) (by first | decide | rfl | (simp; done)) (by show (0 : Int) ≤ ((4 : Nat) : Int) + 40; decide) _ ?_
    show Steps p.tables e below (T1.setTop (mkF m 44 #[.val (.ref a_SPAN_END)] [])) _
    refine XS.aconstNull X1.here hx rfl (hb hby d2_44) ?_
    show Steps p.tables e below (T1.setTop (mkF m 45 #[.val (.ref a_SPAN_END)] [.null])) _
    exact own_retA X1 hx Bd.returns rfl rfl (hb hby d2_45) hr
  · exact ⟨rfl, N1, e1⟩
set_option maxRecDepth 65536 in
set_option maxHeartbeats 40000000 in
theorem rm0_40 (l : Launch) (Z : State) (a0 : Array Value) (hw : ∀ d ∈ tables_1, d.before a0 Z = true) (ws : List Jvm.Cond) (a_START : Addr) (a_READ : Addr) (a_UNREAD : Addr) (a_POWER_ON : Addr) (a_POWER_OFF : Addr) (a_HOLD_ON : Addr) (a_HOLD_OFF : Addr) (a_RELEASE : Addr) (a_SPAN_START : Addr) (a_SPAN_END : Addr) (a_ON : Addr) (a_OFF : Addr) (p1 : Int32) (h0 : Heap) (n0 : Nat) (Z0 : n0 ≤ h0.size) (hS : Wd Z h0 a_START a_READ a_UNREAD a_POWER_ON a_POWER_OFF a_HOLD_ON a_HOLD_OFF a_RELEASE a_SPAN_START a_SPAN_END a_ON a_OFF) (hi : ((p1 &&& (2147483647 : Int32)) % (10 : Int32)) = (9 : Int32)) :
    MetFree l x (head1 (Jvm.Cond.code x code maxLocals ret :: ws) room_1) (fun a U => a = #[(.int p1)] ∧ Z.Warmed39 U.vm ∧ U.heap = h0) (fun _ _ _ _ _ => True) (fun _ U o U' => ∃ v L, o = .returned v ∧ Q0 n0 v L ∧ FrameEnd U o U' L room_1.cells room_1.slots) := by
  refine MetFree.of_bodySF (plainFor_of_name pn_ebbtide_serve_HistoryHoldsPinLaw) hisR ?_
  intro p e s m args below meth c s₁ Bd hml0 hP hK
  obtain ⟨rfl, hZ, hh⟩ := hP
  have hx := Bd.exec
  have hby := Bd.bytes
  have hml : c.maxLocals = 6 := hml0
  have hown : s.vm.findClass "ebbtide/serve/HistoryHoldsPinLaw" = some m.cls := findClass_of_methodNamed Bd.named
  have X0 : Stand p l e room_1 s m #[(.int p1)] below meth c s₁ [] 0 0 := Stand.of_body Bd
  have e0 : s₁.heap = h0 := by rw [← hh, Bd.state]; rfl
  have N0 := Fr.nil n0
  have pre0 : ∀ t, Steps p.tables e below (s₁.setTop (mkF m 0 #[.val (.int p1), .unset, .unset, .unset, .unset, .unset] [])) t → Steps p.tables e below (s₁.setTop (entryFrame m #[(.int p1)] maxLocals)) t := fun t k => castTop (by first | (simp [entryFrame, mkF, argsToLocals, Value.category, maxLocals]; done) | rfl) k
  obtain ⟨S_START, E_START, S_READ, E_READ, S_UNREAD, E_UNREAD, S_POWER_ON, E_POWER_ON, S_POWER_OFF, E_POWER_OFF, S_HOLD_ON, E_HOLD_ON, S_HOLD_OFF, E_HOLD_OFF, S_RELEASE, E_RELEASE, S_SPAN_START, E_SPAN_START, S_SPAN_END, E_SPAN_END, S_ON, E_ON, S_OFF, E_OFF, F_START_ordinal, F_HOLD_ON_ordinal, F_HOLD_OFF_ordinal, F_RELEASE_ordinal, F_POWER_ON_ordinal, F_READ_ordinal, F_POWER_OFF_ordinal, F_UNREAD_ordinal, F_SPAN_START_ordinal, F_SPAN_END_ordinal, F_OFF_ordinal, F_ON_ordinal⟩ := id hS
  obtain ⟨T1, h1, k1, X1, e1, E1, A1, O1, st1⟩ := newR X0 hx hZ hown (hw _ (List.mem_of_getElem? (i := 0) rfl)) (hw _ (List.mem_of_getElem? (i := 1) rfl)) e0 (g := (mkF m 2 #[.val (.int p1), .unset, .unset, .unset, .unset, .unset] [(.int (10 : Int32))])) rfl (hb hby at_2) rfl (by decide) (cap := 10) (by decide) (by decide) (by decide) (by decide)
  obtain ⟨b1, g1⟩ : ∃ z, z = h0.size := ⟨_, rfl⟩
  rw [← g1] at A1 st1
  have V1 : Arv Z h1 b1 k1 (.object "ebbtide/serve/History$Event") (10 : Int32) [.null, .null, .null, .null, .null, .null, .null, .null, .null, .null] .null := (Arv.new A1 (by decide)).pad (pad_rep [] .null 10)
  have K1 : Keep h0 h1 [] := (Keep.refl h0 []).ext E1
  have sz_b1 : h0.size ≤ b1 := Nat.le_trans (Keep.refl h0 []).1 (Nat.le_of_eq g1.symm)
  have gz_b1 : n0 ≤ b1 := Nat.le_trans Z0 sz_b1
  obtain ⟨T2, X2, e2, st2⟩ := getS2 X1 hx hZ hown (host := "") (Or.inl (hw _ (List.mem_of_getElem? (i := 2) rfl))) Via.refl e1 (own_sk S_START K1) (g := (mkF m 7 #[.val (.int p1), .unset, .unset, .unset, .unset, .unset] [(.int (0 : Int32)), (.ref b1), (.ref b1)])) rfl (hb hby at_7)
  obtain ⟨cl3, Ar3, qq3, Sz3, Ng3, Hs3, Gf3⟩ := V1
  have hin3 : ¬ ((0 : Int32) < 0 ∨ cl3.slots.size ≤ ((0 : Int32)).toNatClampNeg) := inb_of Sz3 ⟨by decide, by decide⟩
  obtain ⟨T4, h4, X4, e4, W4, st4⟩ := stR X2 hx hZ e2 Ar3 (j := (0 : Int32)) hin3 rfl (Sto.ofV Ar3 qq3 O1 (Ins.self (E_START.keep K1))) (g := (mkF m 10 #[.val (.int p1), .unset, .unset, .unset, .unset, .unset] [(.ref a_START), (.int (0 : Int32)), (.ref b1), (.ref b1)])) rfl rfl (hb hby at_10)
  have V4 : Arv Z h4 b1 k1 (.object "ebbtide/serve/History$Event") (10 : Int32) [(.ref a_START), .null, .null, .null, .null, .null, .null, .null, .null, .null] .null := Arv.set Ar3 qq3 Sz3 Ng3 Hs3 Gf3 rfl W4 0 rfl (Nat.le_of_ble_eq_true rfl)
  have K4 : Keep h0 h4 [] := K1.wr W4 (Or.inr sz_b1)
  have N4 := Fr.snoc X4 N0 gz_b1
  obtain ⟨T5, X5, e5, st5⟩ := getS2 X4 hx hZ hown (host := "") (Or.inl (hw _ (List.mem_of_getElem? (i := 6) rfl))) Via.refl e4 (own_sk S_READ K4) (g := (mkF m 13 #[.val (.int p1), .unset, .unset, .unset, .unset, .unset] [(.int (1 : Int32)), (.ref b1), (.ref b1)])) rfl (hb hby at_13)
  obtain ⟨cl6, Ar6, qq6, Sz6, Ng6, Hs6, Gf6⟩ := V4
  have hin6 : ¬ ((1 : Int32) < 0 ∨ cl6.slots.size ≤ ((1 : Int32)).toNatClampNeg) := inb_of Sz6 ⟨by decide, by decide⟩
  obtain ⟨T7, h7, X7, e7, W7, st7⟩ := stR X5 hx hZ e5 Ar6 (j := (1 : Int32)) hin6 rfl (Sto.ofV Ar6 qq6 O1 (Ins.self (E_READ.keep K4))) (g := (mkF m 16 #[.val (.int p1), .unset, .unset, .unset, .unset, .unset] [(.ref a_READ), (.int (1 : Int32)), (.ref b1), (.ref b1)])) rfl rfl (hb hby at_16)
  have V7 : Arv Z h7 b1 k1 (.object "ebbtide/serve/History$Event") (10 : Int32) [(.ref a_START), (.ref a_READ), .null, .null, .null, .null, .null, .null, .null, .null] .null := Arv.set Ar6 qq6 Sz6 Ng6 Hs6 Gf6 rfl W7 1 rfl (Nat.le_of_ble_eq_true rfl)
  have K7 : Keep h0 h7 [] := K4.wr W7 (Or.inr sz_b1)
  have N7 := Fr.snoc X7 N4 gz_b1
  obtain ⟨T8, X8, e8, st8⟩ := getS2 X7 hx hZ hown (host := "") (Or.inl (hw _ (List.mem_of_getElem? (i := 8) rfl))) Via.refl e7 (own_sk S_UNREAD K7) (g := (mkF m 19 #[.val (.int p1), .unset, .unset, .unset, .unset, .unset] [(.int (2 : Int32)), (.ref b1), (.ref b1)])) rfl (hb hby at_19)
  obtain ⟨cl9, Ar9, qq9, Sz9, Ng9, Hs9, Gf9⟩ := V7
  have hin9 : ¬ ((2 : Int32) < 0 ∨ cl9.slots.size ≤ ((2 : Int32)).toNatClampNeg) := inb_of Sz9 ⟨by decide, by decide⟩
  obtain ⟨T10, h10, X10, e10, W10, st10⟩ := stR X8 hx hZ e8 Ar9 (j := (2 : Int32)) hin9 rfl (Sto.ofV Ar9 qq9 O1 (Ins.self (E_UNREAD.keep K7))) (g := (mkF m 22 #[.val (.int p1), .unset, .unset, .unset, .unset, .unset] [(.ref a_UNREAD), (.int (2 : Int32)), (.ref b1), (.ref b1)])) rfl rfl (hb hby at_22)
  have V10 : Arv Z h10 b1 k1 (.object "ebbtide/serve/History$Event") (10 : Int32) [(.ref a_START), (.ref a_READ), (.ref a_UNREAD), .null, .null, .null, .null, .null, .null, .null] .null := Arv.set Ar9 qq9 Sz9 Ng9 Hs9 Gf9 rfl W10 2 rfl (Nat.le_of_ble_eq_true rfl)
  have K10 : Keep h0 h10 [] := K7.wr W10 (Or.inr sz_b1)
  have N10 := Fr.snoc X10 N7 gz_b1
  obtain ⟨T11, X11, e11, st11⟩ := getS2 X10 hx hZ hown (host := "") (Or.inl (hw _ (List.mem_of_getElem? (i := 10) rfl))) Via.refl e10 (own_sk S_POWER_ON K10) (g := (mkF m 25 #[.val (.int p1), .unset, .unset, .unset, .unset, .unset] [(.int (3 : Int32)), (.ref b1), (.ref b1)])) rfl (hb hby at_25)
  obtain ⟨cl12, Ar12, qq12, Sz12, Ng12, Hs12, Gf12⟩ := V10
  have hin12 : ¬ ((3 : Int32) < 0 ∨ cl12.slots.size ≤ ((3 : Int32)).toNatClampNeg) := inb_of Sz12 ⟨by decide, by decide⟩
  obtain ⟨T13, h13, X13, e13, W13, st13⟩ := stR X11 hx hZ e11 Ar12 (j := (3 : Int32)) hin12 rfl (Sto.ofV Ar12 qq12 O1 (Ins.self (E_POWER_ON.keep K10))) (g := (mkF m 28 #[.val (.int p1), .unset, .unset, .unset, .unset, .unset] [(.ref a_POWER_ON), (.int (3 : Int32)), (.ref b1), (.ref b1)])) rfl rfl (hb hby at_28)
  have V13 : Arv Z h13 b1 k1 (.object "ebbtide/serve/History$Event") (10 : Int32) [(.ref a_START), (.ref a_READ), (.ref a_UNREAD), (.ref a_POWER_ON), .null, .null, .null, .null, .null, .null] .null := Arv.set Ar12 qq12 Sz12 Ng12 Hs12 Gf12 rfl W13 3 rfl (Nat.le_of_ble_eq_true rfl)
  have K13 : Keep h0 h13 [] := K10.wr W13 (Or.inr sz_b1)
  have N13 := Fr.snoc X13 N10 gz_b1
  obtain ⟨T14, X14, e14, st14⟩ := getS2 X13 hx hZ hown (host := "") (Or.inl (hw _ (List.mem_of_getElem? (i := 12) rfl))) Via.refl e13 (own_sk S_POWER_OFF K13) (g := (mkF m 31 #[.val (.int p1), .unset, .unset, .unset, .unset, .unset] [(.int (4 : Int32)), (.ref b1), (.ref b1)])) rfl (hb hby at_31)
  obtain ⟨cl15, Ar15, qq15, Sz15, Ng15, Hs15, Gf15⟩ := V13
  have hin15 : ¬ ((4 : Int32) < 0 ∨ cl15.slots.size ≤ ((4 : Int32)).toNatClampNeg) := inb_of Sz15 ⟨by decide, by decide⟩
  obtain ⟨T16, h16, X16, e16, W16, st16⟩ := stR X14 hx hZ e14 Ar15 (j := (4 : Int32)) hin15 rfl (Sto.ofV Ar15 qq15 O1 (Ins.self (E_POWER_OFF.keep K13))) (g := (mkF m 34 #[.val (.int p1), .unset, .unset, .unset, .unset, .unset] [(.ref a_POWER_OFF), (.int (4 : Int32)), (.ref b1), (.ref b1)])) rfl rfl (hb hby at_34)
  have V16 : Arv Z h16 b1 k1 (.object "ebbtide/serve/History$Event") (10 : Int32) [(.ref a_START), (.ref a_READ), (.ref a_UNREAD), (.ref a_POWER_ON), (.ref a_POWER_OFF), .null, .null, .null, .null, .null] .null := Arv.set Ar15 qq15 Sz15 Ng15 Hs15 Gf15 rfl W16 4 rfl (Nat.le_of_ble_eq_true rfl)
  have K16 : Keep h0 h16 [] := K13.wr W16 (Or.inr sz_b1)
  have N16 := Fr.snoc X16 N13 gz_b1
  obtain ⟨T17, X17, e17, st17⟩ := getS2 X16 hx hZ hown (host := "") (Or.inl (hw _ (List.mem_of_getElem? (i := 14) rfl))) Via.refl e16 (own_sk S_HOLD_ON K16) (g := (mkF m 37 #[.val (.int p1), .unset, .unset, .unset, .unset, .unset] [(.int (5 : Int32)), (.ref b1), (.ref b1)])) rfl (hb hby at_37)
  obtain ⟨cl18, Ar18, qq18, Sz18, Ng18, Hs18, Gf18⟩ := V16
  have hin18 : ¬ ((5 : Int32) < 0 ∨ cl18.slots.size ≤ ((5 : Int32)).toNatClampNeg) := inb_of Sz18 ⟨by decide, by decide⟩
  obtain ⟨T19, h19, X19, e19, W19, st19⟩ := stR X17 hx hZ e17 Ar18 (j := (5 : Int32)) hin18 rfl (Sto.ofV Ar18 qq18 O1 (Ins.self (E_HOLD_ON.keep K16))) (g := (mkF m 40 #[.val (.int p1), .unset, .unset, .unset, .unset, .unset] [(.ref a_HOLD_ON), (.int (5 : Int32)), (.ref b1), (.ref b1)])) rfl rfl (hb hby at_40)
  have V19 : Arv Z h19 b1 k1 (.object "ebbtide/serve/History$Event") (10 : Int32) [(.ref a_START), (.ref a_READ), (.ref a_UNREAD), (.ref a_POWER_ON), (.ref a_POWER_OFF), (.ref a_HOLD_ON), .null, .null, .null, .null] .null := Arv.set Ar18 qq18 Sz18 Ng18 Hs18 Gf18 rfl W19 5 rfl (Nat.le_of_ble_eq_true rfl)
  have K19 : Keep h0 h19 [] := K16.wr W19 (Or.inr sz_b1)
  have N19 := Fr.snoc X19 N16 gz_b1
  obtain ⟨T20, X20, e20, st20⟩ := getS2 X19 hx hZ hown (host := "") (Or.inl (hw _ (List.mem_of_getElem? (i := 16) rfl))) Via.refl e19 (own_sk S_HOLD_OFF K19) (g := (mkF m 44 #[.val (.int p1), .unset, .unset, .unset, .unset, .unset] [(.int (6 : Int32)), (.ref b1), (.ref b1)])) rfl (hb hby at_44)
  obtain ⟨cl21, Ar21, qq21, Sz21, Ng21, Hs21, Gf21⟩ := V19
  have hin21 : ¬ ((6 : Int32) < 0 ∨ cl21.slots.size ≤ ((6 : Int32)).toNatClampNeg) := inb_of Sz21 ⟨by decide, by decide⟩
  obtain ⟨T22, h22, X22, e22, W22, st22⟩ := stR X20 hx hZ e20 Ar21 (j := (6 : Int32)) hin21 rfl (Sto.ofV Ar21 qq21 O1 (Ins.self (E_HOLD_OFF.keep K19))) (g := (mkF m 47 #[.val (.int p1), .unset, .unset, .unset, .unset, .unset] [(.ref a_HOLD_OFF), (.int (6 : Int32)), (.ref b1), (.ref b1)])) rfl rfl (hb hby at_47)
  have V22 : Arv Z h22 b1 k1 (.object "ebbtide/serve/History$Event") (10 : Int32) [(.ref a_START), (.ref a_READ), (.ref a_UNREAD), (.ref a_POWER_ON), (.ref a_POWER_OFF), (.ref a_HOLD_ON), (.ref a_HOLD_OFF), .null, .null, .null] .null := Arv.set Ar21 qq21 Sz21 Ng21 Hs21 Gf21 rfl W22 6 rfl (Nat.le_of_ble_eq_true rfl)
  have K22 : Keep h0 h22 [] := K19.wr W22 (Or.inr sz_b1)
  have N22 := Fr.snoc X22 N19 gz_b1
  obtain ⟨T23, X23, e23, st23⟩ := getS2 X22 hx hZ hown (host := "") (Or.inl (hw _ (List.mem_of_getElem? (i := 18) rfl))) Via.refl e22 (own_sk S_RELEASE K22) (g := (mkF m 51 #[.val (.int p1), .unset, .unset, .unset, .unset, .unset] [(.int (7 : Int32)), (.ref b1), (.ref b1)])) rfl (hb hby at_51)
  obtain ⟨cl24, Ar24, qq24, Sz24, Ng24, Hs24, Gf24⟩ := V22
  have hin24 : ¬ ((7 : Int32) < 0 ∨ cl24.slots.size ≤ ((7 : Int32)).toNatClampNeg) := inb_of Sz24 ⟨by decide, by decide⟩
  obtain ⟨T25, h25, X25, e25, W25, st25⟩ := stR X23 hx hZ e23 Ar24 (j := (7 : Int32)) hin24 rfl (Sto.ofV Ar24 qq24 O1 (Ins.self (E_RELEASE.keep K22))) (g := (mkF m 54 #[.val (.int p1), .unset, .unset, .unset, .unset, .unset] [(.ref a_RELEASE), (.int (7 : Int32)), (.ref b1), (.ref b1)])) rfl rfl (hb hby at_54)
  have V25 : Arv Z h25 b1 k1 (.object "ebbtide/serve/History$Event") (10 : Int32) [(.ref a_START), (.ref a_READ), (.ref a_UNREAD), (.ref a_POWER_ON), (.ref a_POWER_OFF), (.ref a_HOLD_ON), (.ref a_HOLD_OFF), (.ref a_RELEASE), .null, .null] .null := Arv.set Ar24 qq24 Sz24 Ng24 Hs24 Gf24 rfl W25 7 rfl (Nat.le_of_ble_eq_true rfl)
  have K25 : Keep h0 h25 [] := K22.wr W25 (Or.inr sz_b1)
  have N25 := Fr.snoc X25 N22 gz_b1
  obtain ⟨T26, X26, e26, st26⟩ := getS2 X25 hx hZ hown (host := "") (Or.inl (hw _ (List.mem_of_getElem? (i := 20) rfl))) Via.refl e25 (own_sk S_SPAN_START K25) (g := (mkF m 58 #[.val (.int p1), .unset, .unset, .unset, .unset, .unset] [(.int (8 : Int32)), (.ref b1), (.ref b1)])) rfl (hb hby at_58)
  obtain ⟨cl27, Ar27, qq27, Sz27, Ng27, Hs27, Gf27⟩ := V25
  have hin27 : ¬ ((8 : Int32) < 0 ∨ cl27.slots.size ≤ ((8 : Int32)).toNatClampNeg) := inb_of Sz27 ⟨by decide, by decide⟩
  obtain ⟨T28, h28, X28, e28, W28, st28⟩ := stR X26 hx hZ e26 Ar27 (j := (8 : Int32)) hin27 rfl (Sto.ofV Ar27 qq27 O1 (Ins.self (E_SPAN_START.keep K25))) (g := (mkF m 61 #[.val (.int p1), .unset, .unset, .unset, .unset, .unset] [(.ref a_SPAN_START), (.int (8 : Int32)), (.ref b1), (.ref b1)])) rfl rfl (hb hby at_61)
  have V28 : Arv Z h28 b1 k1 (.object "ebbtide/serve/History$Event") (10 : Int32) [(.ref a_START), (.ref a_READ), (.ref a_UNREAD), (.ref a_POWER_ON), (.ref a_POWER_OFF), (.ref a_HOLD_ON), (.ref a_HOLD_OFF), (.ref a_RELEASE), (.ref a_SPAN_START), .null] .null := Arv.set Ar27 qq27 Sz27 Ng27 Hs27 Gf27 rfl W28 8 rfl (Nat.le_of_ble_eq_true rfl)
  have K28 : Keep h0 h28 [] := K25.wr W28 (Or.inr sz_b1)
  have N28 := Fr.snoc X28 N25 gz_b1
  obtain ⟨T29, X29, e29, st29⟩ := getS2 X28 hx hZ hown (host := "") (Or.inl (hw _ (List.mem_of_getElem? (i := 22) rfl))) Via.refl e28 (own_sk S_SPAN_END K28) (g := (mkF m 65 #[.val (.int p1), .unset, .unset, .unset, .unset, .unset] [(.int (9 : Int32)), (.ref b1), (.ref b1)])) rfl (hb hby at_65)
  obtain ⟨cl30, Ar30, qq30, Sz30, Ng30, Hs30, Gf30⟩ := V28
  have hin30 : ¬ ((9 : Int32) < 0 ∨ cl30.slots.size ≤ ((9 : Int32)).toNatClampNeg) := inb_of Sz30 ⟨by decide, by decide⟩
  obtain ⟨T31, h31, X31, e31, W31, st31⟩ := stR X29 hx hZ e29 Ar30 (j := (9 : Int32)) hin30 rfl (Sto.ofV Ar30 qq30 O1 (Ins.self (E_SPAN_END.keep K28))) (g := (mkF m 68 #[.val (.int p1), .unset, .unset, .unset, .unset, .unset] [(.ref a_SPAN_END), (.int (9 : Int32)), (.ref b1), (.ref b1)])) rfl rfl (hb hby at_68)
  have V31 : Arv Z h31 b1 k1 (.object "ebbtide/serve/History$Event") (10 : Int32) [(.ref a_START), (.ref a_READ), (.ref a_UNREAD), (.ref a_POWER_ON), (.ref a_POWER_OFF), (.ref a_HOLD_ON), (.ref a_HOLD_OFF), (.ref a_RELEASE), (.ref a_SPAN_START), (.ref a_SPAN_END)] .null := Arv.set Ar30 qq30 Sz30 Ng30 Hs30 Gf30 rfl W31 9 rfl (Nat.le_of_ble_eq_true rfl)
  have K31 : Keep h0 h31 [] := K28.wr W31 (Or.inr sz_b1)
  have N31 := Fr.snoc X31 N28 gz_b1
  obtain ⟨cl32, Ar32, qq32, Sz32, Ng32, Hs32, Gf32⟩ := V31
  have hin32 : ¬ ((9 : Int32) < 0 ∨ cl32.slots.size ≤ ((9 : Int32)).toNatClampNeg) := inb_of Sz32 ⟨by decide, by decide⟩
  have hat32 : cl32.slots[((9 : Int32)).toNatClampNeg]? = some (.ref a_SPAN_END) := Hs32.at hin32 rfl
  obtain ⟨cq33, kq33, q33a, q33b, q33c⟩ := isOf hZ e31 (E_SPAN_END.keep K31)
  obtain ⟨_, _, ⟨T33, L33, k33, n33⟩, -, X33, ⟨Lc33, hQ33, l33, y33, z33⟩, st33⟩ := X31.virtualBack hx (y := (⟨"ebbtide/serve/History$Event", "holds", "()Z"⟩ : MethodName)) (z := (⟨"ebbtide/serve/History$Event", "holds", "()Z"⟩ : MethodName)) hown (mvT hZ (hw _ (List.mem_of_getElem? (i := 25) rfl))) (mvT hZ (hw _ (List.mem_of_getElem? (i := 26) rfl))) (notFace_of_selects (args := #[]) (mvT hZ (hw _ (List.mem_of_getElem? (i := 28) rfl)))) (mvT hZ (hw _ (List.mem_of_getElem? (i := 28) rfl))) (mvT hZ (hw _ (List.mem_of_getElem? (i := 27) rfl))) (by decide) (backOf (W := 0) (rm1_41 l Z a0 hw [] a_START a_READ a_UNREAD a_POWER_ON a_POWER_OFF a_HOLD_ON a_HOLD_OFF a_RELEASE a_SPAN_START a_SPAN_END a_ON a_OFF p1 h31 n0 (Nat.le_trans Z0 K31.1) (own_wk hS K31)) hZ (hw _ (List.mem_of_getElem? (i := 29) rfl)) (hw _ (List.mem_of_getElem? (i := 3) rfl)) (by decide) (by decide)) q33a q33c (g := (mkF m 81 #[.val (.int p1), .val (.ref b1), .val (.ref a_SPAN_END), .unset, .unset, .unset] [(.ref a_SPAN_END)])) rfl (by rw [hml]; rfl) (Steps.refl _) (argsL := []) (rest := []) (lenOf pd_0 rfl) rfl (by show 2 * 0 + _ ≤ _; exact Nat.le_of_eq rfl) (hb hby at_81) (fun _ _ => ⟨rfl, e31, (by decide : 1 + 0 ≤ _), (by decide : 10 + 0 ≤ _)⟩)
  dsimp only [Pt.U, Pt.locs, Pt.cells, Pt.slots] at X33 l33 y33 z33 st33 hQ33
  subst l33 y33 z33
  obtain ⟨rfl, N33q, e33⟩ := hQ33
  have N33 := Fr.app N31 N33q
  obtain ⟨cq34, kq34, q34a, q34b, q34c⟩ := isOf hZ e33 (E_SPAN_END.keep K31)
  obtain ⟨_, _, ⟨T34, L34, k34, n34⟩, -, X34, ⟨Lc34, hQ34, l34, y34, z34⟩, st34⟩ := X33.virtualBack hx (y := (⟨"ebbtide/serve/History$Event", "hold", "()Lebbtide/serve/Hold;"⟩ : MethodName)) (z := (⟨"ebbtide/serve/History$Event", "hold", "()Lebbtide/serve/Hold;"⟩ : MethodName)) hown (mvT hZ (hw _ (List.mem_of_getElem? (i := 33) rfl))) (mvT hZ (hw _ (List.mem_of_getElem? (i := 34) rfl))) (notFace_of_selects (args := #[]) (mvT hZ (hw _ (List.mem_of_getElem? (i := 36) rfl)))) (mvT hZ (hw _ (List.mem_of_getElem? (i := 36) rfl))) (mvT hZ (hw _ (List.mem_of_getElem? (i := 35) rfl))) (by decide) (backOf (W := 0) (rm2_42 l Z a0 hw [] a_START a_READ a_UNREAD a_POWER_ON a_POWER_OFF a_HOLD_ON a_HOLD_OFF a_RELEASE a_SPAN_START a_SPAN_END a_ON a_OFF p1 h31 n0 (Nat.le_trans Z0 K31.1) (own_wk hS K31)) hZ (hw _ (List.mem_of_getElem? (i := 37) rfl)) (hw _ (List.mem_of_getElem? (i := 3) rfl)) (by decide) (by decide)) q34a q34c (g := (mkF m 86 #[.val (.int p1), .val (.ref b1), .val (.ref a_SPAN_END), .val (.int (0 : Int32)), .unset, .unset] [(.ref a_SPAN_END)])) rfl (by rw [hml]; rfl) (Steps.refl _) (argsL := []) (rest := []) (lenOf pd_2 rfl) rfl (by show 2 * 0 + _ ≤ _; exact Nat.le_of_eq rfl) (hb hby at_86) (fun _ _ => ⟨rfl, e33, (by decide : 1 + 0 ≤ _), (by decide : 10 + 0 ≤ _)⟩)
  dsimp only [Pt.U, Pt.locs, Pt.cells, Pt.slots] at X34 l34 y34 z34 st34 hQ34
  subst l34 y34 z34
  obtain ⟨rfl, N34q, e34⟩ := hQ34
  have N34 := Fr.app N33 N34q
  obtain ⟨_, _, ⟨T35, L35, k35, n35⟩, -, X35, ⟨Lc35, hQ35, l35, y35, z35⟩, st35⟩ := Jvm.LawKit.callS X34 hx (y := (⟨"ebbtide/serve/History$Event", "of", "(Lebbtide/serve/Hold;)Lebbtide/serve/History$Event;"⟩ : MethodName)) hown (mvT hZ (hw _ (List.mem_of_getElem? (i := 47) rfl))) (mvT hZ (hw _ (List.mem_of_getElem? (i := 48) rfl))) (mvT hZ (hw _ (List.mem_of_getElem? (i := 3) rfl))) (mvT hZ (hw _ (List.mem_of_getElem? (i := 49) rfl))) (by decide) (backOf (W := 0) (rm4_5 l Z a0 hw [] a_START a_READ a_UNREAD a_POWER_ON a_POWER_OFF a_HOLD_ON a_HOLD_OFF a_RELEASE a_SPAN_START a_SPAN_END a_ON a_OFF p1 h31 n0 (Nat.le_trans Z0 K31.1) (own_wk hS K31)) hZ (hw _ (List.mem_of_getElem? (i := 49) rfl)) (hw _ (List.mem_of_getElem? (i := 3) rfl)) (by decide) (by decide)) (g := (mkF m 93 #[.val (.int p1), .val (.ref b1), .val (.ref a_SPAN_END), .val (.int (0 : Int32)), .val .null, .unset] [.null])) rfl (by rw [hml]; rfl) (argsL := [.null]) (rest := []) (lenOf pd_3 rfl) rfl (by show 2 * 0 + _ ≤ _; exact Nat.le_of_eq rfl) (hb hby at_93) (fun _ _ => ⟨rfl, e34, (by decide : 1 + 0 ≤ _), (by decide : 10 + 0 ≤ _)⟩)
  dsimp only [Pt.U, Pt.locs, Pt.cells, Pt.slots] at X35 l35 y35 z35 st35 hQ35
  subst l35 y35 z35
  obtain ⟨rfl, N35q, e35⟩ := hQ35
  have N35 := Fr.app N34 N35q
  obtain ⟨fs, hr, hrun, hended, hW, hsame⟩ := X35.leave (v := some (.int (1 : Int32))) (fun h => by rw [Bd.returns] at h; cases h)
  refine ⟨_, _, pre0 _ ?_, hrun, hended, _, _, rfl, ?_, ⟨_, rfl⟩, hW, hsame.mono (by decide) (by decide)⟩
  · show Steps p.tables e below (s₁.setTop (mkF m 0 #[.val (.int p1), .unset, .unset, .unset, .unset, .unset] [])) _
    refine XS.bipush X0.here hx rfl (hb hby at_0) ?_
    show Steps p.tables e below (s₁.setTop (mkF m 2 #[.val (.int p1), .unset, .unset, .unset, .unset, .unset] [(.int (10 : Int32))])) _
    refine st1 _ ?_
    show Steps p.tables e below (T1.setTop (mkF m 5 #[.val (.int p1), .unset, .unset, .unset, .unset, .unset] [(.ref b1)])) _
    refine XS.dup X1.here hx rfl (hb hby at_5) rfl rfl ?_
    show Steps p.tables e below (T1.setTop (mkF m 6 #[.val (.int p1), .unset, .unset, .unset, .unset, .unset] [(.ref b1), (.ref b1)])) _
    refine XS.iconst X1.here hx rfl (hb hby at_6) ?_
    show Steps p.tables e below (T1.setTop (mkF m 7 #[.val (.int p1), .unset, .unset, .unset, .unset, .unset] [(.int (0 : Int32)), (.ref b1), (.ref b1)])) _
    refine st2 _ ?_
    show Steps p.tables e below (T2.setTop (mkF m 10 #[.val (.int p1), .unset, .unset, .unset, .unset, .unset] [(.ref a_START), (.int (0 : Int32)), (.ref b1), (.ref b1)])) _
    refine st4 _ ?_
    show Steps p.tables e below (T4.setTop (mkF m 11 #[.val (.int p1), .unset, .unset, .unset, .unset, .unset] [(.ref b1)])) _
    refine XS.dup X4.here hx rfl (hb hby at_11) rfl rfl ?_
    show Steps p.tables e below (T4.setTop (mkF m 12 #[.val (.int p1), .unset, .unset, .unset, .unset, .unset] [(.ref b1), (.ref b1)])) _
    refine XS.iconst X4.here hx rfl (hb hby at_12) ?_
    show Steps p.tables e below (T4.setTop (mkF m 13 #[.val (.int p1), .unset, .unset, .unset, .unset, .unset] [(.int (1 : Int32)), (.ref b1), (.ref b1)])) _
    refine st5 _ ?_
    show Steps p.tables e below (T5.setTop (mkF m 16 #[.val (.int p1), .unset, .unset, .unset, .unset, .unset] [(.ref a_READ), (.int (1 : Int32)), (.ref b1), (.ref b1)])) _
    refine st7 _ ?_
    show Steps p.tables e below (T7.setTop (mkF m 17 #[.val (.int p1), .unset, .unset, .unset, .unset, .unset] [(.ref b1)])) _
    refine XS.dup X7.here hx rfl (hb hby at_17) rfl rfl ?_
    show Steps p.tables e below (T7.setTop (mkF m 18 #[.val (.int p1), .unset, .unset, .unset, .unset, .unset] [(.ref b1), (.ref b1)])) _
    refine XS.iconst X7.here hx rfl (hb hby at_18) ?_
    show Steps p.tables e below (T7.setTop (mkF m 19 #[.val (.int p1), .unset, .unset, .unset, .unset, .unset] [(.int (2 : Int32)), (.ref b1), (.ref b1)])) _
    refine st8 _ ?_
    show Steps p.tables e below (T8.setTop (mkF m 22 #[.val (.int p1), .unset, .unset, .unset, .unset, .unset] [(.ref a_UNREAD), (.int (2 : Int32)), (.ref b1), (.ref b1)])) _
    refine st10 _ ?_
    show Steps p.tables e below (T10.setTop (mkF m 23 #[.val (.int p1), .unset, .unset, .unset, .unset, .unset] [(.ref b1)])) _
    refine XS.dup X10.here hx rfl (hb hby at_23) rfl rfl ?_
    show Steps p.tables e below (T10.setTop (mkF m 24 #[.val (.int p1), .unset, .unset, .unset, .unset, .unset] [(.ref b1), (.ref b1)])) _
    refine XS.iconst X10.here hx rfl (hb hby at_24) ?_
    show Steps p.tables e below (T10.setTop (mkF m 25 #[.val (.int p1), .unset, .unset, .unset, .unset, .unset] [(.int (3 : Int32)), (.ref b1), (.ref b1)])) _
    refine st11 _ ?_
    show Steps p.tables e below (T11.setTop (mkF m 28 #[.val (.int p1), .unset, .unset, .unset, .unset, .unset] [(.ref a_POWER_ON), (.int (3 : Int32)), (.ref b1), (.ref b1)])) _
    refine st13 _ ?_
    show Steps p.tables e below (T13.setTop (mkF m 29 #[.val (.int p1), .unset, .unset, .unset, .unset, .unset] [(.ref b1)])) _
    refine XS.dup X13.here hx rfl (hb hby at_29) rfl rfl ?_
    show Steps p.tables e below (T13.setTop (mkF m 30 #[.val (.int p1), .unset, .unset, .unset, .unset, .unset] [(.ref b1), (.ref b1)])) _
    refine XS.iconst X13.here hx rfl (hb hby at_30) ?_
    show Steps p.tables e below (T13.setTop (mkF m 31 #[.val (.int p1), .unset, .unset, .unset, .unset, .unset] [(.int (4 : Int32)), (.ref b1), (.ref b1)])) _
    refine st14 _ ?_
    show Steps p.tables e below (T14.setTop (mkF m 34 #[.val (.int p1), .unset, .unset, .unset, .unset, .unset] [(.ref a_POWER_OFF), (.int (4 : Int32)), (.ref b1), (.ref b1)])) _
    refine st16 _ ?_
    show Steps p.tables e below (T16.setTop (mkF m 35 #[.val (.int p1), .unset, .unset, .unset, .unset, .unset] [(.ref b1)])) _
    refine XS.dup X16.here hx rfl (hb hby at_35) rfl rfl ?_
    show Steps p.tables e below (T16.setTop (mkF m 36 #[.val (.int p1), .unset, .unset, .unset, .unset, .unset] [(.ref b1), (.ref b1)])) _
    refine XS.iconst X16.here hx rfl (hb hby at_36) ?_
    show Steps p.tables e below (T16.setTop (mkF m 37 #[.val (.int p1), .unset, .unset, .unset, .unset, .unset] [(.int (5 : Int32)), (.ref b1), (.ref b1)])) _
    refine st17 _ ?_
    show Steps p.tables e below (T17.setTop (mkF m 40 #[.val (.int p1), .unset, .unset, .unset, .unset, .unset] [(.ref a_HOLD_ON), (.int (5 : Int32)), (.ref b1), (.ref b1)])) _
    refine st19 _ ?_
    show Steps p.tables e below (T19.setTop (mkF m 41 #[.val (.int p1), .unset, .unset, .unset, .unset, .unset] [(.ref b1)])) _
    refine XS.dup X19.here hx rfl (hb hby at_41) rfl rfl ?_
    show Steps p.tables e below (T19.setTop (mkF m 42 #[.val (.int p1), .unset, .unset, .unset, .unset, .unset] [(.ref b1), (.ref b1)])) _
    refine XS.bipush X19.here hx rfl (hb hby at_42) ?_
    show Steps p.tables e below (T19.setTop (mkF m 44 #[.val (.int p1), .unset, .unset, .unset, .unset, .unset] [(.int (6 : Int32)), (.ref b1), (.ref b1)])) _
    refine st20 _ ?_
    show Steps p.tables e below (T20.setTop (mkF m 47 #[.val (.int p1), .unset, .unset, .unset, .unset, .unset] [(.ref a_HOLD_OFF), (.int (6 : Int32)), (.ref b1), (.ref b1)])) _
    refine st22 _ ?_
    show Steps p.tables e below (T22.setTop (mkF m 48 #[.val (.int p1), .unset, .unset, .unset, .unset, .unset] [(.ref b1)])) _
    refine XS.dup X22.here hx rfl (hb hby at_48) rfl rfl ?_
    show Steps p.tables e below (T22.setTop (mkF m 49 #[.val (.int p1), .unset, .unset, .unset, .unset, .unset] [(.ref b1), (.ref b1)])) _
    refine XS.bipush X22.here hx rfl (hb hby at_49) ?_
    show Steps p.tables e below (T22.setTop (mkF m 51 #[.val (.int p1), .unset, .unset, .unset, .unset, .unset] [(.int (7 : Int32)), (.ref b1), (.ref b1)])) _
    refine st23 _ ?_
    show Steps p.tables e below (T23.setTop (mkF m 54 #[.val (.int p1), .unset, .unset, .unset, .unset, .unset] [(.ref a_RELEASE), (.int (7 : Int32)), (.ref b1), (.ref b1)])) _
    refine st25 _ ?_
    show Steps p.tables e below (T25.setTop (mkF m 55 #[.val (.int p1), .unset, .unset, .unset, .unset, .unset] [(.ref b1)])) _
    refine XS.dup X25.here hx rfl (hb hby at_55) rfl rfl ?_
    show Steps p.tables e below (T25.setTop (mkF m 56 #[.val (.int p1), .unset, .unset, .unset, .unset, .unset] [(.ref b1), (.ref b1)])) _
    refine XS.bipush X25.here hx rfl (hb hby at_56) ?_
    show Steps p.tables e below (T25.setTop (mkF m 58 #[.val (.int p1), .unset, .unset, .unset, .unset, .unset] [(.int (8 : Int32)), (.ref b1), (.ref b1)])) _
    refine st26 _ ?_
    show Steps p.tables e below (T26.setTop (mkF m 61 #[.val (.int p1), .unset, .unset, .unset, .unset, .unset] [(.ref a_SPAN_START), (.int (8 : Int32)), (.ref b1), (.ref b1)])) _
    refine st28 _ ?_
    show Steps p.tables e below (T28.setTop (mkF m 62 #[.val (.int p1), .unset, .unset, .unset, .unset, .unset] [(.ref b1)])) _
    refine XS.dup X28.here hx rfl (hb hby at_62) rfl rfl ?_
    show Steps p.tables e below (T28.setTop (mkF m 63 #[.val (.int p1), .unset, .unset, .unset, .unset, .unset] [(.ref b1), (.ref b1)])) _
    refine XS.bipush X28.here hx rfl (hb hby at_63) ?_
    show Steps p.tables e below (T28.setTop (mkF m 65 #[.val (.int p1), .unset, .unset, .unset, .unset, .unset] [(.int (9 : Int32)), (.ref b1), (.ref b1)])) _
    refine st29 _ ?_
    show Steps p.tables e below (T29.setTop (mkF m 68 #[.val (.int p1), .unset, .unset, .unset, .unset, .unset] [(.ref a_SPAN_END), (.int (9 : Int32)), (.ref b1), (.ref b1)])) _
    refine st31 _ ?_
    show Steps p.tables e below (T31.setTop (mkF m 69 #[.val (.int p1), .unset, .unset, .unset, .unset, .unset] [(.ref b1)])) _
    refine XS.astoreN X31.here hx rfl (hb hby at_69) rfl rfl (l' := #[.val (.int p1), .val (.ref b1), .unset, .unset, .unset, .unset]) rfl ?_
    show Steps p.tables e below (T31.setTop (mkF m 70 #[.val (.int p1), .val (.ref b1), .unset, .unset, .unset, .unset] [])) _
    refine XS.aloadN X31.here hx rfl (hb hby at_70) rfl rfl ?_
    show Steps p.tables e below (T31.setTop (mkF m 71 #[.val (.int p1), .val (.ref b1), .unset, .unset, .unset, .unset] [(.ref b1)])) _
    refine XS.iloadN X31.here hx rfl (hb hby at_71) rfl ?_
    show Steps p.tables e below (T31.setTop (mkF m 72 #[.val (.int p1), .val (.ref b1), .unset, .unset, .unset, .unset] [(.int p1), (.ref b1)])) _
    refine X31.ldcInt hx hown (mvT hZ (hw _ (List.mem_of_getElem? (i := 24) rfl))) (g := (mkF m 72 #[.val (.int p1), .val (.ref b1), .unset, .unset, .unset, .unset] [(.int p1), (.ref b1)])) rfl (hb hby at_72) _ ?_
    show Steps p.tables e below (T31.setTop (mkF m 74 #[.val (.int p1), .val (.ref b1), .unset, .unset, .unset, .unset] [(.int (2147483647 : Int32)), (.int p1), (.ref b1)])) _
    refine XS.iand X31.here hx rfl (hb hby at_74) rfl ?_
    show Steps p.tables e below (T31.setTop (mkF m 75 #[.val (.int p1), .val (.ref b1), .unset, .unset, .unset, .unset] [(.int (p1 &&& (2147483647 : Int32))), (.ref b1)])) _
    refine XS.bipush X31.here hx rfl (hb hby at_75) ?_
    show Steps p.tables e below (T31.setTop (mkF m 77 #[.val (.int p1), .val (.ref b1), .unset, .unset, .unset, .unset] [(.int (10 : Int32)), (.int (p1 &&& (2147483647 : Int32))), (.ref b1)])) _
    refine Jvm.RoadKit.iremM (g := (mkF m 77 #[.val (.int p1), .val (.ref b1), .unset, .unset, .unset, .unset] [(.int (10 : Int32)), (.int (p1 &&& (2147483647 : Int32))), (.ref b1)])) X31 hx rfl (hb hby at_77) rfl (by decide) ?_
    rw [hi]
    show Steps p.tables e below (T31.setTop (mkF m 78 #[.val (.int p1), .val (.ref b1), .unset, .unset, .unset, .unset] [(.int (9 : Int32)), (.ref b1)])) _
    refine X31.aaload hx (j := (9 : Int32)) (v := (.ref a_SPAN_END)) (by rw [e31]; exact Ar32.1) (State.isArrayOf_alike hZ.alike Ar32.2.1) rfl Ar32.2.2 hin32 hat32 (g := (mkF m 78 #[.val (.int p1), .val (.ref b1), .unset, .unset, .unset, .unset] [(.int (9 : Int32)), (.ref b1)])) rfl rfl (hb hby at_78) _ ?_
    show Steps p.tables e below (T31.setTop (mkF m 79 #[.val (.int p1), .val (.ref b1), .unset, .unset, .unset, .unset] [(.ref a_SPAN_END)])) _
    refine XS.astoreN X31.here hx rfl (hb hby at_79) rfl rfl (l' := #[.val (.int p1), .val (.ref b1), .val (.ref a_SPAN_END), .unset, .unset, .unset]) rfl ?_
    show Steps p.tables e below (T31.setTop (mkF m 80 #[.val (.int p1), .val (.ref b1), .val (.ref a_SPAN_END), .unset, .unset, .unset] [])) _
    refine XS.aloadN X31.here hx rfl (hb hby at_80) rfl rfl ?_
    show Steps p.tables e below (T31.setTop (mkF m 81 #[.val (.int p1), .val (.ref b1), .val (.ref a_SPAN_END), .unset, .unset, .unset] [(.ref a_SPAN_END)])) _
    refine st33.trans ?_
    show Steps p.tables e below (T33.setTop (mkF m 84 #[.val (.int p1), .val (.ref b1), .val (.ref a_SPAN_END), .unset, .unset, .unset] [(.int (0 : Int32))])) _
    refine XS.istoreN X33.here hx rfl (hb hby at_84) rfl (l' := #[.val (.int p1), .val (.ref b1), .val (.ref a_SPAN_END), .val (.int (0 : Int32)), .unset, .unset]) rfl ?_
    show Steps p.tables e below (T33.setTop (mkF m 85 #[.val (.int p1), .val (.ref b1), .val (.ref a_SPAN_END), .val (.int (0 : Int32)), .unset, .unset] [])) _
    refine XS.aloadN X33.here hx rfl (hb hby at_85) rfl rfl ?_
    show Steps p.tables e below (T33.setTop (mkF m 86 #[.val (.int p1), .val (.ref b1), .val (.ref a_SPAN_END), .val (.int (0 : Int32)), .unset, .unset] [(.ref a_SPAN_END)])) _
    refine st34.trans ?_
    show Steps p.tables e below (T34.setTop (mkF m 89 #[.val (.int p1), .val (.ref b1), .val (.ref a_SPAN_END), .val (.int (0 : Int32)), .unset, .unset] [.null])) _
    refine XS.astore X34.here hx rfl (hb hby at_89) rfl rfl (l' := #[.val (.int p1), .val (.ref b1), .val (.ref a_SPAN_END), .val (.int (0 : Int32)), .val .null, .unset]) rfl ?_
    show Steps p.tables e below (T34.setTop (mkF m 91 #[.val (.int p1), .val (.ref b1), .val (.ref a_SPAN_END), .val (.int (0 : Int32)), .val .null, .unset] [])) _
    refine XS.aload X34.here hx rfl (hb hby at_91) rfl rfl ?_
    show Steps p.tables e below (T34.setTop (mkF m 93 #[.val (.int p1), .val (.ref b1), .val (.ref a_SPAN_END), .val (.int (0 : Int32)), .val .null, .unset] [.null])) _
    refine st35 _ ?_
    show Steps p.tables e below (T35.setTop (mkF m 96 #[.val (.int p1), .val (.ref b1), .val (.ref a_SPAN_END), .val (.int (0 : Int32)), .val .null, .unset] [(.ref a_RELEASE)])) _
    refine XS.aloadN X35.here hx rfl (hb hby at_96) rfl rfl ?_
    show Steps p.tables e below (T35.setTop (mkF m 97 #[.val (.int p1), .val (.ref b1), .val (.ref a_SPAN_END), .val (.int (0 : Int32)), .val .null, .unset] [(.ref a_SPAN_END), (.ref a_RELEASE)])) _
    refine Jvm.RoadKit.acmp (g := (mkF m 97 #[.val (.int p1), .val (.ref b1), .val (.ref a_SPAN_END), .val (.int (0 : Int32)), .val .null, .unset] [(.ref a_SPAN_END), (.ref a_RELEASE)])) X35 hx rfl rfl rfl (pc0 := 97) (pc' := 104) (same := false) rfl (hb hby at_97) rfl (decide_eq_false fun q => (Fld.ne F_RELEASE_ordinal F_SPAN_END_ordinal (fun q => absurd (Value.int.inj q) (by decide))) (Value.ref.inj q)) (by decide) (by decide) ?_
    show Steps p.tables e below (T35.setTop (mkF m 104 #[.val (.int p1), .val (.ref b1), .val (.ref a_SPAN_END), .val (.int (0 : Int32)), .val .null, .unset] [])) _
    refine XS.iconst X35.here hx rfl (hb hby at_104) ?_
    show Steps p.tables e below (T35.setTop (mkF m 105 #[.val (.int p1), .val (.ref b1), .val (.ref a_SPAN_END), .val (.int (0 : Int32)), .val .null, .unset] [(.int (0 : Int32))])) _
    refine XS.istore X35.here hx rfl (hb hby at_105) rfl (l' := #[.val (.int p1), .val (.ref b1), .val (.ref a_SPAN_END), .val (.int (0 : Int32)), .val .null, .val (.int (0 : Int32))]) rfl ?_
    show Steps p.tables e below (T35.setTop (mkF m 107 #[.val (.int p1), .val (.ref b1), .val (.ref a_SPAN_END), .val (.int (0 : Int32)), .val .null, .val (.int (0 : Int32))] [])) _
    refine XS.iloadN X35.here hx rfl (hb hby at_107) rfl ?_
    show Steps p.tables e below (T35.setTop (mkF m 108 #[.val (.int p1), .val (.ref b1), .val (.ref a_SPAN_END), .val (.int (0 : Int32)), .val .null, .val (.int (0 : Int32))] [(.int (0 : Int32))])) _
    refine XS.iload X35.here hx rfl (hb hby at_108) rfl ?_
    show Steps p.tables e below (T35.setTop (mkF m 110 #[.val (.int p1), .val (.ref b1), .val (.ref a_SPAN_END), .val (.int (0 : Int32)), .val .null, .val (.int (0 : Int32))] [(.int (0 : Int32)), (.int (0 : Int32))])) _
    refine XS.icmpNo X35.here hx rfl (hb hby at_110) rfl (teq (by decide : (0 : Int32) = (0 : Int32))).2 ?_
    show Steps p.tables e below (T35.setTop (mkF m 113 #[.val (.int p1), .val (.ref b1), .val (.ref a_SPAN_END), .val (.int (0 : Int32)), .val .null, .val (.int (0 : Int32))] [])) _
    refine XS.iconst X35.here hx rfl (hb hby at_113) ?_
    show Steps p.tables e below (T35.setTop (mkF m 114 #[.val (.int p1), .val (.ref b1), .val (.ref a_SPAN_END), .val (.int (0 : Int32)), .val .null, .val (.int (0 : Int32))] [(.int (1 : Int32))])) _
    refine XS.goto X35.here hx rfl (pc0 := 114) (pc' := 118) rfl (hb hby at_114) (by decide) (by decide) ?_
    show Steps p.tables e below (T35.setTop (mkF m 118 #[.val (.int p1), .val (.ref b1), .val (.ref a_SPAN_END), .val (.int (0 : Int32)), .val .null, .val (.int (0 : Int32))] [(.int (1 : Int32))])) _
    exact retN X35 hx (t := .boolean) Bd.returns (by simp) (hb hby at_118) hr
  · exact ⟨rfl, N35⟩
theorem own_split (p : Int32) : ((p &&& (2147483647 : Int32)) % (10 : Int32)) = 0 ∨ ((p &&& (2147483647 : Int32)) % (10 : Int32)) = 1 ∨ ((p &&& (2147483647 : Int32)) % (10 : Int32)) = 2 ∨ ((p &&& (2147483647 : Int32)) % (10 : Int32)) = 3 ∨ ((p &&& (2147483647 : Int32)) % (10 : Int32)) = 4 ∨ ((p &&& (2147483647 : Int32)) % (10 : Int32)) = 5 ∨ ((p &&& (2147483647 : Int32)) % (10 : Int32)) = 6 ∨ ((p &&& (2147483647 : Int32)) % (10 : Int32)) = 7 ∨ ((p &&& (2147483647 : Int32)) % (10 : Int32)) = 8 ∨ ((p &&& (2147483647 : Int32)) % (10 : Int32)) = 9 := by
  have e := Jvm.Kit.i32_mask p 2147483647 (k := 31) (by decide) (by decide)
  have e0 : (0 : Int32).toInt = 0 := rfl
  have e1 : (1 : Int32).toInt = 1 := rfl
  have e2 : (2 : Int32).toInt = 2 := rfl
  have e3 : (3 : Int32).toInt = 3 := rfl
  have e4 : (4 : Int32).toInt = 4 := rfl
  have e5 : (5 : Int32).toInt = 5 := rfl
  have e6 : (6 : Int32).toInt = 6 := rfl
  have e7 : (7 : Int32).toInt = 7 := rfl
  have e8 : (8 : Int32).toInt = 8 := rfl
  have e9 : (9 : Int32).toInt = 9 := rfl
  have e10 : (10 : Int32).toInt = 10 := rfl
  have f := Jvm.Kit.i32_rem_nonneg (x := p &&& 2147483647) (y := 10) (by omega)
  simp only [← Int32.toInt_inj, f, e0, e1, e2, e3, e4, e5, e6, e7, e8, e9, e10]
  omega
theorem rmAll (l : Launch) (Z : State) (a0 : Array Value) (hw : ∀ d ∈ tables_1, d.before a0 Z = true) (ws : List Jvm.Cond) (a_START : Addr) (a_READ : Addr) (a_UNREAD : Addr) (a_POWER_ON : Addr) (a_POWER_OFF : Addr) (a_HOLD_ON : Addr) (a_HOLD_OFF : Addr) (a_RELEASE : Addr) (a_SPAN_START : Addr) (a_SPAN_END : Addr) (a_ON : Addr) (a_OFF : Addr) (p1 : Int32) (h0 : Heap) (n0 : Nat) (Z0 : n0 ≤ h0.size) (hS : Wd Z h0 a_START a_READ a_UNREAD a_POWER_ON a_POWER_OFF a_HOLD_ON a_HOLD_OFF a_RELEASE a_SPAN_START a_SPAN_END a_ON a_OFF) :
    MetFree l x (head1 (Jvm.Cond.code x code maxLocals ret :: ws) room_1) (fun a U => a = #[(.int p1)] ∧ Z.Warmed39 U.vm ∧ U.heap = h0) (fun _ _ _ _ _ => True) (fun _ U o U' => ∃ v L, o = .returned v ∧ Q0 n0 v L ∧ FrameEnd U o U' L room_1.cells room_1.slots) := by
  rcases own_split p1 with hi | hi | hi | hi | hi | hi | hi | hi | hi | hi
  · exact rm0_1 l Z a0 hw ws a_START a_READ a_UNREAD a_POWER_ON a_POWER_OFF a_HOLD_ON a_HOLD_OFF a_RELEASE a_SPAN_START a_SPAN_END a_ON a_OFF p1 h0 n0 Z0 hS hi
  · exact rm0_6 l Z a0 hw ws a_START a_READ a_UNREAD a_POWER_ON a_POWER_OFF a_HOLD_ON a_HOLD_OFF a_RELEASE a_SPAN_START a_SPAN_END a_ON a_OFF p1 h0 n0 Z0 hS hi
  · exact rm0_10 l Z a0 hw ws a_START a_READ a_UNREAD a_POWER_ON a_POWER_OFF a_HOLD_ON a_HOLD_OFF a_RELEASE a_SPAN_START a_SPAN_END a_ON a_OFF p1 h0 n0 Z0 hS hi
  · exact rm0_14 l Z a0 hw ws a_START a_READ a_UNREAD a_POWER_ON a_POWER_OFF a_HOLD_ON a_HOLD_OFF a_RELEASE a_SPAN_START a_SPAN_END a_ON a_OFF p1 h0 n0 Z0 hS hi
  · exact rm0_18 l Z a0 hw ws a_START a_READ a_UNREAD a_POWER_ON a_POWER_OFF a_HOLD_ON a_HOLD_OFF a_RELEASE a_SPAN_START a_SPAN_END a_ON a_OFF p1 h0 n0 Z0 hS hi
  · exact rm0_22 l Z a0 hw ws a_START a_READ a_UNREAD a_POWER_ON a_POWER_OFF a_HOLD_ON a_HOLD_OFF a_RELEASE a_SPAN_START a_SPAN_END a_ON a_OFF p1 h0 n0 Z0 hS hi
  · exact rm0_27 l Z a0 hw ws a_START a_READ a_UNREAD a_POWER_ON a_POWER_OFF a_HOLD_ON a_HOLD_OFF a_RELEASE a_SPAN_START a_SPAN_END a_ON a_OFF p1 h0 n0 Z0 hS hi
  · exact rm0_32 l Z a0 hw ws a_START a_READ a_UNREAD a_POWER_ON a_POWER_OFF a_HOLD_ON a_HOLD_OFF a_RELEASE a_SPAN_START a_SPAN_END a_ON a_OFF p1 h0 n0 Z0 hS hi
  · exact rm0_36 l Z a0 hw ws a_START a_READ a_UNREAD a_POWER_ON a_POWER_OFF a_HOLD_ON a_HOLD_OFF a_RELEASE a_SPAN_START a_SPAN_END a_ON a_OFF p1 h0 n0 Z0 hS hi
  · exact rm0_40 l Z a0 hw ws a_START a_READ a_UNREAD a_POWER_ON a_POWER_OFF a_HOLD_ON a_HOLD_OFF a_RELEASE a_SPAN_START a_SPAN_END a_ON a_OFF p1 h0 n0 Z0 hS hi
set_option maxRecDepth 65536 in
set_option maxHeartbeats 40000000 in
theorem comes_1 {Post : Tables → Env → Array Value → State → Outcome → State → Prop} (hpost : ∀ tb e args s v u, (limb_1_1.after args s (.returned v) u = true ∧ limb_1_2.after args s (.returned v) u = true ∧ True) → FrameEnd s (.returned v) u (Jvm.fieldLocs frame_1_writes args s ++ Jvm.arrayLocs frame_1_arrays args s ++ Jvm.staticLocs frame_1_statics s) 16 128 → Post tb e args s (.returned v) u) :
    ArmFor flags0 classFile x code maxLocals ret World_1 tables_1 room_1 Calls_1 rest_1 Pre_1 Post := by
  intro l hfl _ _ p e ha hc hk s m args below hf hA hF happ hP
  obtain ⟨hcalls, hrest, hpre⟩ := hP
  obtain ⟨-, -, -, hnamed, -, -, -, hat⟩ := (Spec.applies_iff hf).mp happ
  obtain ⟨hg, hn⟩ := and_e (Cond.before_iff.mp (show (Jvm.Cond.and given_1 narrow_1).before args s = true from hpre))
  obtain ⟨hg0, hgr0⟩ := and_e hg
  obtain ⟨w0, rfl⟩ : ∃ w0 : Value, args = #[w0] := by
    have hs : args.size = 1 := by simpa [Cond.value, given_1] using hg0
    obtain ⟨L⟩ := args
    match L, hs with
    | [w0], _ => exact ⟨w0, rfl⟩
  have hw := fun d (hd : d ∈ tables_1) => atoms_spec (ws := Jvm.Cond.code x code maxLocals ret :: tables_1) hat d (List.mem_cons_of_mem _ hd)
  obtain ⟨i0, ei0⟩ := is_v hgr0
  obtain rfl : w0 = (.int i0) := Option.some.inj ei0
  obtain ⟨hn0, hr0⟩ := and_e hn
  obtain ⟨hn1, hr1⟩ := and_e hr0
  obtain ⟨hn2, hr2⟩ := and_e hr1
  obtain ⟨hn3, hr3⟩ := and_e hr2
  obtain ⟨hn4, hr4⟩ := and_e hr3
  obtain ⟨hn5, hr5⟩ := and_e hr4
  obtain ⟨hn6, hr6⟩ := and_e hr5
  obtain ⟨hn7, hr7⟩ := and_e hr6
  obtain ⟨hn8, hr8⟩ := and_e hr7
  obtain ⟨hn9, hr9⟩ := and_e hr8
  obtain ⟨hn10, hr10⟩ := and_e hr9
  obtain ⟨hn11, hr11⟩ := and_e hr10
  obtain ⟨hn12, hr12⟩ := and_e hr11
  obtain ⟨hn13, hr13⟩ := and_e hr12
  obtain ⟨hn14, hr14⟩ := and_e hr13
  obtain ⟨hn15, hr15⟩ := and_e hr14
  obtain ⟨hn16, hr16⟩ := and_e hr15
  obtain ⟨hn17, hr17⟩ := and_e hr16
  obtain ⟨hn18, hr18⟩ := and_e hr17
  obtain ⟨hn19, hr19⟩ := and_e hr18
  obtain ⟨hn20, hr20⟩ := and_e hr19
  obtain ⟨hn21, hr21⟩ := and_e hr20
  obtain ⟨hn22, hr22⟩ := and_e hr21
  obtain ⟨a_START, ev_START⟩ := exa_v hn0
  have S_START : Sta s s.heap "ebbtide/serve/History$Event" "START" "Lebbtide/serve/History$Event;" (.ref a_START) := Sta.start ev_START (Or.inr ⟨(hw _ (List.mem_of_getElem? (i := 3) rfl)), (hw _ (List.mem_of_getElem? (i := 4) rfl))⟩)
  have E_START : Exa s s.heap a_START "ebbtide/serve/History$Event" := Exa.start ev_START hn0
  obtain ⟨a_READ, ev_READ⟩ := exa_v hn1
  have S_READ : Sta s s.heap "ebbtide/serve/History$Event" "READ" "Lebbtide/serve/History$Event;" (.ref a_READ) := Sta.start ev_READ (Or.inr ⟨(hw _ (List.mem_of_getElem? (i := 3) rfl)), (hw _ (List.mem_of_getElem? (i := 7) rfl))⟩)
  have E_READ : Exa s s.heap a_READ "ebbtide/serve/History$Event" := Exa.start ev_READ hn1
  obtain ⟨a_UNREAD, ev_UNREAD⟩ := exa_v hn2
  have S_UNREAD : Sta s s.heap "ebbtide/serve/History$Event" "UNREAD" "Lebbtide/serve/History$Event;" (.ref a_UNREAD) := Sta.start ev_UNREAD (Or.inr ⟨(hw _ (List.mem_of_getElem? (i := 3) rfl)), (hw _ (List.mem_of_getElem? (i := 9) rfl))⟩)
  have E_UNREAD : Exa s s.heap a_UNREAD "ebbtide/serve/History$Event" := Exa.start ev_UNREAD hn2
  obtain ⟨a_POWER_ON, ev_POWER_ON⟩ := exa_v hn3
  have S_POWER_ON : Sta s s.heap "ebbtide/serve/History$Event" "POWER_ON" "Lebbtide/serve/History$Event;" (.ref a_POWER_ON) := Sta.start ev_POWER_ON (Or.inr ⟨(hw _ (List.mem_of_getElem? (i := 3) rfl)), (hw _ (List.mem_of_getElem? (i := 11) rfl))⟩)
  have E_POWER_ON : Exa s s.heap a_POWER_ON "ebbtide/serve/History$Event" := Exa.start ev_POWER_ON hn3
  obtain ⟨a_POWER_OFF, ev_POWER_OFF⟩ := exa_v hn4
  have S_POWER_OFF : Sta s s.heap "ebbtide/serve/History$Event" "POWER_OFF" "Lebbtide/serve/History$Event;" (.ref a_POWER_OFF) := Sta.start ev_POWER_OFF (Or.inr ⟨(hw _ (List.mem_of_getElem? (i := 3) rfl)), (hw _ (List.mem_of_getElem? (i := 13) rfl))⟩)
  have E_POWER_OFF : Exa s s.heap a_POWER_OFF "ebbtide/serve/History$Event" := Exa.start ev_POWER_OFF hn4
  obtain ⟨a_HOLD_ON, ev_HOLD_ON⟩ := exa_v hn5
  have S_HOLD_ON : Sta s s.heap "ebbtide/serve/History$Event" "HOLD_ON" "Lebbtide/serve/History$Event;" (.ref a_HOLD_ON) := Sta.start ev_HOLD_ON (Or.inr ⟨(hw _ (List.mem_of_getElem? (i := 3) rfl)), (hw _ (List.mem_of_getElem? (i := 15) rfl))⟩)
  have E_HOLD_ON : Exa s s.heap a_HOLD_ON "ebbtide/serve/History$Event" := Exa.start ev_HOLD_ON hn5
  obtain ⟨a_HOLD_OFF, ev_HOLD_OFF⟩ := exa_v hn6
  have S_HOLD_OFF : Sta s s.heap "ebbtide/serve/History$Event" "HOLD_OFF" "Lebbtide/serve/History$Event;" (.ref a_HOLD_OFF) := Sta.start ev_HOLD_OFF (Or.inr ⟨(hw _ (List.mem_of_getElem? (i := 3) rfl)), (hw _ (List.mem_of_getElem? (i := 17) rfl))⟩)
  have E_HOLD_OFF : Exa s s.heap a_HOLD_OFF "ebbtide/serve/History$Event" := Exa.start ev_HOLD_OFF hn6
  obtain ⟨a_RELEASE, ev_RELEASE⟩ := exa_v hn7
  have S_RELEASE : Sta s s.heap "ebbtide/serve/History$Event" "RELEASE" "Lebbtide/serve/History$Event;" (.ref a_RELEASE) := Sta.start ev_RELEASE (Or.inr ⟨(hw _ (List.mem_of_getElem? (i := 3) rfl)), (hw _ (List.mem_of_getElem? (i := 19) rfl))⟩)
  have E_RELEASE : Exa s s.heap a_RELEASE "ebbtide/serve/History$Event" := Exa.start ev_RELEASE hn7
  obtain ⟨a_SPAN_START, ev_SPAN_START⟩ := exa_v hn8
  have S_SPAN_START : Sta s s.heap "ebbtide/serve/History$Event" "SPAN_START" "Lebbtide/serve/History$Event;" (.ref a_SPAN_START) := Sta.start ev_SPAN_START (Or.inr ⟨(hw _ (List.mem_of_getElem? (i := 3) rfl)), (hw _ (List.mem_of_getElem? (i := 21) rfl))⟩)
  have E_SPAN_START : Exa s s.heap a_SPAN_START "ebbtide/serve/History$Event" := Exa.start ev_SPAN_START hn8
  obtain ⟨a_SPAN_END, ev_SPAN_END⟩ := exa_v hn9
  have S_SPAN_END : Sta s s.heap "ebbtide/serve/History$Event" "SPAN_END" "Lebbtide/serve/History$Event;" (.ref a_SPAN_END) := Sta.start ev_SPAN_END (Or.inr ⟨(hw _ (List.mem_of_getElem? (i := 3) rfl)), (hw _ (List.mem_of_getElem? (i := 23) rfl))⟩)
  have E_SPAN_END : Exa s s.heap a_SPAN_END "ebbtide/serve/History$Event" := Exa.start ev_SPAN_END hn9
  obtain ⟨a_ON, ev_ON⟩ := exa_v hn20
  have S_ON : Sta s s.heap "ebbtide/serve/Hold" "ON" "Lebbtide/serve/Hold;" (.ref a_ON) := Sta.start ev_ON (Or.inr ⟨(hw _ (List.mem_of_getElem? (i := 51) rfl)), (hw _ (List.mem_of_getElem? (i := 52) rfl))⟩)
  have E_ON : Exa s s.heap a_ON "ebbtide/serve/Hold" := Exa.start ev_ON hn20
  obtain ⟨a_OFF, ev_OFF⟩ := exa_v hn21
  have S_OFF : Sta s s.heap "ebbtide/serve/Hold" "OFF" "Lebbtide/serve/Hold;" (.ref a_OFF) := Sta.start ev_OFF (Or.inr ⟨(hw _ (List.mem_of_getElem? (i := 51) rfl)), (hw _ (List.mem_of_getElem? (i := 54) rfl))⟩)
  have E_OFF : Exa s s.heap a_OFF "ebbtide/serve/Hold" := Exa.start ev_OFF hn21
  have F_START_ordinal : Fld s s.heap a_START "java/lang/Enum" "ordinal" "I" (.int (0 : Int32)) := own_fldI ev_START hn10
  have F_HOLD_ON_ordinal : Fld s s.heap a_HOLD_ON "java/lang/Enum" "ordinal" "I" (.int (5 : Int32)) := own_fldI ev_HOLD_ON hn11
  have F_HOLD_OFF_ordinal : Fld s s.heap a_HOLD_OFF "java/lang/Enum" "ordinal" "I" (.int (6 : Int32)) := own_fldI ev_HOLD_OFF hn12
  have F_RELEASE_ordinal : Fld s s.heap a_RELEASE "java/lang/Enum" "ordinal" "I" (.int (7 : Int32)) := own_fldI ev_RELEASE hn13
  have F_POWER_ON_ordinal : Fld s s.heap a_POWER_ON "java/lang/Enum" "ordinal" "I" (.int (3 : Int32)) := own_fldI ev_POWER_ON hn14
  have F_READ_ordinal : Fld s s.heap a_READ "java/lang/Enum" "ordinal" "I" (.int (1 : Int32)) := own_fldI ev_READ hn15
  have F_POWER_OFF_ordinal : Fld s s.heap a_POWER_OFF "java/lang/Enum" "ordinal" "I" (.int (4 : Int32)) := own_fldI ev_POWER_OFF hn16
  have F_UNREAD_ordinal : Fld s s.heap a_UNREAD "java/lang/Enum" "ordinal" "I" (.int (2 : Int32)) := own_fldI ev_UNREAD hn17
  have F_SPAN_START_ordinal : Fld s s.heap a_SPAN_START "java/lang/Enum" "ordinal" "I" (.int (8 : Int32)) := own_fldI ev_SPAN_START hn18
  have F_SPAN_END_ordinal : Fld s s.heap a_SPAN_END "java/lang/Enum" "ordinal" "I" (.int (9 : Int32)) := own_fldI ev_SPAN_END hn19
  have F_OFF_ordinal : Fld s s.heap a_OFF "java/lang/Enum" "ordinal" "I" (.int (1 : Int32)) := own_fldI ev_OFF hn22
  have F_ON_ordinal : Fld s s.heap a_ON "java/lang/Enum" "ordinal" "I" (.int (0 : Int32)) := own_fldI ev_ON hr22
  have hS : Wd s s.heap a_START a_READ a_UNREAD a_POWER_ON a_POWER_OFF a_HOLD_ON a_HOLD_OFF a_RELEASE a_SPAN_START a_SPAN_END a_ON a_OFF := ⟨S_START, E_START, S_READ, E_READ, S_UNREAD, E_UNREAD, S_POWER_ON, E_POWER_ON, S_POWER_OFF, E_POWER_OFF, S_HOLD_ON, E_HOLD_ON, S_HOLD_OFF, E_HOLD_OFF, S_RELEASE, E_RELEASE, S_SPAN_START, E_SPAN_START, S_SPAN_END, E_SPAN_END, S_ON, E_ON, S_OFF, E_OFF, F_START_ordinal, F_HOLD_ON_ordinal, F_HOLD_OFF_ordinal, F_RELEASE_ordinal, F_POWER_ON_ordinal, F_READ_ordinal, F_POWER_OFF_ordinal, F_UNREAD_ordinal, F_SPAN_START_ordinal, F_SPAN_END_ordinal, F_OFF_ordinal, F_ON_ordinal⟩
  obtain ⟨n, o, h1, h2, h3, _, L, rfl, ⟨rfl, N⟩, hq⟩ := rmAll l s _ hw tables_1 a_START a_READ a_UNREAD a_POWER_ON a_POWER_OFF a_HOLD_ON a_HOLD_OFF a_RELEASE a_SPAN_START a_SPAN_END a_ON a_OFF i0 s.heap s.heap.size (Nat.le_refl _) hS p e ha hc hk s m _ below hf ((Spec.applies_iff_loose hf).mp happ).1 ⟨rfl, State.Warmed39.refl s, rfl⟩ trivial
  refine ⟨n, _, h1, h2, h3, hpost _ _ _ _ _ _ ⟨Cond.after_iff.mpr rfl, Cond.after_iff.mpr (eq_i res_at (Term.int_eval (1)) rfl), trivial⟩ ⟨hq.1, hq.2.1, (hq.2.2.sift fun y hy => Or.inr (N y hy)).mono (by decide) (by decide)⟩⟩
theorem main_1_1 : Claimed_1_1 := comes_1 fun _ _ _ _ _ _ h hF => ⟨h.1, hF⟩
theorem main_1_2 : Claimed_1_2 := comes_1 fun _ _ _ _ _ _ h hF => ⟨h.2.1, hF⟩
end Jvm.Pilot.@@N@@
namespace Jvm.Pilot.@@N@@
open Jvm Jvm.ClassFile Sem Op Lib Jvm.Free Jvm.Stand Jvm.Pilot.@@N@@.Jvm.D
/-! MADE BY PROGRAM (witnessworld.py) out of the Statement's table words and the real class files: 14 classes; the members and pool entries that the words name. The judged class is class 1, her method 1. -/
namespace start1
open Jvm.ClassFile
def u (s : String) : CpInfo := .utf8 (stringToUtf16 s)
/-- a pool by its gaps: so many unusable entries, then the entry; so many at the end -/
def gap : Nat → List CpInfo → List CpInfo
  | 0, r => r
  | n + 1, r => .unusable :: gap n r
def poolList (es : List (Nat × CpInfo)) (last : Nat) : List CpInfo := es.foldr (fun e r => gap e.1 (e.2 :: r)) (gap last [])
def pool (es : List (Nat × CpInfo)) (last : Nat) : Array CpInfo := ⟨poolList es last⟩
def fileOf (pool : Array CpInfo) (this : Nat) (attrs : Array Attribute := #[]) (ms : Array MethodInfo := #[]) (fl : Nat := 33) (sup : Nat := 0) (ifs : Array Nat := #[]) (fds : Array FieldInfo := #[]) : ClassFile where
  minorVersion := 0
  majorVersion := 65
  constantPool := pool
  accessFlags := fl
  thisClass := this
  superClass := sup
  interfaces := ifs
  fields := fds
  methods := ms
  attributes := attrs
def plain (name : String) (sup : Option ClassId) : Class where
  name := name
  kind := .ordinary
  loader := none
  accessFlags := 33
  super := sup
  interfaces := #[]
  cf := none
  fields := #[]
  methods := #[]
  instanceTypes := #[]
  staticTypes := #[]
  resolved := #[]
  callSites := []
  init := .initialized
  statics := none
  mirror := none

def pool0 : Array CpInfo := pool [(5, u "<init>"), (0, u "()V"), (1, .class_ 10), (1, u "java/lang/Object")] 113

def k0m0 : Method := { name := "<init>", desc := "()V", sig := { parameters := [], returnType := none }, accessFlags := 1, code := none }
/-- java/lang/Object -/
def k0 : Class := { plain "java/lang/Object" none with
  accessFlags := 33
  interfaces := #[]
  cf := some (fileOf pool0 8 #[] #[{ accessFlags := 1, nameIndex := 5, descriptorIndex := 6, attributes := #[] }] 33 0 #[] #[])
  fields := #[]
  methods := #[k0m0]
  instanceTypes := #[]
  staticTypes := #[]
  resolved := Array.replicate 124 none
  statics := none }

def pool1 : Array CpInfo := pool [(2, .class_ 4), (1, u "java/lang/Object"), (0, u "<init>"), (0, u "()V"), (0, .class_ 8), (0, u "ebbtide/serve/History$Event"), (0, .fieldref 7 10), (0, .nameAndType 11 12), (0, u "START"), (0, u "Lebbtide/serve/History$Event;"), (0, .fieldref 7 14), (0, .nameAndType 15 12), (0, u "READ"), (0, .fieldref 7 17), (0, .nameAndType 18 12), (0, u "UNREAD"), (0, .fieldref 7 20), (0, .nameAndType 21 12), (0, u "POWER_ON"), (0, .fieldref 7 23), (0, .nameAndType 24 12), (0, u "POWER_OFF"), (0, .fieldref 7 26), (0, .nameAndType 27 12), (0, u "HOLD_ON"), (0, .fieldref 7 29), (0, .nameAndType 30 12), (0, u "HOLD_OFF"), (0, .fieldref 7 32), (0, .nameAndType 33 12), (0, u "RELEASE"), (0, .fieldref 7 35), (0, .nameAndType 36 12), (0, u "SPAN_START"), (0, .fieldref 7 38), (0, .nameAndType 39 12), (0, u "SPAN_END"), (0, .integer 2147483647), (0, .methodref 7 42), (0, .nameAndType 43 44), (0, u "holds"), (0, u "()Z"), (0, .methodref 7 46), (0, .nameAndType 47 48), (0, u "hold"), (0, u "()Lebbtide/serve/Hold;"), (0, .methodref 7 50), (0, .nameAndType 51 52), (0, u "of"), (0, u "(Lebbtide/serve/Hold;)Lebbtide/serve/History$Event;"), (0, .class_ 54), (0, u "ebbtide/serve/HistoryHoldsPinLaw"), (2, u "law"), (0, u "(I)Z")] 11

def k1m0 : Method := { name := "<init>", desc := "()V", sig := { parameters := [], returnType := none }, accessFlags := 2, code := none }
def k1c1 : Code := { maxStack := 4, maxLocals := 6, code := code, exceptionTable := #[], attributes := #[] }
def k1m1 : Method := { name := "law", desc := "(I)Z", sig := { parameters := [.int], returnType := some .boolean }, accessFlags := 9, code := some k1c1 }
/-- ebbtide/serve/HistoryHoldsPinLaw -/
def k1 : Class := { plain "ebbtide/serve/HistoryHoldsPinLaw" (some 0) with
  accessFlags := 49
  interfaces := #[]
  cf := some (fileOf pool1 53 #[] #[{ accessFlags := 2, nameIndex := 5, descriptorIndex := 6, attributes := #[] }, { accessFlags := 9, nameIndex := 57, descriptorIndex := 58, attributes := #[] }] 49 2 #[] #[])
  fields := #[]
  methods := #[k1m0, k1m1]
  instanceTypes := #[]
  staticTypes := #[]
  resolved := Array.replicate 70 none
  statics := none }

def pool2 : Array CpInfo := pool [(1, .class_ 2), (0, u "java/lang/constant/Constable"), (0, .class_ 4), (0, u "java/lang/Object")] 6

/-- java/lang/constant/Constable -/
def k2 : Class := { plain "java/lang/constant/Constable" (some 0) with
  accessFlags := 1537
  interfaces := #[]
  cf := some (fileOf pool2 1 #[] #[] 1537 3 #[] #[])
  fields := #[]
  methods := #[]
  instanceTypes := #[]
  staticTypes := #[]
  resolved := Array.replicate 11 none
  statics := none }

def pool3 : Array CpInfo := pool [(1, .class_ 2), (0, u "java/lang/Comparable"), (0, .class_ 4), (0, u "java/lang/Object")] 7

/-- java/lang/Comparable -/
def k3 : Class := { plain "java/lang/Comparable" (some 0) with
  accessFlags := 1537
  interfaces := #[]
  cf := some (fileOf pool3 1 #[] #[] 1537 3 #[] #[])
  fields := #[]
  methods := #[]
  instanceTypes := #[]
  staticTypes := #[]
  resolved := Array.replicate 12 none
  statics := none }

def pool4 : Array CpInfo := pool [(1, .class_ 2), (0, u "java/io/Serializable"), (0, .class_ 4), (0, u "java/lang/Object")] 2

/-- java/io/Serializable -/
def k4 : Class := { plain "java/io/Serializable" (some 0) with
  accessFlags := 1537
  interfaces := #[]
  cf := some (fileOf pool4 1 #[] #[] 1537 3 #[] #[])
  fields := #[]
  methods := #[]
  instanceTypes := #[]
  staticTypes := #[]
  resolved := Array.replicate 7 none
  statics := none }

def pool5 : Array CpInfo := pool [(2, .class_ 4), (1, u "java/lang/Enum"), (0, u "name"), (0, u "Ljava/lang/String;"), (0, .fieldref 2 8), (0, .nameAndType 9 10), (0, u "ordinal"), (0, u "I"), (1, .class_ 14), (1, u "java/lang/Object"), (4, u "hash"), (86, .class_ 108), (1, u "java/lang/Enum$EnumDesc"), (2, .class_ 112), (0, u "java/lang/constant/Constable"), (0, .class_ 114), (0, u "java/lang/Comparable"), (0, .class_ 116), (0, u "java/io/Serializable"), (9, u "()I")] 77

def k5c0 : Code := { maxStack := 1, maxLocals := 1, code := jdk_37_method_2_code, exceptionTable := #[], attributes := #[] }
def k5m0 : Method := { name := "ordinal", desc := "()I", sig := { parameters := [], returnType := some .int }, accessFlags := 17, code := some k5c0 }
/-- java/lang/Enum -/
def k5 : Class := { plain "java/lang/Enum" (some 0) with
  accessFlags := 1057
  interfaces := #[2, 3, 4]
  cf := some (fileOf pool5 2 #[.nestMembers #[106]] #[{ accessFlags := 17, nameIndex := 9, descriptorIndex := 126, attributes := #[] }] 1057 12 #[111, 113, 115] #[{ accessFlags := 18, nameIndex := 5, descriptorIndex := 6, attributes := #[] }, { accessFlags := 18, nameIndex := 9, descriptorIndex := 10, attributes := #[] }, { accessFlags := 2, nameIndex := 19, descriptorIndex := 10, attributes := #[] }])
  fields := #[{ name := "name", type := (.object "java/lang/String"), accessFlags := 18, slot := 0, constantValue := 0 }, { name := "ordinal", type := .int, accessFlags := 18, slot := 1, constantValue := 0 }, { name := "hash", type := .int, accessFlags := 2, slot := 2, constantValue := 0 }]
  methods := #[k5m0]
  instanceTypes := #[(.object "java/lang/String"), .int, .int]
  staticTypes := #[]
  resolved := Array.replicate 204 none
  statics := none }

def pool6 : Array CpInfo := pool [(1, .class_ 2), (0, u "ebbtide/serve/History$Event"), (2, u "START"), (0, u "Lebbtide/serve/History$Event;"), (2, u "READ"), (2, u "UNREAD"), (2, u "POWER_ON"), (2, u "POWER_OFF"), (0, .fieldref 1 20), (0, .nameAndType 21 6), (0, u "HOLD_ON"), (0, .fieldref 1 23), (0, .nameAndType 24 6), (0, u "HOLD_OFF"), (0, .fieldref 1 26), (0, .nameAndType 27 6), (0, u "RELEASE"), (2, u "SPAN_START"), (2, u "SPAN_END"), (2, u "$VALUES"), (0, u "[Lebbtide/serve/History$Event;"), (6, .class_ 46), (1, u "java/lang/Enum"), (11, .fieldref 59 60), (0, .class_ 61), (0, .nameAndType 62 63), (0, u "ebbtide/serve/Hold"), (0, u "ON"), (0, u "Lebbtide/serve/Hold;"), (0, .methodref 1 65), (0, .nameAndType 66 67), (0, u "ordinal"), (0, u "()I"), (0, .fieldref 59 69), (0, .nameAndType 70 63), (0, u "OFF"), (22, u "of"), (2, u "(Lebbtide/serve/Hold;)Lebbtide/serve/History$Event;"), (0, u "hold"), (0, u "()Lebbtide/serve/Hold;"), (0, u "holds"), (0, u "()Z"), (6, .class_ 108), (0, u "ebbtide/serve/History")] 2

def k6c0 : Code := { maxStack := 2, maxLocals := 1, code := prog_171_method_5_code, exceptionTable := #[], attributes := #[] }
def k6m0 : Method := { name := "of", desc := "(Lebbtide/serve/Hold;)Lebbtide/serve/History$Event;", sig := { parameters := [(.object "ebbtide/serve/Hold")], returnType := some (.object "ebbtide/serve/History$Event") }, accessFlags := 8, code := some k6c0 }
def k6c1 : Code := { maxStack := 1, maxLocals := 1, code := prog_171_method_6_code, exceptionTable := #[], attributes := #[] }
def k6m1 : Method := { name := "hold", desc := "()Lebbtide/serve/Hold;", sig := { parameters := [], returnType := some (.object "ebbtide/serve/Hold") }, accessFlags := 0, code := some k6c1 }
def k6c2 : Code := { maxStack := 2, maxLocals := 1, code := prog_171_method_7_code, exceptionTable := #[], attributes := #[] }
def k6m2 : Method := { name := "holds", desc := "()Z", sig := { parameters := [], returnType := some .boolean }, accessFlags := 0, code := some k6c2 }
/-- ebbtide/serve/History$Event -/
def k6 : Class := { plain "ebbtide/serve/History$Event" (some 5) with
  accessFlags := 16433
  interfaces := #[]
  cf := some (fileOf pool6 1 #[.nestHost 107] #[{ accessFlags := 8, nameIndex := 93, descriptorIndex := 96, attributes := #[] }, { accessFlags := 0, nameIndex := 97, descriptorIndex := 98, attributes := #[] }, { accessFlags := 0, nameIndex := 99, descriptorIndex := 100, attributes := #[] }] 16433 44 #[] #[{ accessFlags := 16409, nameIndex := 5, descriptorIndex := 6, attributes := #[] }, { accessFlags := 16409, nameIndex := 9, descriptorIndex := 6, attributes := #[] }, { accessFlags := 16409, nameIndex := 12, descriptorIndex := 6, attributes := #[] }, { accessFlags := 16409, nameIndex := 15, descriptorIndex := 6, attributes := #[] }, { accessFlags := 16409, nameIndex := 18, descriptorIndex := 6, attributes := #[] }, { accessFlags := 16409, nameIndex := 21, descriptorIndex := 6, attributes := #[] }, { accessFlags := 16409, nameIndex := 24, descriptorIndex := 6, attributes := #[] }, { accessFlags := 16409, nameIndex := 27, descriptorIndex := 6, attributes := #[] }, { accessFlags := 16409, nameIndex := 30, descriptorIndex := 6, attributes := #[] }, { accessFlags := 16409, nameIndex := 33, descriptorIndex := 6, attributes := #[] }, { accessFlags := 4122, nameIndex := 36, descriptorIndex := 37, attributes := #[] }])
  fields := #[{ name := "START", type := (.object "ebbtide/serve/History$Event"), accessFlags := 16409, slot := 0, constantValue := 0 }, { name := "READ", type := (.object "ebbtide/serve/History$Event"), accessFlags := 16409, slot := 1, constantValue := 0 }, { name := "UNREAD", type := (.object "ebbtide/serve/History$Event"), accessFlags := 16409, slot := 2, constantValue := 0 }, { name := "POWER_ON", type := (.object "ebbtide/serve/History$Event"), accessFlags := 16409, slot := 3, constantValue := 0 }, { name := "POWER_OFF", type := (.object "ebbtide/serve/History$Event"), accessFlags := 16409, slot := 4, constantValue := 0 }, { name := "HOLD_ON", type := (.object "ebbtide/serve/History$Event"), accessFlags := 16409, slot := 5, constantValue := 0 }, { name := "HOLD_OFF", type := (.object "ebbtide/serve/History$Event"), accessFlags := 16409, slot := 6, constantValue := 0 }, { name := "RELEASE", type := (.object "ebbtide/serve/History$Event"), accessFlags := 16409, slot := 7, constantValue := 0 }, { name := "SPAN_START", type := (.object "ebbtide/serve/History$Event"), accessFlags := 16409, slot := 8, constantValue := 0 }, { name := "SPAN_END", type := (.object "ebbtide/serve/History$Event"), accessFlags := 16409, slot := 9, constantValue := 0 }, { name := "$VALUES", type := (.array (.object "ebbtide/serve/History$Event")), accessFlags := 4122, slot := 10, constantValue := 0 }]
  methods := #[k6m0, k6m1, k6m2]
  instanceTypes := #[(.object "java/lang/String"), .int, .int]
  staticTypes := #[(.object "ebbtide/serve/History$Event"), (.object "ebbtide/serve/History$Event"), (.object "ebbtide/serve/History$Event"), (.object "ebbtide/serve/History$Event"), (.object "ebbtide/serve/History$Event"), (.object "ebbtide/serve/History$Event"), (.object "ebbtide/serve/History$Event"), (.object "ebbtide/serve/History$Event"), (.object "ebbtide/serve/History$Event"), (.object "ebbtide/serve/History$Event"), (.array (.object "ebbtide/serve/History$Event"))]
  resolved := Array.replicate 111 none
  statics := some 0 }

def pool7 : Array CpInfo := pool [(1, .class_ 2), (0, u "ebbtide/serve/Hold"), (2, u "ON"), (0, u "Lebbtide/serve/Hold;"), (2, u "OFF"), (2, u "$VALUES"), (0, u "[Lebbtide/serve/Hold;"), (6, .class_ 22), (1, u "java/lang/Enum")] 51

/-- ebbtide/serve/Hold -/
def k7 : Class := { plain "ebbtide/serve/Hold" (some 5) with
  accessFlags := 16433
  interfaces := #[]
  cf := some (fileOf pool7 1 #[] #[] 16433 20 #[] #[{ accessFlags := 16409, nameIndex := 5, descriptorIndex := 6, attributes := #[] }, { accessFlags := 16409, nameIndex := 9, descriptorIndex := 6, attributes := #[] }, { accessFlags := 4122, nameIndex := 12, descriptorIndex := 13, attributes := #[] }])
  fields := #[{ name := "ON", type := (.object "ebbtide/serve/Hold"), accessFlags := 16409, slot := 0, constantValue := 0 }, { name := "OFF", type := (.object "ebbtide/serve/Hold"), accessFlags := 16409, slot := 1, constantValue := 0 }, { name := "$VALUES", type := (.array (.object "ebbtide/serve/Hold")), accessFlags := 4122, slot := 2, constantValue := 0 }]
  methods := #[]
  instanceTypes := #[(.object "java/lang/String"), .int, .int]
  staticTypes := #[(.object "ebbtide/serve/Hold"), (.object "ebbtide/serve/Hold"), (.array (.object "ebbtide/serve/Hold"))]
  resolved := Array.replicate 74 none
  statics := some 1 }

def pool8 : Array CpInfo := pool [(1, u "java/lang/Cloneable"), (0, .class_ 1), (0, u "java/lang/Object"), (0, .class_ 3)] 3

/-- java/lang/Cloneable -/
def k8 : Class := { plain "java/lang/Cloneable" (some 0) with
  accessFlags := 1537
  interfaces := #[]
  cf := some (fileOf pool8 2 #[] #[] 1537 4 #[] #[])
  fields := #[]
  methods := #[]
  instanceTypes := #[]
  staticTypes := #[]
  resolved := Array.replicate 8 none
  statics := none }

/-- the primitive byte -/
def k9 : Class := { plain "byte" none with kind := .primitive 'B', accessFlags := 0x411 }
/-- [B -/
def k10 : Class := { plain "[B" (some 0) with kind := .array 9 .byte, interfaces := #[8, 4], accessFlags := 1041 }

/-- the primitive int -/
def k11 : Class := { plain "int" none with kind := .primitive 'I', accessFlags := 0x411 }
/-- [I -/
def k12 : Class := { plain "[I" (some 0) with kind := .array 11 .int, interfaces := #[8, 4], accessFlags := 1041 }

/-- [Lebbtide/serve/History$Event; -/
def k13 : Class := { plain "[Lebbtide/serve/History$Event;" (some 0) with kind := .array 6 (.object "ebbtide/serve/History$Event"), interfaces := #[8, 4], accessFlags := 1041 }

def heap : Heap := #[{ cls := 6, slots := #[.ref 2, .ref 3, .ref 4, .ref 5, .ref 6, .ref 7, .ref 8, .ref 9, .ref 10, .ref 11, .null], vm := .statics 6 },
  { cls := 7, slots := #[.ref 12, .ref 13, .null], vm := .statics 7 },
  { cls := 6, slots := #[.null, .int 0, .int 0], vm := .none },
  { cls := 6, slots := #[.null, .int 1, .int 0], vm := .none },
  { cls := 6, slots := #[.null, .int 2, .int 0], vm := .none },
  { cls := 6, slots := #[.null, .int 3, .int 0], vm := .none },
  { cls := 6, slots := #[.null, .int 4, .int 0], vm := .none },
  { cls := 6, slots := #[.null, .int 5, .int 0], vm := .none },
  { cls := 6, slots := #[.null, .int 6, .int 0], vm := .none },
  { cls := 6, slots := #[.null, .int 7, .int 0], vm := .none },
  { cls := 6, slots := #[.null, .int 8, .int 0], vm := .none },
  { cls := 6, slots := #[.null, .int 9, .int 0], vm := .none },
  { cls := 7, slots := #[.null, .int 0, .int 0], vm := .none },
  { cls := 7, slots := #[.null, .int 1, .int 0], vm := .none }]
def classes : Array Class := #[k0, k1, k2, k3, k4, k5, k6, k7, k8, k9, k10, k11, k12, k13]
def interned : List (Array UInt16 × Addr) := []
def slotsUsed : Nat := 50
def theMethod : MethodId := ⟨1, 1⟩
def args0 : Array Value := #[.int 5]
def aboutOver (below : List Frame) : State where
  vm := { classes := classes, interned := interned.toArray }
  heap := heap
  slotsUsed := slotsUsed
  threads := #[{ frames := .invoking theMethod args0 :: below }]
def below0 : List Frame := [.native { method := ⟨0, 0⟩, args := #[] }]
def about1 : State := aboutOver below0
def p0 : Program := .bare "" "" ""
def e0 : Env := launch0.env 0 0 0
theorem w_frames : about1.frames = Frame.invoking theMethod args0 :: below0 := rfl
set_option maxRecDepth 65536 in
theorem w_args : argsFit about1.vm theMethod args0 = true := by decide +kernel
set_option maxRecDepth 65536 in
theorem w_heap : heapFits about1 = true := by decide +kernel
set_option maxRecDepth 65536 in
theorem w_runnable : about1.curStatus? = some .runnable := by decide +kernel
set_option maxRecDepth 65536 in
theorem w_alone : about1.alone = true := by decide +kernel
set_option maxRecDepth 65536 in
theorem w_named : about1.methodNamed? x = some theMethod := by decide +kernel
set_option maxRecDepth 65536 in
theorem w_hears : about1.hears theMethod below0 = true := by decide +kernel
set_option maxRecDepth 65536 in
theorem w_ripe : about1.ripe theMethod args0 below0 = true := by decide +kernel
theorem w_running : about1.status = .running := rfl
set_option maxRecDepth 65536 in
theorem w_room : about1.hasRoom e0.platform room_1 = true :=
  launch0.hasRoom_least _ room_1 (by decide +kernel) (by decide +kernel) (by decide +kernel) (by decide +kernel) (by decide +kernel) (by decide +kernel)
theorem allAtoms_all (ts : List Jvm.Cond) (a : Array Jvm.Value) (st : Jvm.State) : (allAtoms ts).before a st = ts.all (fun c => c.before a st) := by
  induction ts with
  | nil => rfl
  | cons c t ih =>
    show (Jvm.Cond.and c (allAtoms t)).before a st = _
    rw [Jvm.Cond.before_and, ih, List.all_cons]
def words1 : List Jvm.Cond := Jvm.Cond.code x code maxLocals ret :: tables_1
/-- a 'code' word, met by the world's own term for the bytes: nothing is compared byte by byte -/
theorem code_word {y : MethodName} {bytes : ByteArray} {mx : Nat} {rt : Option FieldType} {a : Array Value} {s : State} {m : MethodId} {meth : Method} {c : Code} (h1 : s.methodNamed? y = some m) (h2 : s.vm.method? m = some meth) (h3 : meth.code = some c) (h4 : c.code = bytes)
    (h5 : (c.maxLocals == mx && c.exceptionTable.isEmpty && decide (c.maxStack ≤ mostOperands) && decide (meth.sig.returnType = rt) && !meth.locks && decide (parseMethodDescriptor y.desc = some meth.sig)) = true) : (Jvm.Cond.code y bytes mx rt).before a s = true := by
  simp only [Bool.and_eq_true, beq_iff_eq, Bool.not_eq_true', decide_eq_true_eq] at h5
  obtain ⟨⟨⟨⟨⟨g1, g2⟩, g3⟩, g4⟩, g5⟩, g6⟩ := h5
  simp [Cond.before, Cond.holds, Cond.value, h1, h2, h3, h4, g1, g2, g3, g4, g5, g6]
def isCode : Jvm.Cond → Bool
  | .code _ _ _ _ => true
  | _ => false
theorem all_split {L : List Jvm.Cond} {P : Jvm.Cond → Bool} (h1 : L.all (fun c => isCode c || P c) = true) (h2 : ∀ c ∈ L.filter isCode, P c = true) : L.all P = true := by
  refine List.all_eq_true.mpr fun c hc => ?_
  have h := List.all_eq_true.mp h1 c hc
  rcases Bool.eq_false_or_eq_true (isCode c) with hi | hi
  · exact h2 c (List.mem_filter.mpr ⟨hc, hi⟩)
  · simpa [hi] using h
set_option maxRecDepth 65536 in
theorem w_c0 : (Jvm.Cond.code x code maxLocals ret).before args0 about1 = true := code_word (m := ⟨1, 1⟩) (meth := k1m1) (c := k1c1) (by decide +kernel) rfl rfl rfl (by decide +kernel)
set_option maxRecDepth 65536 in
theorem w_c1 : (Jvm.Cond.code ({ cls := "ebbtide/serve/History$Event", name := "holds", desc := "()Z" } : Jvm.MethodName) prog_171_method_7_code (1 : Nat) (Option.some Jvm.ClassFile.FieldType.boolean)).before args0 about1 = true := code_word (m := ⟨6, 2⟩) (meth := k6m2) (c := k6c2) (by decide +kernel) rfl rfl rfl (by decide +kernel)
set_option maxRecDepth 65536 in
theorem w_c2 : (Jvm.Cond.code ({ cls := "ebbtide/serve/History$Event", name := "hold", desc := "()Lebbtide/serve/Hold;" } : Jvm.MethodName) prog_171_method_6_code (1 : Nat) (Option.some (Jvm.ClassFile.FieldType.object "ebbtide/serve/Hold"))).before args0 about1 = true := code_word (m := ⟨6, 1⟩) (meth := k6m1) (c := k6c1) (by decide +kernel) rfl rfl rfl (by decide +kernel)
set_option maxRecDepth 65536 in
theorem w_c3 : (Jvm.Cond.code ({ cls := "java/lang/Enum", name := "ordinal", desc := "()I" } : Jvm.MethodName) jdk_37_method_2_code (1 : Nat) (Option.some Jvm.ClassFile.FieldType.int)).before args0 about1 = true := code_word (m := ⟨5, 0⟩) (meth := k5m0) (c := k5c0) (by decide +kernel) rfl rfl rfl (by decide +kernel)
set_option maxRecDepth 65536 in
theorem w_c4 : (Jvm.Cond.code ({ cls := "ebbtide/serve/History$Event", name := "of", desc := "(Lebbtide/serve/Hold;)Lebbtide/serve/History$Event;" } : Jvm.MethodName) prog_171_method_5_code (1 : Nat) (Option.some (Jvm.ClassFile.FieldType.object "ebbtide/serve/History$Event"))).before args0 about1 = true := code_word (m := ⟨6, 0⟩) (meth := k6m0) (c := k6c0) (by decide +kernel) rfl rfl rfl (by decide +kernel)
def codes1 : List Jvm.Cond := [Jvm.Cond.code x code maxLocals ret, Jvm.Cond.code ({ cls := "ebbtide/serve/History$Event", name := "holds", desc := "()Z" } : Jvm.MethodName) prog_171_method_7_code (1 : Nat) (Option.some Jvm.ClassFile.FieldType.boolean), Jvm.Cond.code ({ cls := "ebbtide/serve/History$Event", name := "hold", desc := "()Lebbtide/serve/Hold;" } : Jvm.MethodName) prog_171_method_6_code (1 : Nat) (Option.some (Jvm.ClassFile.FieldType.object "ebbtide/serve/Hold")), Jvm.Cond.code ({ cls := "java/lang/Enum", name := "ordinal", desc := "()I" } : Jvm.MethodName) jdk_37_method_2_code (1 : Nat) (Option.some Jvm.ClassFile.FieldType.int), Jvm.Cond.code ({ cls := "ebbtide/serve/History$Event", name := "of", desc := "(Lebbtide/serve/Hold;)Lebbtide/serve/History$Event;" } : Jvm.MethodName) prog_171_method_5_code (1 : Nat) (Option.some (Jvm.ClassFile.FieldType.object "ebbtide/serve/History$Event"))]
set_option maxRecDepth 65536 in
theorem codes_eq : words1.filter isCode = codes1 := rfl
theorem w_codes : ∀ c ∈ words1.filter isCode, c.before args0 about1 = true := by
  rw [codes_eq]
  intro c hc
  simp only [codes1, List.mem_cons, List.not_mem_nil, or_false] at hc
  rcases hc with rfl | rfl | rfl | rfl | rfl
  · exact w_c0
  · exact w_c1
  · exact w_c2
  · exact w_c3
  · exact w_c4
set_option maxRecDepth 65536 in
theorem w_t1 : (words1.take 24).all (fun c => isCode c || c.before args0 about1) = true := by decide +kernel
set_option maxRecDepth 65536 in
theorem w_t2 : ((words1.drop 24).take 24).all (fun c => isCode c || c.before args0 about1) = true := by decide +kernel
set_option maxRecDepth 65536 in
theorem w_t3 : ((words1.drop 24).drop 24).all (fun c => isCode c || c.before args0 about1) = true := by decide +kernel
theorem w_tables : (allAtoms (Jvm.Cond.code x code maxLocals ret :: tables_1)).before args0 about1 = true := by
  rw [allAtoms_all]
  show words1.all (fun c => c.before args0 about1) = true
  refine all_split ?_ w_codes
  rw [← List.take_append_drop 24 words1, List.all_append, w_t1, ← List.take_append_drop 24 (words1.drop 24), List.all_append, w_t2, w_t3]
  rfl
set_option maxRecDepth 65536 in
theorem w_case : (Jvm.Cond.and given_1 narrow_1).before args0 about1 = true := by decide +kernel
theorem w_applies : (headSpec (Jvm.Cond.code x code maxLocals ret :: tables_1) room_1).applies x e0.platform about1 = true :=
  (Spec.applies_iff w_frames).mpr ⟨w_running, w_runnable, w_alone, w_named, w_hears, w_ripe, w_room, w_tables⟩
theorem atStart : AtStart classFile x code maxLocals ret World_1 tables_1 room_1 Calls_1 rest_1 Pre_1 launch0 p0 e0 about1 theMethod args0 below0 :=
  ⟨lists_1, trivial, launch0.admits_env _ _ _, launch0.least_env, fairChoices_fair.cas, fairChoices_fair.clock, w_frames, w_args, w_heap, w_applies, trivial, trivial, w_case⟩
end start1
theorem witness_1 : WitnessClaimed_1 := ⟨start1.p0, start1.e0, start1.about1, start1.theMethod, start1.args0, start1.below0, start1.atStart⟩
end Jvm.Pilot.@@N@@
