import JvmDerived
import JvmDerived.Pilot.@@N@@Statement
import JvmDerived.Pilot.@@N@@Code
set_option linter.unusedVariables false
set_option linter.unusedSimpArgs false
@@BLOCK:NumsL.lean.txt@@
namespace Jvm.RoadKit
open Sem ClassFile Op Lib Jvm.Stand Jvm.Free Jvm.LawKit
section Own
variable {p : Program} {l : Launch} {e : Env} {R : Room} {s : State} {m : MethodId} {args : Array Value} {below : List Frame} {meth : Method} {c : Code} {T : State} {locs : List Loc} {cells slots : Nat} {Z : State} {h : Heap}
theorem own_retI (X : Stand p l e R s m args below meth c T locs cells slots) (hx : p.tables.exec = Jvm.exec) {pc : Nat} {Ls : Array Slot} {z : Int32} {rest : List Value} (hret : meth.sig.returnType = some .int) (hd : decode c.code pc = .ok (.ireturn, 1)) {fs : List Frame}
    (hl : ∀ (f : JFrame) (acts : List Action), f.method = m → f.locked = none → f.entered = [] → (doReturn e (T.setTop f) acts (some (.int z))).1 = T.setFrames fs) : Steps p.tables e below (T.setTop (mkF m pc Ls (.int z :: rest))) (T.setFrames fs) := by
  have hm' : T.vm.method? m = some meth := X.method'
  have hn : narrow .int (.int z) = .int z := rfl
  show Steps p.tables e below (T.setTop { method := m, pc := pc, locals := Ls, stack := _ :: rest, locked := none }) _
  jvm_step X.here [X.here.top, hx, hd, hm', hret, hn]
  first | (intro acts; rw [hl _ acts rfl rfl rfl]) | rw [hl _ _ rfl rfl rfl]
  exact Steps.refl _
theorem own_retL (X : Stand p l e R s m args below meth c T locs cells slots) (hx : p.tables.exec = Jvm.exec) {pc : Nat} {Ls : Array Slot} {z : Int64} {rest : List Value} (hret : meth.sig.returnType = some .long) (hd : decode c.code pc = .ok (.lreturn, 1)) {fs : List Frame}
    (hl : ∀ (f : JFrame) (acts : List Action), f.method = m → f.locked = none → f.entered = [] → (doReturn e (T.setTop f) acts (some (.long z))).1 = T.setFrames fs) : Steps p.tables e below (T.setTop (mkF m pc Ls (.long z :: rest))) (T.setFrames fs) := by
  have hm' : T.vm.method? m = some meth := X.method'
  show Steps p.tables e below (T.setTop { method := m, pc := pc, locals := Ls, stack := _ :: rest, locked := none }) _
  jvm_step X.here [X.here.top, hx, hd, hm', hret, narrow]
  first | (intro acts; rw [hl _ acts rfl rfl rfl]) | rw [hl _ _ rfl rfl rfl]
  exact Steps.refl _
theorem own_retA (X : Stand p l e R s m args below meth c T locs cells slots) (hx : p.tables.exec = Jvm.exec) {pc : Nat} {Ls : Array Slot} {w : Value} {t : FieldType} {rest : List Value} (hret : meth.sig.returnType = some t) (ht : t.isReference = true) (hv : w.isRef = true) (hd : decode c.code pc = .ok (.areturn, 1)) {fs : List Frame}
    (hl : ∀ (f : JFrame) (acts : List Action), f.method = m → f.locked = none → f.entered = [] → (doReturn e (T.setTop f) acts (some w)).1 = T.setFrames fs) : Steps p.tables e below (T.setTop (mkF m pc Ls (w :: rest))) (T.setFrames fs) := by
  have hm' : T.vm.method? m = some meth := X.method'
  show Steps p.tables e below (T.setTop { method := m, pc := pc, locals := Ls, stack := w :: rest, locked := none }) _
  jvm_step X.here [X.here.top, hx, hd, hm', hret, hv, ht]
  first | (intro acts; rw [hl _ acts rfl rfl rfl]) | rw [hl _ _ rfl rfl rfl]
  exact Steps.refl _
theorem own_fldI {s : State} {args : Array Value} {t : Term} {C n d : String} {k : Int32} {x : Addr} (ev : t.eval args s none [] s = some (.ref x)) (h : (Cond.eq (Term.field t C n d) (Term.int k)).value args s none s [] = some true) : Fld s s.heap x C n d (.int k) := by
  have e := fld_at (C := C) (n := n) (dd := d) ev
  cases hv : s.fieldOf? x C n d with
  | none => simp [Cond.value, Term.eval, ev, hv] at h
  | some v =>
    cases v <;> simp [Cond.value, Term.eval, ev, hv] at h
    subst h
    exact Fld.start hv
theorem own_fldJ {s : State} {args : Array Value} {t : Term} {C n d : String} {k : Int64} {x : Addr} (ev : t.eval args s none [] s = some (.ref x)) (h : (Cond.eq (Term.field t C n d) (Term.long k)).value args s none s [] = some true) : Fld s s.heap x C n d (.long k) := by
  have e := fld_at (C := C) (n := n) (dd := d) ev
  cases hv : s.fieldOf? x C n d with
  | none => simp [Cond.value, Term.eval, ev, hv] at h
  | some v =>
    cases v <;> simp [Cond.value, Term.eval, ev, hv] at h
    subst h
    exact Fld.start hv
end Own
end Jvm.RoadKit
namespace Jvm.Pilot.@@N@@
open Jvm Jvm.ClassFile Sem Op Lib Jvm.Free Jvm.Stand Jvm.LawKit Jvm.RoadKit Bundle Jvm.Pilot.@@N@@.Jvm.D
def QP (v0 : Option Value) (h0 : Heap) (n0 : Nat) (v : Option Value) (h : Heap) (L : List Loc) : Prop := v = v0 ∧ Fr n0 L ∧ h = h0
def Q0 (n0 : Nat) (v : Option Value) (L : List Loc) : Prop := v = some (.int 1) ∧ Fr n0 L
def Wd (Z : State) (h : Heap) : Prop := True
theorem own_n (s : Int32) : 1 ≤ ((1 : Int32) + (s &&& (131071 : Int32))).toInt ∧ ((1 : Int32) + (s &&& (131071 : Int32))).toInt ≤ 131072 := by
  have e := Jvm.Kit.i32_mask s 131071 (k := 17) (by decide) (by decide)
  have e1 : (1 : Int32).toInt = 1 := rfl
  have f := Jvm.Kit.i32_add (p := 1) (q := s &&& 131071) (by omega) (by omega)
  rw [f]; omega
theorem own_idx (x n : Int32) (hn : 1 ≤ n.toInt) : 0 ≤ ((x &&& (2147483647 : Int32)) % n).toInt ∧ ((x &&& (2147483647 : Int32)) % n).toInt < n.toInt := by
  have e := Jvm.Kit.i32_mask x 2147483647 (k := 31) (by decide) (by decide)
  have f := Jvm.Kit.i32_rem_nonneg (x := x &&& 2147483647) (y := n) (by omega)
  rw [f]
  exact ⟨Int.emod_nonneg _ (by omega), Int.emod_lt_of_pos _ (by omega)⟩
theorem own_ne0 (n : Int32) (hn : 1 ≤ n.toInt) : n ≠ 0 := fun q => by
  have e0 : (0 : Int32).toInt = 0 := rfl
  rw [q] at hn; omega
theorem own_cnt (n : Int32) (h1 : 1 ≤ n.toInt) (h2 : n.toInt ≤ 131072) : (((((n.toInt64) + (32768 : Int64)) - (1 : Int64)).toUInt64 >>> ((15 : Int32) &&& 0x3f).toInt64.toUInt64).toInt64).toInt32.toInt = (n.toInt + 32767) / 32768 := by
  have a1 := Jvm.Kit.i64_of_i32 n
  have c1 : (32768 : Int64).toInt = 32768 := rfl
  have c2 : (1 : Int64).toInt = 1 := rfl
  have a2 := Jvm.Kit.i64_add (x := n.toInt64) (y := 32768) (by omega) (by omega)
  have a3 := Jvm.Kit.i64_sub (x := n.toInt64 + 32768) (y := 1) (by omega) (by omega)
  have a4 := Jvm.Kit.i64_lushr (x := n.toInt64 + 32768 - 1) (Jvm.Kit.i64_nonneg.mpr (by omega)) (n := ((15 : Int32) &&& 0x3f).toInt64.toUInt64) (k := 15) (by decide) (by decide)
  have a5 := Jvm.Kit.i32_of_i64 (x := ((n.toInt64 + 32768 - 1).toUInt64 >>> ((15 : Int32) &&& 0x3f).toInt64.toUInt64).toInt64) (by rw [a4]; omega) (by rw [a4]; omega)
  rw [a5, a4, a3, a2, a1, c1, c2]
  omega
theorem own_q (e : Int32) (h : 0 ≤ e.toInt) : ((e.toUInt32 >>> ((15 : Int32) &&& 31).toUInt32).toInt32).toInt = e.toInt / 32768 :=
  Jvm.Kit.i32_iushr (Jvm.Kit.i32_nonneg.mpr h) (n := ((15 : Int32) &&& 31).toUInt32) (k := 15) (by decide) (by decide)
theorem own_r (e : Int32) : (e &&& (32767 : Int32)).toInt = e.toInt % 32768 := Jvm.Kit.i32_mask e 32767 (k := 15) (by decide) (by decide)
theorem own_lt {m n : Int32} {q r : Nat} (hmI : m.toInt = n.toInt - (q : Int) * 32768) (h : q * 32768 + r < n.toInt.toNat) : r < m.toNatClampNeg := by
  show r < m.toInt.toNat
  rw [hmI]; omega
theorem own_cl (e : Int32) : e.toNatClampNeg = e.toInt.toNat := rfl
theorem own_lc0 (x : Int64) : (lcmpW x x) = (0 : Int32) := by
  have : ¬ (x > x) := Int64.lt_irrefl
  simp [lcmpW, this]
theorem own_nz {e : Int32} (h : 0 ≤ e.toInt) : ¬ e < 0 := by
  have e0 : (0 : Int32).toInt = 0 := rfl
  rw [Int32.lt_iff_toInt_lt]; omega
def Iv (Z : State) (h : Heap) (n0 : Nat) (t ch : Addr) (n : Int32) (cs : Nat → Addr) (f : Nat → Int64) : Prop :=
  Exa Z h t "com/example/reachmark/reachmark/label/Intervals" ∧ Fld Z h t "com/example/reachmark/reachmark/label/Intervals" "chunks" "[[J" (.ref ch) ∧ Fld Z h t "com/example/reachmark/reachmark/label/Intervals" "size" "I" (.int n) ∧
  (∃ cc : Cell, Arr Z h ch cc (.array .long) ∧ ∀ q : Nat, q * 32768 < n.toInt.toNat → cc.slots[q]? = some (.ref (cs q))) ∧
  (∀ q : Nat, q * 32768 < n.toInt.toNat → ∃ cl : Cell, Arr Z h (cs q) cl .long ∧ ∀ r : Nat, r < 32768 → q * 32768 + r < n.toInt.toNat → cl.slots[r]? = some (.long (f (q * 32768 + r)))) ∧
  (∀ q : Nat, q * 32768 < n.toInt.toNat → n0 ≤ cs q ∧ cs q ≠ ch ∧ cs q ≠ t) ∧
  (∀ q q' : Nat, q * 32768 < n.toInt.toNat → q' * 32768 < n.toInt.toNat → q ≠ q' → cs q ≠ cs q')
def own_upd (f : Nat → Int64) (e : Int32) (v : Int64) : Nat → Int64 := fun x => if x = e.toInt.toNat then v else f x
set_option maxRecDepth 65536 in
theorem Iv.set {Z : State} {h h' : Heap} {n0 : Nat} {t ch : Addr} {n : Int32} {cs : Nat → Addr} {f : Nat → Int64} (I : Iv Z h n0 t ch n cs f) {e : Int32} {v : Int64} (h1 : 0 ≤ e.toInt) (h2 : e.toInt < n.toInt)
    {r : Nat} (hr : r = e.toInt.toNat % 32768) (Wx : Wr h h' (cs (e.toInt.toNat / 32768)) r (.long v)) : Iv Z h' n0 t ch n cs (own_upd f e v) := by
  obtain ⟨E, F1, F2, ⟨cc, A, HA⟩, B, C, D⟩ := I
  have hq : e.toInt.toNat / 32768 * 32768 < n.toInt.toNat := by omega
  have hc := C _ hq
  refine ⟨E.wr Wx, F1.other Wx (Or.inl (Ne.symm hc.2.2)), F2.other Wx (Or.inl (Ne.symm hc.2.2)), ⟨cc, A.other Wx (Ne.symm hc.2.1), HA⟩, fun q hq' => ?_, C, D⟩
  obtain ⟨cl, A', HB⟩ := B q hq'
  by_cases z : q = e.toInt.toNat / 32768
  · subst z
    refine ⟨cl.setSlot r (.long v), A'.same Wx, fun r' hr1 hr2 => ?_⟩
    have hb := HB r' hr1 hr2
    have hlt : r' < cl.slots.size := (Array.getElem?_eq_some_iff.mp hb).1
    by_cases u : r = r'
    · subst u
      have : own_upd f e v (e.toInt.toNat / 32768 * 32768 + r) = v := by simp only [own_upd]; rw [if_pos (by omega)]
      rw [this]; simp [Cell.setSlot, hlt]
    · have : own_upd f e v (e.toInt.toNat / 32768 * 32768 + r') = f (e.toInt.toNat / 32768 * 32768 + r') := by simp only [own_upd]; rw [if_neg (by omega)]
      rw [this]; simp only [Cell.setSlot]; rw [Array.getElem?_setIfInBounds_ne u]; exact hb
  · refine ⟨cl, A'.other Wx (D _ _ hq' hq z), fun r' hr1 hr2 => ?_⟩
    have : own_upd f e v (q * 32768 + r') = f (q * 32768 + r') := by simp only [own_upd]; rw [if_neg (by omega)]
    rw [this]; exact HB r' hr1 hr2
set_option maxRecDepth 65536 in
theorem Iv.place {Z : State} {h : Heap} {n0 : Nat} {t ch : Addr} {n : Int32} {cs : Nat → Addr} {f : Nat → Int64} (I : Iv Z h n0 t ch n cs f) {e : Int32} (h1 : 0 ≤ e.toInt) (h2 : e.toInt < n.toInt) :
    ∃ cc cl : Cell, Arr Z h ch cc (.array .long) ∧ ¬ (((e.toUInt32 >>> ((15 : Int32) &&& 31).toUInt32).toInt32) < 0 ∨ cc.slots.size ≤ ((e.toUInt32 >>> ((15 : Int32) &&& 31).toUInt32).toInt32).toNatClampNeg) ∧ cc.slots[((e.toUInt32 >>> ((15 : Int32) &&& 31).toUInt32).toInt32).toNatClampNeg]? = some (.ref (cs (e.toInt.toNat / 32768))) ∧
      Arr Z h (cs (e.toInt.toNat / 32768)) cl .long ∧ ¬ ((e &&& (32767 : Int32)) < 0 ∨ cl.slots.size ≤ (e &&& (32767 : Int32)).toNatClampNeg) ∧ cl.slots[(e &&& (32767 : Int32)).toNatClampNeg]? = some (.long (f e.toInt.toNat)) ∧ (e &&& (32767 : Int32)).toNatClampNeg = e.toInt.toNat % 32768 ∧ n0 ≤ cs (e.toInt.toNat / 32768) := by
  obtain ⟨E, F1, F2, ⟨cc, A, HA⟩, B, C, D⟩ := I
  have hq : e.toInt.toNat / 32768 * 32768 < n.toInt.toNat := by omega
  have hlt : e.toInt.toNat < n.toInt.toNat := by omega
  have k1 := own_q e h1
  have k2 := own_r e
  have c1 : ((e.toUInt32 >>> ((15 : Int32) &&& 31).toUInt32).toInt32).toNatClampNeg = e.toInt.toNat / 32768 := by rw [own_cl, k1]; omega
  have c2 : (e &&& (32767 : Int32)).toNatClampNeg = e.toInt.toNat % 32768 := by rw [own_cl, k2]; omega
  have a1 := HA _ hq
  obtain ⟨cl, A', HB⟩ := B _ hq
  have b1 := HB (e.toInt.toNat % 32768) (Nat.mod_lt _ (by decide)) (by rw [Nat.div_add_mod']; exact hlt)
  have s1 := (Array.getElem?_eq_some_iff.mp a1).1
  have s2 := (Array.getElem?_eq_some_iff.mp b1).1
  have ee : e.toInt.toNat / 32768 * 32768 + e.toInt.toNat % 32768 = e.toInt.toNat := Nat.div_add_mod' _ _
  rw [ee] at b1
  refine ⟨cc, cl, A, ?_, by rw [c1]; exact a1, A', ?_, by rw [c2]; exact b1, c2, (C _ hq).1⟩
  · rw [c1]; exact fun q => q.elim (own_nz (by rw [k1]; omega)) (fun z => absurd s1 (Nat.not_lt.mpr z))
  · rw [c2]; exact fun q => q.elim (own_nz (by rw [k2]; omega)) (fun z => absurd s2 (Nat.not_lt.mpr z))
theorem d4_0 : decode jdk_29_method_69_code 0 = .ok (.iload_n 0, 1) := by decide +kernel
theorem d4_1 : decode jdk_29_method_69_code 1 = .ok (.iload_n 1, 1) := by decide +kernel
theorem d4_2 : decode jdk_29_method_69_code 2 = .ok (.if_icmp .gt 7, 3) := by decide +kernel
theorem d4_5 : decode jdk_29_method_69_code 5 = .ok (.iload_n 0, 1) := by decide +kernel
theorem d4_6 : decode jdk_29_method_69_code 6 = .ok (.goto 4, 3) := by decide +kernel
theorem d4_10 : decode jdk_29_method_69_code 10 = .ok (.ireturn, 1) := by decide +kernel
set_option maxRecDepth 65536 in
set_option maxHeartbeats 40000000 in
theorem rm4_1 (l : Launch) (Z : State) (a0 : Array Value) (hw : ∀ d ∈ tables_1, d.before a0 Z = true) (ws : List Jvm.Cond)  (d : Int32) (h0 : Heap) (n0 : Nat) (Z0 : n0 ≤ h0.size) (hS : Wd Z h0 ) (hd : ¬ (d < (32768 : Int32))) :
    MetFree l (⟨"java/lang/Math", "min", "(II)I"⟩ : MethodName) (head1 (Jvm.Cond.code (⟨"java/lang/Math", "min", "(II)I"⟩ : MethodName) jdk_29_method_69_code 2 (some .int) :: ws) ({ frames := 0, cells := 0, slots := 0, locals := 0 } : Room)) (fun a U => a = #[(.int (32768 : Int32)), (.int d)] ∧ Z.Warmed39 U.vm ∧ U.heap = h0) (fun _ _ _ _ _ => True) (fun _ U o U' => ∃ v L, o = .returned v ∧ QP (some (.int (32768 : Int32))) h0 n0 v U'.heap L ∧ FrameEnd U o U' L ({ frames := 0, cells := 0, slots := 0, locals := 0 } : Room).cells ({ frames := 0, cells := 0, slots := 0, locals := 0 } : Room).slots) := by
  refine MetFree.of_bodySF (Jvm.Free.JP.mathPlain rfl (by decide +kernel)) hisR ?_
  intro p e s m args below meth c s₁ Bd hml0 hP hK
  obtain ⟨rfl, hZ, hh⟩ := hP
  have hx := Bd.exec
  have hby := Bd.bytes
  have hml : c.maxLocals = 2 := hml0
  have hown : s.vm.findClass "java/lang/Math" = some m.cls := findClass_of_methodNamed Bd.named
  have X0 : Stand p l e ({ frames := 0, cells := 0, slots := 0, locals := 0 } : Room) s m #[(.int (32768 : Int32)), (.int d)] below meth c s₁ [] 0 0 := Stand.of_body Bd
  have e0 : s₁.heap = h0 := by rw [← hh, Bd.state]; rfl
  have N0 := Fr.nil n0
  have pre0 : ∀ t, Steps p.tables e below (s₁.setTop (mkF m 0 #[.val (.int (32768 : Int32)), .val (.int d)] [])) t → Steps p.tables e below (s₁.setTop (entryFrame m #[(.int (32768 : Int32)), (.int d)] 2)) t := fun t k => castTop (by first | (simp [entryFrame, mkF, argsToLocals, Value.category]; done) | rfl) k
  obtain ⟨fs, hr, hrun, hended, hW, hsame⟩ := X0.leave (v := some (.int (32768 : Int32))) (fun h => by rw [Bd.returns] at h; cases h)
  refine ⟨_, _, pre0 _ ?_, hrun, hended, _, _, rfl, ?_, ⟨_, rfl⟩, hW, hsame.mono (by decide) (by decide)⟩
  · show Steps p.tables e below (s₁.setTop (mkF m 0 #[.val (.int (32768 : Int32)), .val (.int d)] [])) _
    refine XS.iloadN X0.here hx rfl (hb hby d4_0) rfl ?_
    show Steps p.tables e below (s₁.setTop (mkF m 1 #[.val (.int (32768 : Int32)), .val (.int d)] [(.int (32768 : Int32))])) _
    refine XS.iloadN X0.here hx rfl (hb hby d4_1) rfl ?_
    show Steps p.tables e below (s₁.setTop (mkF m 2 #[.val (.int (32768 : Int32)), .val (.int d)] [(.int d), (.int (32768 : Int32))])) _
    refine XS.icmpNo X0.here hx rfl (hb hby d4_2) rfl (flt hd).2.2.1 ?_
    show Steps p.tables e below (s₁.setTop (mkF m 5 #[.val (.int (32768 : Int32)), .val (.int d)] [])) _
    refine XS.iloadN X0.here hx rfl (hb hby d4_5) rfl ?_
    show Steps p.tables e below (s₁.setTop (mkF m 6 #[.val (.int (32768 : Int32)), .val (.int d)] [(.int (32768 : Int32))])) _
    refine XS.goto X0.here hx rfl (pc0 := 6) (pc' := 10) rfl (hb hby d4_6) (by decide) (by decide) ?_
    show Steps p.tables e below (s₁.setTop (mkF m 10 #[.val (.int (32768 : Int32)), .val (.int d)] [(.int (32768 : Int32))])) _
    exact own_retI X0 hx Bd.returns (hb hby d4_10) hr
  · exact ⟨rfl, N0, e0⟩
theorem d4_9 : decode jdk_29_method_69_code 9 = .ok (.iload_n 1, 1) := by decide +kernel
set_option maxRecDepth 65536 in
set_option maxHeartbeats 40000000 in
theorem rm4_2 (l : Launch) (Z : State) (a0 : Array Value) (hw : ∀ d ∈ tables_1, d.before a0 Z = true) (ws : List Jvm.Cond)  (d : Int32) (h0 : Heap) (n0 : Nat) (Z0 : n0 ≤ h0.size) (hS : Wd Z h0 ) (hd : d < (32768 : Int32)) :
    MetFree l (⟨"java/lang/Math", "min", "(II)I"⟩ : MethodName) (head1 (Jvm.Cond.code (⟨"java/lang/Math", "min", "(II)I"⟩ : MethodName) jdk_29_method_69_code 2 (some .int) :: ws) ({ frames := 0, cells := 0, slots := 0, locals := 0 } : Room)) (fun a U => a = #[(.int (32768 : Int32)), (.int d)] ∧ Z.Warmed39 U.vm ∧ U.heap = h0) (fun _ _ _ _ _ => True) (fun _ U o U' => ∃ v L, o = .returned v ∧ QP (some (.int d)) h0 n0 v U'.heap L ∧ FrameEnd U o U' L ({ frames := 0, cells := 0, slots := 0, locals := 0 } : Room).cells ({ frames := 0, cells := 0, slots := 0, locals := 0 } : Room).slots) := by
  refine MetFree.of_bodySF (Jvm.Free.JP.mathPlain rfl (by decide +kernel)) hisR ?_
  intro p e s m args below meth c s₁ Bd hml0 hP hK
  obtain ⟨rfl, hZ, hh⟩ := hP
  have hx := Bd.exec
  have hby := Bd.bytes
  have hml : c.maxLocals = 2 := hml0
  have hown : s.vm.findClass "java/lang/Math" = some m.cls := findClass_of_methodNamed Bd.named
  have X0 : Stand p l e ({ frames := 0, cells := 0, slots := 0, locals := 0 } : Room) s m #[(.int (32768 : Int32)), (.int d)] below meth c s₁ [] 0 0 := Stand.of_body Bd
  have e0 : s₁.heap = h0 := by rw [← hh, Bd.state]; rfl
  have N0 := Fr.nil n0
  have pre0 : ∀ t, Steps p.tables e below (s₁.setTop (mkF m 0 #[.val (.int (32768 : Int32)), .val (.int d)] [])) t → Steps p.tables e below (s₁.setTop (entryFrame m #[(.int (32768 : Int32)), (.int d)] 2)) t := fun t k => castTop (by first | (simp [entryFrame, mkF, argsToLocals, Value.category]; done) | rfl) k
  obtain ⟨fs, hr, hrun, hended, hW, hsame⟩ := X0.leave (v := some (.int d)) (fun h => by rw [Bd.returns] at h; cases h)
  refine ⟨_, _, pre0 _ ?_, hrun, hended, _, _, rfl, ?_, ⟨_, rfl⟩, hW, hsame.mono (by decide) (by decide)⟩
  · show Steps p.tables e below (s₁.setTop (mkF m 0 #[.val (.int (32768 : Int32)), .val (.int d)] [])) _
    refine XS.iloadN X0.here hx rfl (hb hby d4_0) rfl ?_
    show Steps p.tables e below (s₁.setTop (mkF m 1 #[.val (.int (32768 : Int32)), .val (.int d)] [(.int (32768 : Int32))])) _
    refine XS.iloadN X0.here hx rfl (hb hby d4_1) rfl ?_
    show Steps p.tables e below (s₁.setTop (mkF m 2 #[.val (.int (32768 : Int32)), .val (.int d)] [(.int d), (.int (32768 : Int32))])) _
    refine XS.icmpYes X0.here hx rfl (pc0 := 2) (pc' := 9) rfl (hb hby d4_2) rfl (tlt hd).2.2.1 (by decide) (by decide) ?_
    show Steps p.tables e below (s₁.setTop (mkF m 9 #[.val (.int (32768 : Int32)), .val (.int d)] [])) _
    refine XS.iloadN X0.here hx rfl (hb hby d4_9) rfl ?_
    show Steps p.tables e below (s₁.setTop (mkF m 10 #[.val (.int (32768 : Int32)), .val (.int d)] [(.int d)])) _
    exact own_retI X0 hx Bd.returns (hb hby d4_10) hr
  · exact ⟨rfl, N0, e0⟩
theorem d3_0 : decode jdk_29_method_65_code 0 = .ok (.iload_n 0, 1) := by decide +kernel
theorem d3_1 : decode jdk_29_method_65_code 1 = .ok (.iload_n 1, 1) := by decide +kernel
theorem d3_2 : decode jdk_29_method_65_code 2 = .ok (.if_icmp .lt 7, 3) := by decide +kernel
theorem d3_5 : decode jdk_29_method_65_code 5 = .ok (.iload_n 0, 1) := by decide +kernel
theorem d3_6 : decode jdk_29_method_65_code 6 = .ok (.goto 4, 3) := by decide +kernel
theorem d3_10 : decode jdk_29_method_65_code 10 = .ok (.ireturn, 1) := by decide +kernel
set_option maxRecDepth 65536 in
set_option maxHeartbeats 40000000 in
theorem rm3_3 (l : Launch) (Z : State) (a0 : Array Value) (hw : ∀ d ∈ tables_1, d.before a0 Z = true) (ws : List Jvm.Cond)  (d : Int32) (h0 : Heap) (n0 : Nat) (Z0 : n0 ≤ h0.size) (hS : Wd Z h0 ) :
    MetFree l (⟨"java/lang/Math", "max", "(II)I"⟩ : MethodName) (head1 (Jvm.Cond.code (⟨"java/lang/Math", "max", "(II)I"⟩ : MethodName) jdk_29_method_65_code 2 (some .int) :: ws) ({ frames := 0, cells := 0, slots := 0, locals := 0 } : Room)) (fun a U => a = #[(.int (1 : Int32)), (.int (1 : Int32))] ∧ Z.Warmed39 U.vm ∧ U.heap = h0) (fun _ _ _ _ _ => True) (fun _ U o U' => ∃ v L, o = .returned v ∧ QP (some (.int (1 : Int32))) h0 n0 v U'.heap L ∧ FrameEnd U o U' L ({ frames := 0, cells := 0, slots := 0, locals := 0 } : Room).cells ({ frames := 0, cells := 0, slots := 0, locals := 0 } : Room).slots) := by
  refine MetFree.of_bodySF (Jvm.Free.JP.mathPlain rfl (by decide +kernel)) hisR ?_
  intro p e s m args below meth c s₁ Bd hml0 hP hK
  obtain ⟨rfl, hZ, hh⟩ := hP
  have hx := Bd.exec
  have hby := Bd.bytes
  have hml : c.maxLocals = 2 := hml0
  have hown : s.vm.findClass "java/lang/Math" = some m.cls := findClass_of_methodNamed Bd.named
  have X0 : Stand p l e ({ frames := 0, cells := 0, slots := 0, locals := 0 } : Room) s m #[(.int (1 : Int32)), (.int (1 : Int32))] below meth c s₁ [] 0 0 := Stand.of_body Bd
  have e0 : s₁.heap = h0 := by rw [← hh, Bd.state]; rfl
  have N0 := Fr.nil n0
  have pre0 : ∀ t, Steps p.tables e below (s₁.setTop (mkF m 0 #[.val (.int (1 : Int32)), .val (.int (1 : Int32))] [])) t → Steps p.tables e below (s₁.setTop (entryFrame m #[(.int (1 : Int32)), (.int (1 : Int32))] 2)) t := fun t k => castTop (by first | (simp [entryFrame, mkF, argsToLocals, Value.category]; done) | rfl) k
  obtain ⟨fs, hr, hrun, hended, hW, hsame⟩ := X0.leave (v := some (.int (1 : Int32))) (fun h => by rw [Bd.returns] at h; cases h)
  refine ⟨_, _, pre0 _ ?_, hrun, hended, _, _, rfl, ?_, ⟨_, rfl⟩, hW, hsame.mono (by decide) (by decide)⟩
  · show Steps p.tables e below (s₁.setTop (mkF m 0 #[.val (.int (1 : Int32)), .val (.int (1 : Int32))] [])) _
    refine XS.iloadN X0.here hx rfl (hb hby d3_0) rfl ?_
    show Steps p.tables e below (s₁.setTop (mkF m 1 #[.val (.int (1 : Int32)), .val (.int (1 : Int32))] [(.int (1 : Int32))])) _
    refine XS.iloadN X0.here hx rfl (hb hby d3_1) rfl ?_
    show Steps p.tables e below (s₁.setTop (mkF m 2 #[.val (.int (1 : Int32)), .val (.int (1 : Int32))] [(.int (1 : Int32)), (.int (1 : Int32))])) _
    refine XS.icmpNo X0.here hx rfl (hb hby d3_2) rfl (flt (by decide : ¬ ((1 : Int32) < (1 : Int32)))).1 ?_
    show Steps p.tables e below (s₁.setTop (mkF m 5 #[.val (.int (1 : Int32)), .val (.int (1 : Int32))] [])) _
    refine XS.iloadN X0.here hx rfl (hb hby d3_5) rfl ?_
    show Steps p.tables e below (s₁.setTop (mkF m 6 #[.val (.int (1 : Int32)), .val (.int (1 : Int32))] [(.int (1 : Int32))])) _
    refine XS.goto X0.here hx rfl (pc0 := 6) (pc' := 10) rfl (hb hby d3_6) (by decide) (by decide) ?_
    show Steps p.tables e below (s₁.setTop (mkF m 10 #[.val (.int (1 : Int32)), .val (.int (1 : Int32))] [(.int (1 : Int32))])) _
    exact own_retI X0 hx Bd.returns (hb hby d3_10) hr
  · exact ⟨rfl, N0, e0⟩
theorem d3_9 : decode jdk_29_method_65_code 9 = .ok (.iload_n 1, 1) := by decide +kernel
set_option maxRecDepth 65536 in
set_option maxHeartbeats 40000000 in
theorem rm3_4 (l : Launch) (Z : State) (a0 : Array Value) (hw : ∀ d ∈ tables_1, d.before a0 Z = true) (ws : List Jvm.Cond)  (d : Int32) (h0 : Heap) (n0 : Nat) (Z0 : n0 ≤ h0.size) (hS : Wd Z h0 ) :
    MetFree l (⟨"java/lang/Math", "max", "(II)I"⟩ : MethodName) (head1 (Jvm.Cond.code (⟨"java/lang/Math", "max", "(II)I"⟩ : MethodName) jdk_29_method_65_code 2 (some .int) :: ws) ({ frames := 0, cells := 0, slots := 0, locals := 0 } : Room)) (fun a U => a = #[(.int (1 : Int32)), (.int (2 : Int32))] ∧ Z.Warmed39 U.vm ∧ U.heap = h0) (fun _ _ _ _ _ => True) (fun _ U o U' => ∃ v L, o = .returned v ∧ QP (some (.int (2 : Int32))) h0 n0 v U'.heap L ∧ FrameEnd U o U' L ({ frames := 0, cells := 0, slots := 0, locals := 0 } : Room).cells ({ frames := 0, cells := 0, slots := 0, locals := 0 } : Room).slots) := by
  refine MetFree.of_bodySF (Jvm.Free.JP.mathPlain rfl (by decide +kernel)) hisR ?_
  intro p e s m args below meth c s₁ Bd hml0 hP hK
  obtain ⟨rfl, hZ, hh⟩ := hP
  have hx := Bd.exec
  have hby := Bd.bytes
  have hml : c.maxLocals = 2 := hml0
  have hown : s.vm.findClass "java/lang/Math" = some m.cls := findClass_of_methodNamed Bd.named
  have X0 : Stand p l e ({ frames := 0, cells := 0, slots := 0, locals := 0 } : Room) s m #[(.int (1 : Int32)), (.int (2 : Int32))] below meth c s₁ [] 0 0 := Stand.of_body Bd
  have e0 : s₁.heap = h0 := by rw [← hh, Bd.state]; rfl
  have N0 := Fr.nil n0
  have pre0 : ∀ t, Steps p.tables e below (s₁.setTop (mkF m 0 #[.val (.int (1 : Int32)), .val (.int (2 : Int32))] [])) t → Steps p.tables e below (s₁.setTop (entryFrame m #[(.int (1 : Int32)), (.int (2 : Int32))] 2)) t := fun t k => castTop (by first | (simp [entryFrame, mkF, argsToLocals, Value.category]; done) | rfl) k
  obtain ⟨fs, hr, hrun, hended, hW, hsame⟩ := X0.leave (v := some (.int (2 : Int32))) (fun h => by rw [Bd.returns] at h; cases h)
  refine ⟨_, _, pre0 _ ?_, hrun, hended, _, _, rfl, ?_, ⟨_, rfl⟩, hW, hsame.mono (by decide) (by decide)⟩
  · show Steps p.tables e below (s₁.setTop (mkF m 0 #[.val (.int (1 : Int32)), .val (.int (2 : Int32))] [])) _
    refine XS.iloadN X0.here hx rfl (hb hby d3_0) rfl ?_
    show Steps p.tables e below (s₁.setTop (mkF m 1 #[.val (.int (1 : Int32)), .val (.int (2 : Int32))] [(.int (1 : Int32))])) _
    refine XS.iloadN X0.here hx rfl (hb hby d3_1) rfl ?_
    show Steps p.tables e below (s₁.setTop (mkF m 2 #[.val (.int (1 : Int32)), .val (.int (2 : Int32))] [(.int (2 : Int32)), (.int (1 : Int32))])) _
    refine XS.icmpYes X0.here hx rfl (pc0 := 2) (pc' := 9) rfl (hb hby d3_2) rfl (tlt (by decide : (1 : Int32) < (2 : Int32))).1 (by decide) (by decide) ?_
    show Steps p.tables e below (s₁.setTop (mkF m 9 #[.val (.int (1 : Int32)), .val (.int (2 : Int32))] [])) _
    refine XS.iloadN X0.here hx rfl (hb hby d3_9) rfl ?_
    show Steps p.tables e below (s₁.setTop (mkF m 10 #[.val (.int (1 : Int32)), .val (.int (2 : Int32))] [(.int (2 : Int32))])) _
    exact own_retI X0 hx Bd.returns (hb hby d3_10) hr
  · exact ⟨rfl, N0, e0⟩
set_option maxRecDepth 65536 in
set_option maxHeartbeats 40000000 in
theorem rm3_5 (l : Launch) (Z : State) (a0 : Array Value) (hw : ∀ d ∈ tables_1, d.before a0 Z = true) (ws : List Jvm.Cond)  (d : Int32) (h0 : Heap) (n0 : Nat) (Z0 : n0 ≤ h0.size) (hS : Wd Z h0 ) :
    MetFree l (⟨"java/lang/Math", "max", "(II)I"⟩ : MethodName) (head1 (Jvm.Cond.code (⟨"java/lang/Math", "max", "(II)I"⟩ : MethodName) jdk_29_method_65_code 2 (some .int) :: ws) ({ frames := 0, cells := 0, slots := 0, locals := 0 } : Room)) (fun a U => a = #[(.int (1 : Int32)), (.int (3 : Int32))] ∧ Z.Warmed39 U.vm ∧ U.heap = h0) (fun _ _ _ _ _ => True) (fun _ U o U' => ∃ v L, o = .returned v ∧ QP (some (.int (3 : Int32))) h0 n0 v U'.heap L ∧ FrameEnd U o U' L ({ frames := 0, cells := 0, slots := 0, locals := 0 } : Room).cells ({ frames := 0, cells := 0, slots := 0, locals := 0 } : Room).slots) := by
  refine MetFree.of_bodySF (Jvm.Free.JP.mathPlain rfl (by decide +kernel)) hisR ?_
  intro p e s m args below meth c s₁ Bd hml0 hP hK
  obtain ⟨rfl, hZ, hh⟩ := hP
  have hx := Bd.exec
  have hby := Bd.bytes
  have hml : c.maxLocals = 2 := hml0
  have hown : s.vm.findClass "java/lang/Math" = some m.cls := findClass_of_methodNamed Bd.named
  have X0 : Stand p l e ({ frames := 0, cells := 0, slots := 0, locals := 0 } : Room) s m #[(.int (1 : Int32)), (.int (3 : Int32))] below meth c s₁ [] 0 0 := Stand.of_body Bd
  have e0 : s₁.heap = h0 := by rw [← hh, Bd.state]; rfl
  have N0 := Fr.nil n0
  have pre0 : ∀ t, Steps p.tables e below (s₁.setTop (mkF m 0 #[.val (.int (1 : Int32)), .val (.int (3 : Int32))] [])) t → Steps p.tables e below (s₁.setTop (entryFrame m #[(.int (1 : Int32)), (.int (3 : Int32))] 2)) t := fun t k => castTop (by first | (simp [entryFrame, mkF, argsToLocals, Value.category]; done) | rfl) k
  obtain ⟨fs, hr, hrun, hended, hW, hsame⟩ := X0.leave (v := some (.int (3 : Int32))) (fun h => by rw [Bd.returns] at h; cases h)
  refine ⟨_, _, pre0 _ ?_, hrun, hended, _, _, rfl, ?_, ⟨_, rfl⟩, hW, hsame.mono (by decide) (by decide)⟩
  · show Steps p.tables e below (s₁.setTop (mkF m 0 #[.val (.int (1 : Int32)), .val (.int (3 : Int32))] [])) _
    refine XS.iloadN X0.here hx rfl (hb hby d3_0) rfl ?_
    show Steps p.tables e below (s₁.setTop (mkF m 1 #[.val (.int (1 : Int32)), .val (.int (3 : Int32))] [(.int (1 : Int32))])) _
    refine XS.iloadN X0.here hx rfl (hb hby d3_1) rfl ?_
    show Steps p.tables e below (s₁.setTop (mkF m 2 #[.val (.int (1 : Int32)), .val (.int (3 : Int32))] [(.int (3 : Int32)), (.int (1 : Int32))])) _
    refine XS.icmpYes X0.here hx rfl (pc0 := 2) (pc' := 9) rfl (hb hby d3_2) rfl (tlt (by decide : (1 : Int32) < (3 : Int32))).1 (by decide) (by decide) ?_
    show Steps p.tables e below (s₁.setTop (mkF m 9 #[.val (.int (1 : Int32)), .val (.int (3 : Int32))] [])) _
    refine XS.iloadN X0.here hx rfl (hb hby d3_9) rfl ?_
    show Steps p.tables e below (s₁.setTop (mkF m 10 #[.val (.int (1 : Int32)), .val (.int (3 : Int32))] [(.int (3 : Int32))])) _
    exact own_retI X0 hx Bd.returns (hb hby d3_10) hr
  · exact ⟨rfl, N0, e0⟩
set_option maxRecDepth 65536 in
set_option maxHeartbeats 40000000 in
theorem rm3_6 (l : Launch) (Z : State) (a0 : Array Value) (hw : ∀ d ∈ tables_1, d.before a0 Z = true) (ws : List Jvm.Cond)  (d : Int32) (h0 : Heap) (n0 : Nat) (Z0 : n0 ≤ h0.size) (hS : Wd Z h0 ) :
    MetFree l (⟨"java/lang/Math", "max", "(II)I"⟩ : MethodName) (head1 (Jvm.Cond.code (⟨"java/lang/Math", "max", "(II)I"⟩ : MethodName) jdk_29_method_65_code 2 (some .int) :: ws) ({ frames := 0, cells := 0, slots := 0, locals := 0 } : Room)) (fun a U => a = #[(.int (1 : Int32)), (.int (4 : Int32))] ∧ Z.Warmed39 U.vm ∧ U.heap = h0) (fun _ _ _ _ _ => True) (fun _ U o U' => ∃ v L, o = .returned v ∧ QP (some (.int (4 : Int32))) h0 n0 v U'.heap L ∧ FrameEnd U o U' L ({ frames := 0, cells := 0, slots := 0, locals := 0 } : Room).cells ({ frames := 0, cells := 0, slots := 0, locals := 0 } : Room).slots) := by
  refine MetFree.of_bodySF (Jvm.Free.JP.mathPlain rfl (by decide +kernel)) hisR ?_
  intro p e s m args below meth c s₁ Bd hml0 hP hK
  obtain ⟨rfl, hZ, hh⟩ := hP
  have hx := Bd.exec
  have hby := Bd.bytes
  have hml : c.maxLocals = 2 := hml0
  have hown : s.vm.findClass "java/lang/Math" = some m.cls := findClass_of_methodNamed Bd.named
  have X0 : Stand p l e ({ frames := 0, cells := 0, slots := 0, locals := 0 } : Room) s m #[(.int (1 : Int32)), (.int (4 : Int32))] below meth c s₁ [] 0 0 := Stand.of_body Bd
  have e0 : s₁.heap = h0 := by rw [← hh, Bd.state]; rfl
  have N0 := Fr.nil n0
  have pre0 : ∀ t, Steps p.tables e below (s₁.setTop (mkF m 0 #[.val (.int (1 : Int32)), .val (.int (4 : Int32))] [])) t → Steps p.tables e below (s₁.setTop (entryFrame m #[(.int (1 : Int32)), (.int (4 : Int32))] 2)) t := fun t k => castTop (by first | (simp [entryFrame, mkF, argsToLocals, Value.category]; done) | rfl) k
  obtain ⟨fs, hr, hrun, hended, hW, hsame⟩ := X0.leave (v := some (.int (4 : Int32))) (fun h => by rw [Bd.returns] at h; cases h)
  refine ⟨_, _, pre0 _ ?_, hrun, hended, _, _, rfl, ?_, ⟨_, rfl⟩, hW, hsame.mono (by decide) (by decide)⟩
  · show Steps p.tables e below (s₁.setTop (mkF m 0 #[.val (.int (1 : Int32)), .val (.int (4 : Int32))] [])) _
    refine XS.iloadN X0.here hx rfl (hb hby d3_0) rfl ?_
    show Steps p.tables e below (s₁.setTop (mkF m 1 #[.val (.int (1 : Int32)), .val (.int (4 : Int32))] [(.int (1 : Int32))])) _
    refine XS.iloadN X0.here hx rfl (hb hby d3_1) rfl ?_
    show Steps p.tables e below (s₁.setTop (mkF m 2 #[.val (.int (1 : Int32)), .val (.int (4 : Int32))] [(.int (4 : Int32)), (.int (1 : Int32))])) _
    refine XS.icmpYes X0.here hx rfl (pc0 := 2) (pc' := 9) rfl (hb hby d3_2) rfl (tlt (by decide : (1 : Int32) < (4 : Int32))).1 (by decide) (by decide) ?_
    show Steps p.tables e below (s₁.setTop (mkF m 9 #[.val (.int (1 : Int32)), .val (.int (4 : Int32))] [])) _
    refine XS.iloadN X0.here hx rfl (hb hby d3_9) rfl ?_
    show Steps p.tables e below (s₁.setTop (mkF m 10 #[.val (.int (1 : Int32)), .val (.int (4 : Int32))] [(.int (4 : Int32))])) _
    exact own_retI X0 hx Bd.returns (hb hby d3_10) hr
  · exact ⟨rfl, N0, e0⟩
theorem minB (l : Launch) (Z : State) (a0 : Array Value) (hw : ∀ d ∈ tables_1, d.before a0 Z = true) (ws : List Jvm.Cond) (d : Int32) (h0 : Heap) (n0 : Nat) (Z0 : n0 ≤ h0.size) (hb : ¬ ((32768 : Int32) < d)) :
    MetFree l (⟨"java/lang/Math", "min", "(II)I"⟩ : MethodName) (head1 (Jvm.Cond.code (⟨"java/lang/Math", "min", "(II)I"⟩ : MethodName) jdk_29_method_69_code 2 (some .int) :: ws) ({ frames := 0, cells := 0, slots := 0, locals := 0 } : Room)) (fun a U => a = #[(.int (32768 : Int32)), (.int d)] ∧ Z.Warmed39 U.vm ∧ U.heap = h0) (fun _ _ _ _ _ => True) (fun _ U o U' => ∃ v L, o = .returned v ∧ QP (some (.int d)) h0 n0 v U'.heap L ∧ FrameEnd U o U' L ({ frames := 0, cells := 0, slots := 0, locals := 0 } : Room).cells ({ frames := 0, cells := 0, slots := 0, locals := 0 } : Room).slots) := by
  by_cases hd : d < (32768 : Int32)
  · exact rm4_2 l Z a0 hw ws d h0 n0 Z0 trivial hd
  · have e : d = (32768 : Int32) := by
      rw [Int32.lt_iff_toInt_lt] at hb hd
      exact Int32.toInt_inj.mp (by omega)
    subst e
    exact rm4_1 l Z a0 hw ws _ h0 n0 Z0 trivial hd
def QI (Z : State) (t : Addr) (n : Int32) (h0 : Heap) (n0 : Nat) (v : Option Value) (h : Heap) (L : List Loc) : Prop := v = none ∧ Fr n0 L ∧ Keep h0 h [t] ∧ ∃ (ch : Addr) (cs : Nat → Addr), Iv Z h n0 t ch n cs (fun _ => 0)
def own_cs (b0 b1 b2 b3 : Addr) (q : Nat) : Addr := match q with | 0 => b0 | 1 => b1 | 2 => b2 | _ => b3
theorem d1_0 : decode prog_43_method_2_code 0 = .ok (.aload_n 0, 1) := by decide +kernel
theorem d1_1 : decode prog_43_method_2_code 1 = .ok (.invokespecial 3, 3) := by decide +kernel
theorem d1_4 : decode prog_43_method_2_code 4 = .ok (.iload_n 1, 1) := by decide +kernel
theorem d1_5 : decode prog_43_method_2_code 5 = .ok (.i2l, 1) := by decide +kernel
theorem d1_6 : decode prog_43_method_2_code 6 = .ok (.ldc2_w 15, 3) := by decide +kernel
theorem d1_9 : decode prog_43_method_2_code 9 = .ok (.ladd, 1) := by decide +kernel
theorem d1_10 : decode prog_43_method_2_code 10 = .ok (.lconst 1, 1) := by decide +kernel
theorem d1_11 : decode prog_43_method_2_code 11 = .ok (.lsub, 1) := by decide +kernel
theorem d1_12 : decode prog_43_method_2_code 12 = .ok (.bipush 15, 2) := by decide +kernel
theorem d1_14 : decode prog_43_method_2_code 14 = .ok (.lushr, 1) := by decide +kernel
theorem d1_15 : decode prog_43_method_2_code 15 = .ok (.l2i, 1) := by decide +kernel
theorem d1_16 : decode prog_43_method_2_code 16 = .ok (.istore_n 2, 1) := by decide +kernel
theorem d1_17 : decode prog_43_method_2_code 17 = .ok (.aload_n 0, 1) := by decide +kernel
theorem d1_18 : decode prog_43_method_2_code 18 = .ok (.iconst 1, 1) := by decide +kernel
theorem d1_19 : decode prog_43_method_2_code 19 = .ok (.iload_n 2, 1) := by decide +kernel
theorem pd_0 : parseMethodDescriptor "(II)I" = some ⟨[.int, .int], some .int⟩ := by decide +kernel
theorem d1_20 : decode prog_43_method_2_code 20 = .ok (.invokestatic 17, 3) := by decide +kernel
theorem d1_23 : decode prog_43_method_2_code 23 = .ok (.anewarray 9, 3) := by decide +kernel
theorem d1_26 : decode prog_43_method_2_code 26 = .ok (.putfield 11, 3) := by decide +kernel
theorem d1_29 : decode prog_43_method_2_code 29 = .ok (.iconst 0, 1) := by decide +kernel
theorem d1_30 : decode prog_43_method_2_code 30 = .ok (.istore_n 3, 1) := by decide +kernel
theorem d1_31 : decode prog_43_method_2_code 31 = .ok (.iload_n 3, 1) := by decide +kernel
theorem d1_32 : decode prog_43_method_2_code 32 = .ok (.iload_n 2, 1) := by decide +kernel
theorem d1_33 : decode prog_43_method_2_code 33 = .ok (.if_icmp .ge 28, 3) := by decide +kernel
theorem d1_36 : decode prog_43_method_2_code 36 = .ok (.aload_n 0, 1) := by decide +kernel
theorem d1_37 : decode prog_43_method_2_code 37 = .ok (.getfield 11, 3) := by decide +kernel
theorem d1_40 : decode prog_43_method_2_code 40 = .ok (.iload_n 3, 1) := by decide +kernel
theorem d1_41 : decode prog_43_method_2_code 41 = .ok (.ldc 23, 2) := by decide +kernel
theorem d1_43 : decode prog_43_method_2_code 43 = .ok (.iload_n 1, 1) := by decide +kernel
theorem d1_44 : decode prog_43_method_2_code 44 = .ok (.iload_n 3, 1) := by decide +kernel
theorem d1_45 : decode prog_43_method_2_code 45 = .ok (.ldc 23, 2) := by decide +kernel
theorem d1_47 : decode prog_43_method_2_code 47 = .ok (.imul, 1) := by decide +kernel
theorem d1_48 : decode prog_43_method_2_code 48 = .ok (.isub, 1) := by decide +kernel
theorem d1_49 : decode prog_43_method_2_code 49 = .ok (.invokestatic 24, 3) := by decide +kernel
theorem d1_52 : decode prog_43_method_2_code 52 = .ok (.newarray .long, 2) := by decide +kernel
theorem d1_54 : decode prog_43_method_2_code 54 = .ok (.aastore, 1) := by decide +kernel
theorem d1_55 : decode prog_43_method_2_code 55 = .ok (.iinc 3 1, 3) := by decide +kernel
theorem d1_58 : decode prog_43_method_2_code 58 = .ok (.goto (-27), 3) := by decide +kernel
theorem d1_61 : decode prog_43_method_2_code 61 = .ok (.aload_n 0, 1) := by decide +kernel
theorem d1_62 : decode prog_43_method_2_code 62 = .ok (.iload_n 1, 1) := by decide +kernel
theorem d1_63 : decode prog_43_method_2_code 63 = .ok (.putfield 27, 3) := by decide +kernel
theorem d1_66 : decode prog_43_method_2_code 66 = .ok (.return_, 1) := by decide +kernel
theorem pn_com_example_reachmark_reachmark_label_Intervals : plainName "com/example/reachmark/reachmark/label/Intervals" = true := by first | (simp [plainName, overriddenIn]; done) | decide +kernel
set_option maxRecDepth 65536 in
set_option maxHeartbeats 40000000 in
theorem rmInit1 (l : Launch) (Z : State) (a0 : Array Value) (hw : ∀ d ∈ tables_1, d.before a0 Z = true) (ws : List Jvm.Cond) (t : Addr) (n : Int32) (h0 : Heap) (n0 : Nat) (Z0 : n0 ≤ h0.size) (E_t : Exa Z h0 t "com/example/reachmark/reachmark/label/Intervals") (F_ch : Fld Z h0 t "com/example/reachmark/reachmark/label/Intervals" "chunks" "[[J" .null) (F_sz : Fld Z h0 t "com/example/reachmark/reachmark/label/Intervals" "size" "I" (.int (0 : Int32))) (g_t : n0 ≤ t) (hlo : 0 < n.toInt) (hhi : n.toInt ≤ 32768) :
    MetFree l (⟨"com/example/reachmark/reachmark/label/Intervals", "<init>", "(I)V"⟩ : MethodName) (head1 (Jvm.Cond.code (⟨"com/example/reachmark/reachmark/label/Intervals", "<init>", "(I)V"⟩ : MethodName) prog_43_method_2_code 4 none :: ws) ({ frames := 1, cells := 5, slots := 131076, locals := 15 } : Room)) (fun a U => a = #[(.ref t), (.int n)] ∧ Z.Warmed39 U.vm ∧ U.heap = h0) (fun _ _ _ _ _ => True) (fun _ U o U' => ∃ v L, o = .returned v ∧ QI Z t n h0 n0 v U'.heap L ∧ FrameEnd U o U' L ({ frames := 1, cells := 5, slots := 131076, locals := 15 } : Room).cells ({ frames := 1, cells := 5, slots := 131076, locals := 15 } : Room).slots) := by
  have hcnt : (((((n.toInt64) + (32768 : Int64)) - (1 : Int64)).toUInt64 >>> ((15 : Int32) &&& 0x3f).toInt64.toUInt64).toInt64).toInt32 = (1 : Int32) := by
    have e := own_cnt n (by omega) (by omega)
    have e1 : (1 : Int32).toInt = 1 := rfl
    exact Int32.toInt_inj.mp (by rw [e, e1]; omega)
  have hp0 : ((0 : Int32) * (32768 : Int32)).toInt = 0 := rfl
  have hs0 := Jvm.Kit.i32_sub (p := n) (q := (0 : Int32) * (32768 : Int32)) (by omega) (by omega)
  obtain ⟨m, hm⟩ : ∃ m, (n - ((0 : Int32) * (32768 : Int32))) = m := ⟨_, rfl⟩
  rw [hm] at hs0
  have hmB : ¬ ((32768 : Int32) < m) := by
    have e1 : (32768 : Int32).toInt = 32768 := rfl
    rw [Int32.lt_iff_toInt_lt]; omega
  have hmI : m.toInt = n.toInt - ((0 : Nat) : Int) * 32768 := by omega
  have hm0 : ¬ (m < 0) := own_nz (by omega)
  have hmc : m.toNatClampNeg ≤ 32768 := by rw [own_cl]; omega
  refine MetFree.of_bodySF (plainFor_of_name pn_com_example_reachmark_reachmark_label_Intervals) hisR ?_
  intro p e s mi args below meth c s₁ Bd hml0 hP hK
  obtain ⟨rfl, hZ, hh⟩ := hP
  have hx := Bd.exec
  have hby := Bd.bytes
  have hml : c.maxLocals = 4 := hml0
  have hown : s.vm.findClass "com/example/reachmark/reachmark/label/Intervals" = some mi.cls := findClass_of_methodNamed Bd.named
  have X0 : Stand p l e ({ frames := 1, cells := 5, slots := 131076, locals := 15 } : Room) s mi #[(.ref t), (.int n)] below meth c s₁ [] 0 0 := Stand.of_body Bd
  have e0 : s₁.heap = h0 := by rw [← hh, Bd.state]; rfl
  have N0 := Fr.nil n0
  have KK0 : Keep h0 h0 [t] := Keep.refl h0 [t]
  have pre0 : ∀ u, Steps p.tables e below (s₁.setTop (mkF mi 0 #[.val (.ref t), .val (.int n), .unset, .unset] [])) u → Steps p.tables e below (s₁.setTop (entryFrame mi #[(.ref t), (.int n)] 4)) u := fun u k => castTop (by first | (simp [entryFrame, mkF, argsToLocals, Value.category]; done) | rfl) k
  obtain ⟨T1, X1, e1, st1⟩ := initO X0 hx hZ hown (hw _ (List.mem_of_getElem? (i := 8) rfl)) (hw _ (List.mem_of_getElem? (i := 9) rfl)) (hw _ (List.mem_of_getElem? (i := 10) rfl)) e0 (g := (mkF mi 1 #[.val (.ref t), .val (.int n), .unset, .unset] [(.ref t)])) rfl (by rw [hml]; rfl) rfl (hb hby d1_1) (by decide) (W := 0) (by show 2 * 0 + _ ≤ _; exact Nat.le_of_eq rfl) (by decide)
  obtain ⟨_, _, ⟨T2, L2, k2, n2⟩, -, X2, ⟨Lc2, hQ2, l2, y2, z2⟩, st2⟩ := Jvm.LawKit.callS X1 hx (y := (⟨"java/lang/Math", "max", "(II)I"⟩ : MethodName)) hown (mvT hZ (hw _ (List.mem_of_getElem? (i := 12) rfl))) (mvT hZ (hw _ (List.mem_of_getElem? (i := 13) rfl))) (mvT hZ (hw _ (List.mem_of_getElem? (i := 14) rfl))) (mvT hZ (hw _ (List.mem_of_getElem? (i := 15) rfl))) (by decide) (backOf (W := 1) (rm3_3 l Z a0 hw [] (0 : Int32) h0 n0 (Nat.le_trans Z0 KK0.1) trivial) hZ (hw _ (List.mem_of_getElem? (i := 15) rfl)) (hw _ (List.mem_of_getElem? (i := 14) rfl)) (by decide) (by decide)) (g := (mkF mi 20 #[.val (.ref t), .val (.int n), .val (.int (1 : Int32)), .unset] [(.int (1 : Int32)), (.int (1 : Int32)), (.ref t)])) rfl (by rw [hml]; rfl) (argsL := [(.int (1 : Int32)), (.int (1 : Int32))]) (rest := [(.ref t)]) (lenOf pd_0 rfl) rfl (by show 2 * 0 + _ ≤ _; exact Nat.le_of_eq rfl) (hb hby d1_20) (fun _ _ => ⟨rfl, e1, (by decide : 0 + 0 ≤ _), (by decide : 0 + 0 ≤ _)⟩)
  dsimp only [Pt.U, Pt.locs, Pt.cells, Pt.slots] at X2 l2 y2 z2 st2 hQ2
  subst l2 y2 z2
  obtain ⟨rfl, N2q, e2⟩ := hQ2
  have N2 := Fr.app N0 N2q
  obtain ⟨T3, h3, k3, X3, e3, E3, A3, EA3, O3, st3⟩ := newRA X2 hx hZ (ty := .long) hown (C := "[J") rfl (hw _ (List.mem_of_getElem? (i := 16) rfl)) (hw _ (List.mem_of_getElem? (i := 17) rfl)) e2 (g := (mkF mi 23 #[.val (.ref t), .val (.int n), .val (.int (1 : Int32)), .unset] [(.int (1 : Int32)), (.ref t)])) rfl (hb hby d1_23) rfl (by decide) (cap := 4) (by decide) (by decide) (by decide) (by decide) (ad := "[[J") rfl
  obtain ⟨ch, g3⟩ : ∃ z, z = h0.size := ⟨_, rfl⟩
  rw [← g3] at A3 st3
  have ne_t_ch : t ≠ ch := Nat.ne_of_lt (Nat.lt_of_lt_of_le E_t.lt (Nat.le_of_eq g3.symm))
  have sz_ch : h0.size ≤ ch := Nat.le_trans KK0.1 (Nat.le_of_eq g3.symm)
  have g_ch : n0 ≤ ch := Nat.le_trans Z0 sz_ch
  have E_t_x3 := E_t.ext E3
  have F_ch_x3 := F_ch.ext E3
  have F_sz_x3 := F_sz.ext E3
  have KK3 : Keep h0 h3 [t] := KK0.ext E3
  have V_ch : Arv Z h3 ch k3 (.array .long) (1 : Int32) [.null] .null := (Arv.new A3 (by decide)).pad (pad_rep [] .null 1)
  obtain ⟨T4, h4, X4, e4, W4, st4⟩ := putF X3 hx hZ hown (host := "") (Or.inl (hw _ (List.mem_of_getElem? (i := 18) rfl))) Via.refl e3 F_ch_x3 E_t_x3 (Or.inl (hw _ (List.mem_of_getElem? (i := 19) rfl))) (hw _ (List.mem_of_getElem? (i := 3) rfl)) (ty := (.array (.array .long))) (by decide) rfl rfl (g := (mkF mi 26 #[.val (.ref t), .val (.int n), .val (.int (1 : Int32)), .unset] [(.ref ch), (.ref t)])) rfl rfl (hb hby d1_26)
  have E_t_w4 := E_t_x3.wr W4
  have F_ch_w4 := F_ch_x3.same W4
  have F_sz_w4 := F_sz_x3.other W4 (Or.inr (slot_ne (Or.inl (hw _ (List.mem_of_getElem? (i := 27) rfl))) (Or.inl (hw _ (List.mem_of_getElem? (i := 19) rfl))) (by decide) (t := .int) (t' := (.array (.array .long))) (by decide) (by decide)))
  have V_ch_w4 := V_ch.other W4 (Ne.symm ne_t_ch)
  have KK4 : Keep h0 h4 [t] := KK3.wr W4 (Or.inl (List.mem_of_getElem? (i := 0) rfl))
  have N4 := Fr.snoc X4 N2 g_t
  obtain ⟨T5, X5, e5, st5⟩ := getF X4 hx hZ hown (host := "") (Or.inl (hw _ (List.mem_of_getElem? (i := 18) rfl))) Via.refl e4 F_ch_w4 (g := (mkF mi 37 #[.val (.ref t), .val (.int n), .val (.int (1 : Int32)), .val (.int (0 : Int32))] [(.ref t)])) rfl rfl (hb hby d1_37)
  obtain ⟨_, _, ⟨T6, L6, k6, n6⟩, -, X6, ⟨Lc6, hQ6, l6, y6, z6⟩, st6⟩ := Jvm.LawKit.callS X5 hx (y := (⟨"java/lang/Math", "min", "(II)I"⟩ : MethodName)) hown (mvT hZ (hw _ (List.mem_of_getElem? (i := 21) rfl))) (mvT hZ (hw _ (List.mem_of_getElem? (i := 22) rfl))) (mvT hZ (hw _ (List.mem_of_getElem? (i := 14) rfl))) (mvT hZ (hw _ (List.mem_of_getElem? (i := 23) rfl))) (by decide) (backOf (W := 2) (minB l Z a0 hw [] m h4 n0 (Nat.le_trans Z0 KK4.1) hmB) hZ (hw _ (List.mem_of_getElem? (i := 23) rfl)) (hw _ (List.mem_of_getElem? (i := 14) rfl)) (by decide) (by decide)) (g := (mkF mi 49 #[.val (.ref t), .val (.int n), .val (.int (1 : Int32)), .val (.int (0 : Int32))] [(.int m), (.int (32768 : Int32)), (.int (0 : Int32)), (.ref ch)])) rfl (by rw [hml]; rfl) (argsL := [(.int (32768 : Int32)), (.int m)]) (rest := [(.int (0 : Int32)), (.ref ch)]) (lenOf pd_0 rfl) rfl (by show 2 * 0 + _ ≤ _; exact Nat.le_of_eq rfl) (hb hby d1_49) (fun _ _ => ⟨rfl, e5, (by decide : 1 + 0 ≤ _), (by decide : 4 + 0 ≤ _)⟩)
  dsimp only [Pt.U, Pt.locs, Pt.cells, Pt.slots] at X6 l6 y6 z6 st6 hQ6
  subst l6 y6 z6
  obtain ⟨rfl, N6q, e6⟩ := hQ6
  have N6 := Fr.app N4 N6q
  obtain ⟨T7, h7, k7, X7, e7, E7, A7, EA7, st7⟩ := newPE X6 hx hZ (hw _ (List.mem_of_getElem? (i := 24) rfl)) e6 (g := (mkF mi 52 #[.val (.ref t), .val (.int n), .val (.int (1 : Int32)), .val (.int (0 : Int32))] [(.int m), (.int (0 : Int32)), (.ref ch)])) rfl (hb hby d1_52) rfl hm0 (cap := 32768) hmc (by decide) (by decide) (by decide) (ad := "[J") (by decide)
  obtain ⟨b0, g7⟩ : ∃ z, z = h4.size := ⟨_, rfl⟩
  rw [← g7] at A7 EA7 st7
  have ne_t_b0 : t ≠ b0 := Nat.ne_of_lt (Nat.lt_of_lt_of_le E_t_w4.lt (Nat.le_of_eq g7.symm))
  have ne_ch_b0 : ch ≠ b0 := Nat.ne_of_lt (Nat.lt_of_lt_of_le V_ch_w4.lt (Nat.le_of_eq g7.symm))
  have sz_b0 : h0.size ≤ b0 := Nat.le_trans KK4.1 (Nat.le_of_eq g7.symm)
  have g_b0 : n0 ≤ b0 := Nat.le_trans Z0 sz_b0
  have E_t_x7 := E_t_w4.ext E7
  have F_ch_x7 := F_ch_w4.ext E7
  have F_sz_x7 := F_sz_w4.ext E7
  have V_ch_x7 := V_ch_w4.ext E7
  have KK7 : Keep h0 h7 [t] := KK4.ext E7
  have V_b0 : Arv Z h7 b0 k7 .long m [] (.long (0 : Int64)) := Arv.new A7 hm0
  have E_b0 : Exa Z h7 b0 "[J" := EA7
  obtain ⟨cl8, Ar8, qq8, Sz8, Ng8, Hs8, Gf8⟩ := V_ch_x7
  have hin8 : ¬ ((0 : Int32) < 0 ∨ cl8.slots.size ≤ ((0 : Int32)).toNatClampNeg) := inb_of Sz8 ⟨by decide, by decide⟩
  obtain ⟨T9, h9, X9, e9, W9, st9⟩ := stR X7 hx hZ e7 Ar8 (j := (0 : Int32)) hin8 rfl (Sto.ofVA Ar8 qq8 O3 (Ins.self E_b0)) (g := (mkF mi 54 #[.val (.ref t), .val (.int n), .val (.int (1 : Int32)), .val (.int (0 : Int32))] [(.ref b0), (.int (0 : Int32)), (.ref ch)])) rfl rfl (hb hby d1_54)
  have E_t_w9 := E_t_x7.wr W9
  have F_ch_w9 := F_ch_x7.other W9 (Or.inl ne_t_ch)
  have F_sz_w9 := F_sz_x7.other W9 (Or.inl ne_t_ch)
  have V_b0_w9 := V_b0.other W9 (Ne.symm ne_ch_b0)
  have E_b0_w9 := E_b0.wr W9
  have KK9 : Keep h0 h9 [t] := KK7.wr W9 (Or.inr sz_ch)
  have N9 := Fr.snoc X9 N6 g_ch
  have V_ch_w9 : Arv Z h9 ch k3 (.array .long) (1 : Int32) [(.ref b0)] .null := Arv.set Ar8 qq8 Sz8 Ng8 Hs8 Gf8 rfl W9 0 rfl (Nat.le_of_ble_eq_true rfl)
  obtain ⟨T10, h10, X10, e10, W10, st10⟩ := putF X9 hx hZ hown (host := "") (Or.inl (hw _ (List.mem_of_getElem? (i := 26) rfl))) Via.refl e9 F_sz_w9 E_t_w9 (Or.inl (hw _ (List.mem_of_getElem? (i := 27) rfl))) (hw _ (List.mem_of_getElem? (i := 3) rfl)) (ty := .int) (by decide) rfl rfl (g := (mkF mi 63 #[.val (.ref t), .val (.int n), .val (.int (1 : Int32)), .val (.int (1 : Int32))] [(.int n), (.ref t)])) rfl rfl (hb hby d1_63)
  have E_t_w10 := E_t_w9.wr W10
  have F_ch_w10 := F_ch_w9.other W10 (Or.inr (slot_ne (Or.inl (hw _ (List.mem_of_getElem? (i := 19) rfl))) (Or.inl (hw _ (List.mem_of_getElem? (i := 27) rfl))) (by decide) (t := (.array (.array .long))) (t' := .int) (by decide) (by decide)))
  have F_sz_w10 := F_sz_w9.same W10
  have V_b0_w10 := V_b0_w9.other W10 (Ne.symm ne_t_b0)
  have E_b0_w10 := E_b0_w9.wr W10
  have V_ch_w10 := V_ch_w9.other W10 (Ne.symm ne_t_ch)
  have KK10 : Keep h0 h10 [t] := KK9.wr W10 (Or.inl (List.mem_of_getElem? (i := 0) rfl))
  have N10 := Fr.snoc X10 N9 g_t
  obtain ⟨fs, hr, hrun, hended, hW, hsame⟩ := X10.leave (v := none) (fun _ => rfl)
  refine ⟨_, _, pre0 _ ?_, hrun, hended, _, _, rfl, ?_, ⟨_, rfl⟩, hW, hsame.mono (by decide) (by decide)⟩
  · show Steps p.tables e below (s₁.setTop (mkF mi 0 #[.val (.ref t), .val (.int n), .unset, .unset] [])) _
    refine XS.aloadN X0.here hx rfl (hb hby d1_0) rfl rfl ?_
    show Steps p.tables e below (s₁.setTop (mkF mi 1 #[.val (.ref t), .val (.int n), .unset, .unset] [(.ref t)])) _
    refine st1 _ ?_
    show Steps p.tables e below (T1.setTop (mkF mi 4 #[.val (.ref t), .val (.int n), .unset, .unset] [])) _
    refine XS.iloadN X1.here hx rfl (hb hby d1_4) rfl ?_
    show Steps p.tables e below (T1.setTop (mkF mi 5 #[.val (.ref t), .val (.int n), .unset, .unset] [(.int n)])) _
    refine XS.i2l X1.here hx rfl (hb hby d1_5) rfl ?_
    show Steps p.tables e below (T1.setTop (mkF mi 6 #[.val (.ref t), .val (.int n), .unset, .unset] [(.long (n.toInt64))])) _
    refine X1.ldc2Long hx hown (mvT hZ (hw _ (List.mem_of_getElem? (i := 11) rfl))) (g := (mkF mi 6 #[.val (.ref t), .val (.int n), .unset, .unset] [(.long (n.toInt64))])) rfl (hb hby d1_6) _ ?_
    show Steps p.tables e below (T1.setTop (mkF mi 9 #[.val (.ref t), .val (.int n), .unset, .unset] [(.long (32768 : Int64)), (.long (n.toInt64))])) _
    refine XS.ladd X1.here hx rfl (hb hby d1_9) rfl ?_
    show Steps p.tables e below (T1.setTop (mkF mi 10 #[.val (.ref t), .val (.int n), .unset, .unset] [(.long ((n.toInt64) + (32768 : Int64)))])) _
    refine XS.lconst X1.here hx rfl (hb hby d1_10) ?_
    show Steps p.tables e below (T1.setTop (mkF mi 11 #[.val (.ref t), .val (.int n), .unset, .unset] [(.long (1 : Int64)), (.long ((n.toInt64) + (32768 : Int64)))])) _
    refine XS.lsub X1.here hx rfl (hb hby d1_11) rfl ?_
    show Steps p.tables e below (T1.setTop (mkF mi 12 #[.val (.ref t), .val (.int n), .unset, .unset] [(.long (((n.toInt64) + (32768 : Int64)) - (1 : Int64)))])) _
    refine XS.bipush X1.here hx rfl (hb hby d1_12) ?_
    show Steps p.tables e below (T1.setTop (mkF mi 14 #[.val (.ref t), .val (.int n), .unset, .unset] [(.int (15 : Int32)), (.long (((n.toInt64) + (32768 : Int64)) - (1 : Int64)))])) _
    refine XS.lushr X1.here hx rfl (hb hby d1_14) rfl ?_
    show Steps p.tables e below (T1.setTop (mkF mi 15 #[.val (.ref t), .val (.int n), .unset, .unset] [(.long (((((n.toInt64) + (32768 : Int64)) - (1 : Int64)).toUInt64 >>> ((15 : Int32) &&& 0x3f).toInt64.toUInt64).toInt64))])) _
    refine XS.l2i X1.here hx rfl (hb hby d1_15) rfl ?_
    rw [hcnt]
    show Steps p.tables e below (T1.setTop (mkF mi 16 #[.val (.ref t), .val (.int n), .unset, .unset] [(.int (1 : Int32))])) _
    refine XS.istoreN X1.here hx rfl (hb hby d1_16) rfl (l' := #[.val (.ref t), .val (.int n), .val (.int (1 : Int32)), .unset]) rfl ?_
    show Steps p.tables e below (T1.setTop (mkF mi 17 #[.val (.ref t), .val (.int n), .val (.int (1 : Int32)), .unset] [])) _
    refine XS.aloadN X1.here hx rfl (hb hby d1_17) rfl rfl ?_
    show Steps p.tables e below (T1.setTop (mkF mi 18 #[.val (.ref t), .val (.int n), .val (.int (1 : Int32)), .unset] [(.ref t)])) _
    refine XS.iconst X1.here hx rfl (hb hby d1_18) ?_
    show Steps p.tables e below (T1.setTop (mkF mi 19 #[.val (.ref t), .val (.int n), .val (.int (1 : Int32)), .unset] [(.int (1 : Int32)), (.ref t)])) _
    refine XS.iloadN X1.here hx rfl (hb hby d1_19) rfl ?_
    show Steps p.tables e below (T1.setTop (mkF mi 20 #[.val (.ref t), .val (.int n), .val (.int (1 : Int32)), .unset] [(.int (1 : Int32)), (.int (1 : Int32)), (.ref t)])) _
    refine st2 _ ?_
    show Steps p.tables e below (T2.setTop (mkF mi 23 #[.val (.ref t), .val (.int n), .val (.int (1 : Int32)), .unset] [(.int (1 : Int32)), (.ref t)])) _
    refine st3 _ ?_
    show Steps p.tables e below (T3.setTop (mkF mi 26 #[.val (.ref t), .val (.int n), .val (.int (1 : Int32)), .unset] [(.ref ch), (.ref t)])) _
    refine st4 _ ?_
    show Steps p.tables e below (T4.setTop (mkF mi 29 #[.val (.ref t), .val (.int n), .val (.int (1 : Int32)), .unset] [])) _
    refine XS.iconst X4.here hx rfl (hb hby d1_29) ?_
    show Steps p.tables e below (T4.setTop (mkF mi 30 #[.val (.ref t), .val (.int n), .val (.int (1 : Int32)), .unset] [(.int (0 : Int32))])) _
    refine XS.istoreN X4.here hx rfl (hb hby d1_30) rfl (l' := #[.val (.ref t), .val (.int n), .val (.int (1 : Int32)), .val (.int (0 : Int32))]) rfl ?_
    show Steps p.tables e below (T4.setTop (mkF mi 31 #[.val (.ref t), .val (.int n), .val (.int (1 : Int32)), .val (.int (0 : Int32))] [])) _
    refine XS.iloadN X4.here hx rfl (hb hby d1_31) rfl ?_
    show Steps p.tables e below (T4.setTop (mkF mi 32 #[.val (.ref t), .val (.int n), .val (.int (1 : Int32)), .val (.int (0 : Int32))] [(.int (0 : Int32))])) _
    refine XS.iloadN X4.here hx rfl (hb hby d1_32) rfl ?_
    show Steps p.tables e below (T4.setTop (mkF mi 33 #[.val (.ref t), .val (.int n), .val (.int (1 : Int32)), .val (.int (0 : Int32))] [(.int (1 : Int32)), (.int (0 : Int32))])) _
    refine XS.icmpNo X4.here hx rfl (hb hby d1_33) rfl (tlt (by decide : (0 : Int32) < (1 : Int32))).2.1 ?_
    show Steps p.tables e below (T4.setTop (mkF mi 36 #[.val (.ref t), .val (.int n), .val (.int (1 : Int32)), .val (.int (0 : Int32))] [])) _
    refine XS.aloadN X4.here hx rfl (hb hby d1_36) rfl rfl ?_
    show Steps p.tables e below (T4.setTop (mkF mi 37 #[.val (.ref t), .val (.int n), .val (.int (1 : Int32)), .val (.int (0 : Int32))] [(.ref t)])) _
    refine st5 _ ?_
    show Steps p.tables e below (T5.setTop (mkF mi 40 #[.val (.ref t), .val (.int n), .val (.int (1 : Int32)), .val (.int (0 : Int32))] [(.ref ch)])) _
    refine XS.iloadN X5.here hx rfl (hb hby d1_40) rfl ?_
    show Steps p.tables e below (T5.setTop (mkF mi 41 #[.val (.ref t), .val (.int n), .val (.int (1 : Int32)), .val (.int (0 : Int32))] [(.int (0 : Int32)), (.ref ch)])) _
    refine X5.ldcInt hx hown (mvT hZ (hw _ (List.mem_of_getElem? (i := 20) rfl))) (g := (mkF mi 41 #[.val (.ref t), .val (.int n), .val (.int (1 : Int32)), .val (.int (0 : Int32))] [(.int (0 : Int32)), (.ref ch)])) rfl (hb hby d1_41) _ ?_
    show Steps p.tables e below (T5.setTop (mkF mi 43 #[.val (.ref t), .val (.int n), .val (.int (1 : Int32)), .val (.int (0 : Int32))] [(.int (32768 : Int32)), (.int (0 : Int32)), (.ref ch)])) _
    refine XS.iloadN X5.here hx rfl (hb hby d1_43) rfl ?_
    show Steps p.tables e below (T5.setTop (mkF mi 44 #[.val (.ref t), .val (.int n), .val (.int (1 : Int32)), .val (.int (0 : Int32))] [(.int n), (.int (32768 : Int32)), (.int (0 : Int32)), (.ref ch)])) _
    refine XS.iloadN X5.here hx rfl (hb hby d1_44) rfl ?_
    show Steps p.tables e below (T5.setTop (mkF mi 45 #[.val (.ref t), .val (.int n), .val (.int (1 : Int32)), .val (.int (0 : Int32))] [(.int (0 : Int32)), (.int n), (.int (32768 : Int32)), (.int (0 : Int32)), (.ref ch)])) _
    refine X5.ldcInt hx hown (mvT hZ (hw _ (List.mem_of_getElem? (i := 20) rfl))) (g := (mkF mi 45 #[.val (.ref t), .val (.int n), .val (.int (1 : Int32)), .val (.int (0 : Int32))] [(.int (0 : Int32)), (.int n), (.int (32768 : Int32)), (.int (0 : Int32)), (.ref ch)])) rfl (hb hby d1_45) _ ?_
    show Steps p.tables e below (T5.setTop (mkF mi 47 #[.val (.ref t), .val (.int n), .val (.int (1 : Int32)), .val (.int (0 : Int32))] [(.int (32768 : Int32)), (.int (0 : Int32)), (.int n), (.int (32768 : Int32)), (.int (0 : Int32)), (.ref ch)])) _
    refine XS.imul X5.here hx rfl (hb hby d1_47) rfl ?_
    show Steps p.tables e below (T5.setTop (mkF mi 48 #[.val (.ref t), .val (.int n), .val (.int (1 : Int32)), .val (.int (0 : Int32))] [(.int ((0 : Int32) * (32768 : Int32))), (.int n), (.int (32768 : Int32)), (.int (0 : Int32)), (.ref ch)])) _
    refine XS.isub X5.here hx rfl (hb hby d1_48) rfl ?_
    rw [hm]
    show Steps p.tables e below (T5.setTop (mkF mi 49 #[.val (.ref t), .val (.int n), .val (.int (1 : Int32)), .val (.int (0 : Int32))] [(.int m), (.int (32768 : Int32)), (.int (0 : Int32)), (.ref ch)])) _
    refine st6 _ ?_
    show Steps p.tables e below (T6.setTop (mkF mi 52 #[.val (.ref t), .val (.int n), .val (.int (1 : Int32)), .val (.int (0 : Int32))] [(.int m), (.int (0 : Int32)), (.ref ch)])) _
    refine st7 _ ?_
    show Steps p.tables e below (T7.setTop (mkF mi 54 #[.val (.ref t), .val (.int n), .val (.int (1 : Int32)), .val (.int (0 : Int32))] [(.ref b0), (.int (0 : Int32)), (.ref ch)])) _
    refine st9 _ ?_
    show Steps p.tables e below (T9.setTop (mkF mi 55 #[.val (.ref t), .val (.int n), .val (.int (1 : Int32)), .val (.int (0 : Int32))] [])) _
    refine XS.iinc X9.here hx rfl (hb hby d1_55) rfl (l' := #[.val (.ref t), .val (.int n), .val (.int (1 : Int32)), .val (.int (1 : Int32))]) rfl ?_
    show Steps p.tables e below (T9.setTop (mkF mi 58 #[.val (.ref t), .val (.int n), .val (.int (1 : Int32)), .val (.int (1 : Int32))] [])) _
    refine XS.goto X9.here hx rfl (pc0 := 58) (pc' := 31) rfl (hb hby d1_58) (by decide) (by decide) ?_
    show Steps p.tables e below (T9.setTop (mkF mi 31 #[.val (.ref t), .val (.int n), .val (.int (1 : Int32)), .val (.int (1 : Int32))] [])) _
    refine XS.iloadN X9.here hx rfl (hb hby d1_31) rfl ?_
    show Steps p.tables e below (T9.setTop (mkF mi 32 #[.val (.ref t), .val (.int n), .val (.int (1 : Int32)), .val (.int (1 : Int32))] [(.int (1 : Int32))])) _
    refine XS.iloadN X9.here hx rfl (hb hby d1_32) rfl ?_
    show Steps p.tables e below (T9.setTop (mkF mi 33 #[.val (.ref t), .val (.int n), .val (.int (1 : Int32)), .val (.int (1 : Int32))] [(.int (1 : Int32)), (.int (1 : Int32))])) _
    refine XS.icmpYes X9.here hx rfl (pc0 := 33) (pc' := 61) rfl (hb hby d1_33) rfl (flt (by decide : ¬ ((1 : Int32) < (1 : Int32)))).2.1 (by decide) (by decide) ?_
    show Steps p.tables e below (T9.setTop (mkF mi 61 #[.val (.ref t), .val (.int n), .val (.int (1 : Int32)), .val (.int (1 : Int32))] [])) _
    refine XS.aloadN X9.here hx rfl (hb hby d1_61) rfl rfl ?_
    show Steps p.tables e below (T9.setTop (mkF mi 62 #[.val (.ref t), .val (.int n), .val (.int (1 : Int32)), .val (.int (1 : Int32))] [(.ref t)])) _
    refine XS.iloadN X9.here hx rfl (hb hby d1_62) rfl ?_
    show Steps p.tables e below (T9.setTop (mkF mi 63 #[.val (.ref t), .val (.int n), .val (.int (1 : Int32)), .val (.int (1 : Int32))] [(.int n), (.ref t)])) _
    refine st10 _ ?_
    show Steps p.tables e below (T10.setTop (mkF mi 66 #[.val (.ref t), .val (.int n), .val (.int (1 : Int32)), .val (.int (1 : Int32))] [])) _
    exact X10.returnOut hx Bd.returns (hb hby d1_66) hr
  · show QI Z t n h0 n0 _ T10.heap _
    rw [e10]
    refine ⟨rfl, N10, KK10, ch, own_cs b0 b0 b0 b0, E_t_w10, F_ch_w10, F_sz_w10, ?_, ?_, ?_, ?_⟩
    · obtain ⟨cc, A, -, Sc, -, Hc, -⟩ := V_ch_w10
      refine ⟨cc, A, fun q hq => ?_⟩
      rcases (by omega : q = 0) with rfl
      · exact Hc 0 (by rw [Sc]; decide)
    · intro q hq
      rcases (by omega : q = 0) with rfl
      · obtain ⟨cx, A, -, Sc, -, Hc, -⟩ := V_b0_w10
        refine ⟨cx, A, fun r h1 h2 => Hc r ?_⟩
        rw [Sc]; exact own_lt hmI h2
    · intro q hq
      rcases (by omega : q = 0) with rfl
      · exact ⟨g_b0, (Ne.symm ne_ch_b0), (Ne.symm ne_t_b0)⟩
    · intro q q' hq hq' hne
      rcases (by omega : q = 0) with rfl <;> rcases (by omega : q' = 0) with rfl
      · exact absurd rfl hne
set_option maxRecDepth 65536 in
set_option maxHeartbeats 40000000 in
theorem rmInit2 (l : Launch) (Z : State) (a0 : Array Value) (hw : ∀ d ∈ tables_1, d.before a0 Z = true) (ws : List Jvm.Cond) (t : Addr) (n : Int32) (h0 : Heap) (n0 : Nat) (Z0 : n0 ≤ h0.size) (E_t : Exa Z h0 t "com/example/reachmark/reachmark/label/Intervals") (F_ch : Fld Z h0 t "com/example/reachmark/reachmark/label/Intervals" "chunks" "[[J" .null) (F_sz : Fld Z h0 t "com/example/reachmark/reachmark/label/Intervals" "size" "I" (.int (0 : Int32))) (g_t : n0 ≤ t) (hlo : 32768 < n.toInt) (hhi : n.toInt ≤ 65536) :
    MetFree l (⟨"com/example/reachmark/reachmark/label/Intervals", "<init>", "(I)V"⟩ : MethodName) (head1 (Jvm.Cond.code (⟨"com/example/reachmark/reachmark/label/Intervals", "<init>", "(I)V"⟩ : MethodName) prog_43_method_2_code 4 none :: ws) ({ frames := 1, cells := 5, slots := 131076, locals := 15 } : Room)) (fun a U => a = #[(.ref t), (.int n)] ∧ Z.Warmed39 U.vm ∧ U.heap = h0) (fun _ _ _ _ _ => True) (fun _ U o U' => ∃ v L, o = .returned v ∧ QI Z t n h0 n0 v U'.heap L ∧ FrameEnd U o U' L ({ frames := 1, cells := 5, slots := 131076, locals := 15 } : Room).cells ({ frames := 1, cells := 5, slots := 131076, locals := 15 } : Room).slots) := by
  have hcnt : (((((n.toInt64) + (32768 : Int64)) - (1 : Int64)).toUInt64 >>> ((15 : Int32) &&& 0x3f).toInt64.toUInt64).toInt64).toInt32 = (2 : Int32) := by
    have e := own_cnt n (by omega) (by omega)
    have e1 : (2 : Int32).toInt = 2 := rfl
    exact Int32.toInt_inj.mp (by rw [e, e1]; omega)
  have hp0 : ((0 : Int32) * (32768 : Int32)).toInt = 0 := rfl
  have hs0 := Jvm.Kit.i32_sub (p := n) (q := (0 : Int32) * (32768 : Int32)) (by omega) (by omega)
  have hd0 : ¬ ((n - ((0 : Int32) * (32768 : Int32))) < (32768 : Int32)) := by
    have e1 : (32768 : Int32).toInt = 32768 := rfl
    rw [Int32.lt_iff_toInt_lt]; omega
  have hp1 : ((1 : Int32) * (32768 : Int32)).toInt = 32768 := rfl
  have hs1 := Jvm.Kit.i32_sub (p := n) (q := (1 : Int32) * (32768 : Int32)) (by omega) (by omega)
  obtain ⟨m, hm⟩ : ∃ m, (n - ((1 : Int32) * (32768 : Int32))) = m := ⟨_, rfl⟩
  rw [hm] at hs1
  have hmB : ¬ ((32768 : Int32) < m) := by
    have e1 : (32768 : Int32).toInt = 32768 := rfl
    rw [Int32.lt_iff_toInt_lt]; omega
  have hmI : m.toInt = n.toInt - ((1 : Nat) : Int) * 32768 := by omega
  have hm0 : ¬ (m < 0) := own_nz (by omega)
  have hmc : m.toNatClampNeg ≤ 32768 := by rw [own_cl]; omega
  refine MetFree.of_bodySF (plainFor_of_name pn_com_example_reachmark_reachmark_label_Intervals) hisR ?_
  intro p e s mi args below meth c s₁ Bd hml0 hP hK
  obtain ⟨rfl, hZ, hh⟩ := hP
  have hx := Bd.exec
  have hby := Bd.bytes
  have hml : c.maxLocals = 4 := hml0
  have hown : s.vm.findClass "com/example/reachmark/reachmark/label/Intervals" = some mi.cls := findClass_of_methodNamed Bd.named
  have X0 : Stand p l e ({ frames := 1, cells := 5, slots := 131076, locals := 15 } : Room) s mi #[(.ref t), (.int n)] below meth c s₁ [] 0 0 := Stand.of_body Bd
  have e0 : s₁.heap = h0 := by rw [← hh, Bd.state]; rfl
  have N0 := Fr.nil n0
  have KK0 : Keep h0 h0 [t] := Keep.refl h0 [t]
  have pre0 : ∀ u, Steps p.tables e below (s₁.setTop (mkF mi 0 #[.val (.ref t), .val (.int n), .unset, .unset] [])) u → Steps p.tables e below (s₁.setTop (entryFrame mi #[(.ref t), (.int n)] 4)) u := fun u k => castTop (by first | (simp [entryFrame, mkF, argsToLocals, Value.category]; done) | rfl) k
  obtain ⟨T1, X1, e1, st1⟩ := initO X0 hx hZ hown (hw _ (List.mem_of_getElem? (i := 8) rfl)) (hw _ (List.mem_of_getElem? (i := 9) rfl)) (hw _ (List.mem_of_getElem? (i := 10) rfl)) e0 (g := (mkF mi 1 #[.val (.ref t), .val (.int n), .unset, .unset] [(.ref t)])) rfl (by rw [hml]; rfl) rfl (hb hby d1_1) (by decide) (W := 0) (by show 2 * 0 + _ ≤ _; exact Nat.le_of_eq rfl) (by decide)
  obtain ⟨_, _, ⟨T2, L2, k2, n2⟩, -, X2, ⟨Lc2, hQ2, l2, y2, z2⟩, st2⟩ := Jvm.LawKit.callS X1 hx (y := (⟨"java/lang/Math", "max", "(II)I"⟩ : MethodName)) hown (mvT hZ (hw _ (List.mem_of_getElem? (i := 12) rfl))) (mvT hZ (hw _ (List.mem_of_getElem? (i := 13) rfl))) (mvT hZ (hw _ (List.mem_of_getElem? (i := 14) rfl))) (mvT hZ (hw _ (List.mem_of_getElem? (i := 15) rfl))) (by decide) (backOf (W := 1) (rm3_4 l Z a0 hw [] (0 : Int32) h0 n0 (Nat.le_trans Z0 KK0.1) trivial) hZ (hw _ (List.mem_of_getElem? (i := 15) rfl)) (hw _ (List.mem_of_getElem? (i := 14) rfl)) (by decide) (by decide)) (g := (mkF mi 20 #[.val (.ref t), .val (.int n), .val (.int (2 : Int32)), .unset] [(.int (2 : Int32)), (.int (1 : Int32)), (.ref t)])) rfl (by rw [hml]; rfl) (argsL := [(.int (1 : Int32)), (.int (2 : Int32))]) (rest := [(.ref t)]) (lenOf pd_0 rfl) rfl (by show 2 * 0 + _ ≤ _; exact Nat.le_of_eq rfl) (hb hby d1_20) (fun _ _ => ⟨rfl, e1, (by decide : 0 + 0 ≤ _), (by decide : 0 + 0 ≤ _)⟩)
  dsimp only [Pt.U, Pt.locs, Pt.cells, Pt.slots] at X2 l2 y2 z2 st2 hQ2
  subst l2 y2 z2
  obtain ⟨rfl, N2q, e2⟩ := hQ2
  have N2 := Fr.app N0 N2q
  obtain ⟨T3, h3, k3, X3, e3, E3, A3, EA3, O3, st3⟩ := newRA X2 hx hZ (ty := .long) hown (C := "[J") rfl (hw _ (List.mem_of_getElem? (i := 16) rfl)) (hw _ (List.mem_of_getElem? (i := 17) rfl)) e2 (g := (mkF mi 23 #[.val (.ref t), .val (.int n), .val (.int (2 : Int32)), .unset] [(.int (2 : Int32)), (.ref t)])) rfl (hb hby d1_23) rfl (by decide) (cap := 4) (by decide) (by decide) (by decide) (by decide) (ad := "[[J") rfl
  obtain ⟨ch, g3⟩ : ∃ z, z = h0.size := ⟨_, rfl⟩
  rw [← g3] at A3 st3
  have ne_t_ch : t ≠ ch := Nat.ne_of_lt (Nat.lt_of_lt_of_le E_t.lt (Nat.le_of_eq g3.symm))
  have sz_ch : h0.size ≤ ch := Nat.le_trans KK0.1 (Nat.le_of_eq g3.symm)
  have g_ch : n0 ≤ ch := Nat.le_trans Z0 sz_ch
  have E_t_x3 := E_t.ext E3
  have F_ch_x3 := F_ch.ext E3
  have F_sz_x3 := F_sz.ext E3
  have KK3 : Keep h0 h3 [t] := KK0.ext E3
  have V_ch : Arv Z h3 ch k3 (.array .long) (2 : Int32) [.null, .null] .null := (Arv.new A3 (by decide)).pad (pad_rep [] .null 2)
  obtain ⟨T4, h4, X4, e4, W4, st4⟩ := putF X3 hx hZ hown (host := "") (Or.inl (hw _ (List.mem_of_getElem? (i := 18) rfl))) Via.refl e3 F_ch_x3 E_t_x3 (Or.inl (hw _ (List.mem_of_getElem? (i := 19) rfl))) (hw _ (List.mem_of_getElem? (i := 3) rfl)) (ty := (.array (.array .long))) (by decide) rfl rfl (g := (mkF mi 26 #[.val (.ref t), .val (.int n), .val (.int (2 : Int32)), .unset] [(.ref ch), (.ref t)])) rfl rfl (hb hby d1_26)
  have E_t_w4 := E_t_x3.wr W4
  have F_ch_w4 := F_ch_x3.same W4
  have F_sz_w4 := F_sz_x3.other W4 (Or.inr (slot_ne (Or.inl (hw _ (List.mem_of_getElem? (i := 27) rfl))) (Or.inl (hw _ (List.mem_of_getElem? (i := 19) rfl))) (by decide) (t := .int) (t' := (.array (.array .long))) (by decide) (by decide)))
  have V_ch_w4 := V_ch.other W4 (Ne.symm ne_t_ch)
  have KK4 : Keep h0 h4 [t] := KK3.wr W4 (Or.inl (List.mem_of_getElem? (i := 0) rfl))
  have N4 := Fr.snoc X4 N2 g_t
  obtain ⟨T5, X5, e5, st5⟩ := getF X4 hx hZ hown (host := "") (Or.inl (hw _ (List.mem_of_getElem? (i := 18) rfl))) Via.refl e4 F_ch_w4 (g := (mkF mi 37 #[.val (.ref t), .val (.int n), .val (.int (2 : Int32)), .val (.int (0 : Int32))] [(.ref t)])) rfl rfl (hb hby d1_37)
  obtain ⟨_, _, ⟨T6, L6, k6, n6⟩, -, X6, ⟨Lc6, hQ6, l6, y6, z6⟩, st6⟩ := Jvm.LawKit.callS X5 hx (y := (⟨"java/lang/Math", "min", "(II)I"⟩ : MethodName)) hown (mvT hZ (hw _ (List.mem_of_getElem? (i := 21) rfl))) (mvT hZ (hw _ (List.mem_of_getElem? (i := 22) rfl))) (mvT hZ (hw _ (List.mem_of_getElem? (i := 14) rfl))) (mvT hZ (hw _ (List.mem_of_getElem? (i := 23) rfl))) (by decide) (backOf (W := 2) (rm4_1 l Z a0 hw [] (n - ((0 : Int32) * (32768 : Int32))) h4 n0 (Nat.le_trans Z0 KK4.1) trivial hd0) hZ (hw _ (List.mem_of_getElem? (i := 23) rfl)) (hw _ (List.mem_of_getElem? (i := 14) rfl)) (by decide) (by decide)) (g := (mkF mi 49 #[.val (.ref t), .val (.int n), .val (.int (2 : Int32)), .val (.int (0 : Int32))] [(.int (n - ((0 : Int32) * (32768 : Int32)))), (.int (32768 : Int32)), (.int (0 : Int32)), (.ref ch)])) rfl (by rw [hml]; rfl) (argsL := [(.int (32768 : Int32)), (.int (n - ((0 : Int32) * (32768 : Int32))))]) (rest := [(.int (0 : Int32)), (.ref ch)]) (lenOf pd_0 rfl) rfl (by show 2 * 0 + _ ≤ _; exact Nat.le_of_eq rfl) (hb hby d1_49) (fun _ _ => ⟨rfl, e5, (by decide : 1 + 0 ≤ _), (by decide : 4 + 0 ≤ _)⟩)
  dsimp only [Pt.U, Pt.locs, Pt.cells, Pt.slots] at X6 l6 y6 z6 st6 hQ6
  subst l6 y6 z6
  obtain ⟨rfl, N6q, e6⟩ := hQ6
  have N6 := Fr.app N4 N6q
  obtain ⟨T7, h7, k7, X7, e7, E7, A7, EA7, st7⟩ := newPE X6 hx hZ (hw _ (List.mem_of_getElem? (i := 24) rfl)) e6 (g := (mkF mi 52 #[.val (.ref t), .val (.int n), .val (.int (2 : Int32)), .val (.int (0 : Int32))] [(.int (32768 : Int32)), (.int (0 : Int32)), (.ref ch)])) rfl (hb hby d1_52) rfl (by decide) (cap := 32768) (by decide) (by decide) (by decide) (by decide) (ad := "[J") (by decide)
  obtain ⟨b0, g7⟩ : ∃ z, z = h4.size := ⟨_, rfl⟩
  rw [← g7] at A7 EA7 st7
  have ne_t_b0 : t ≠ b0 := Nat.ne_of_lt (Nat.lt_of_lt_of_le E_t_w4.lt (Nat.le_of_eq g7.symm))
  have ne_ch_b0 : ch ≠ b0 := Nat.ne_of_lt (Nat.lt_of_lt_of_le V_ch_w4.lt (Nat.le_of_eq g7.symm))
  have sz_b0 : h0.size ≤ b0 := Nat.le_trans KK4.1 (Nat.le_of_eq g7.symm)
  have g_b0 : n0 ≤ b0 := Nat.le_trans Z0 sz_b0
  have E_t_x7 := E_t_w4.ext E7
  have F_ch_x7 := F_ch_w4.ext E7
  have F_sz_x7 := F_sz_w4.ext E7
  have V_ch_x7 := V_ch_w4.ext E7
  have KK7 : Keep h0 h7 [t] := KK4.ext E7
  have V_b0 : Arv Z h7 b0 k7 .long (32768 : Int32) [] (.long (0 : Int64)) := Arv.new A7 (by decide)
  have E_b0 : Exa Z h7 b0 "[J" := EA7
  obtain ⟨cl8, Ar8, qq8, Sz8, Ng8, Hs8, Gf8⟩ := V_ch_x7
  have hin8 : ¬ ((0 : Int32) < 0 ∨ cl8.slots.size ≤ ((0 : Int32)).toNatClampNeg) := inb_of Sz8 ⟨by decide, by decide⟩
  obtain ⟨T9, h9, X9, e9, W9, st9⟩ := stR X7 hx hZ e7 Ar8 (j := (0 : Int32)) hin8 rfl (Sto.ofVA Ar8 qq8 O3 (Ins.self E_b0)) (g := (mkF mi 54 #[.val (.ref t), .val (.int n), .val (.int (2 : Int32)), .val (.int (0 : Int32))] [(.ref b0), (.int (0 : Int32)), (.ref ch)])) rfl rfl (hb hby d1_54)
  have E_t_w9 := E_t_x7.wr W9
  have F_ch_w9 := F_ch_x7.other W9 (Or.inl ne_t_ch)
  have F_sz_w9 := F_sz_x7.other W9 (Or.inl ne_t_ch)
  have V_b0_w9 := V_b0.other W9 (Ne.symm ne_ch_b0)
  have E_b0_w9 := E_b0.wr W9
  have KK9 : Keep h0 h9 [t] := KK7.wr W9 (Or.inr sz_ch)
  have N9 := Fr.snoc X9 N6 g_ch
  have V_ch_w9 : Arv Z h9 ch k3 (.array .long) (2 : Int32) [(.ref b0), .null] .null := Arv.set Ar8 qq8 Sz8 Ng8 Hs8 Gf8 rfl W9 0 rfl (Nat.le_of_ble_eq_true rfl)
  obtain ⟨T10, X10, e10, st10⟩ := getF X9 hx hZ hown (host := "") (Or.inl (hw _ (List.mem_of_getElem? (i := 18) rfl))) Via.refl e9 F_ch_w9 (g := (mkF mi 37 #[.val (.ref t), .val (.int n), .val (.int (2 : Int32)), .val (.int (1 : Int32))] [(.ref t)])) rfl rfl (hb hby d1_37)
  obtain ⟨_, _, ⟨T11, L11, k11, n11⟩, -, X11, ⟨Lc11, hQ11, l11, y11, z11⟩, st11⟩ := Jvm.LawKit.callS X10 hx (y := (⟨"java/lang/Math", "min", "(II)I"⟩ : MethodName)) hown (mvT hZ (hw _ (List.mem_of_getElem? (i := 21) rfl))) (mvT hZ (hw _ (List.mem_of_getElem? (i := 22) rfl))) (mvT hZ (hw _ (List.mem_of_getElem? (i := 14) rfl))) (mvT hZ (hw _ (List.mem_of_getElem? (i := 23) rfl))) (by decide) (backOf (W := 2) (minB l Z a0 hw [] m h9 n0 (Nat.le_trans Z0 KK9.1) hmB) hZ (hw _ (List.mem_of_getElem? (i := 23) rfl)) (hw _ (List.mem_of_getElem? (i := 14) rfl)) (by decide) (by decide)) (g := (mkF mi 49 #[.val (.ref t), .val (.int n), .val (.int (2 : Int32)), .val (.int (1 : Int32))] [(.int m), (.int (32768 : Int32)), (.int (1 : Int32)), (.ref ch)])) rfl (by rw [hml]; rfl) (argsL := [(.int (32768 : Int32)), (.int m)]) (rest := [(.int (1 : Int32)), (.ref ch)]) (lenOf pd_0 rfl) rfl (by show 2 * 0 + _ ≤ _; exact Nat.le_of_eq rfl) (hb hby d1_49) (fun _ _ => ⟨rfl, e10, (by decide : 2 + 0 ≤ _), (by decide : 32772 + 0 ≤ _)⟩)
  dsimp only [Pt.U, Pt.locs, Pt.cells, Pt.slots] at X11 l11 y11 z11 st11 hQ11
  subst l11 y11 z11
  obtain ⟨rfl, N11q, e11⟩ := hQ11
  have N11 := Fr.app N9 N11q
  obtain ⟨T12, h12, k12, X12, e12, E12, A12, EA12, st12⟩ := newPE X11 hx hZ (hw _ (List.mem_of_getElem? (i := 24) rfl)) e11 (g := (mkF mi 52 #[.val (.ref t), .val (.int n), .val (.int (2 : Int32)), .val (.int (1 : Int32))] [(.int m), (.int (1 : Int32)), (.ref ch)])) rfl (hb hby d1_52) rfl hm0 (cap := 32768) hmc (by decide) (by decide) (by decide) (ad := "[J") (by decide)
  obtain ⟨b1, g12⟩ : ∃ z, z = h9.size := ⟨_, rfl⟩
  rw [← g12] at A12 EA12 st12
  have ne_t_b1 : t ≠ b1 := Nat.ne_of_lt (Nat.lt_of_lt_of_le E_t_w9.lt (Nat.le_of_eq g12.symm))
  have ne_ch_b1 : ch ≠ b1 := Nat.ne_of_lt (Nat.lt_of_lt_of_le V_ch_w9.lt (Nat.le_of_eq g12.symm))
  have ne_b0_b1 : b0 ≠ b1 := Nat.ne_of_lt (Nat.lt_of_lt_of_le V_b0_w9.lt (Nat.le_of_eq g12.symm))
  have sz_b1 : h0.size ≤ b1 := Nat.le_trans KK9.1 (Nat.le_of_eq g12.symm)
  have g_b1 : n0 ≤ b1 := Nat.le_trans Z0 sz_b1
  have E_t_x12 := E_t_w9.ext E12
  have F_ch_x12 := F_ch_w9.ext E12
  have F_sz_x12 := F_sz_w9.ext E12
  have V_b0_x12 := V_b0_w9.ext E12
  have E_b0_x12 := E_b0_w9.ext E12
  have V_ch_x12 := V_ch_w9.ext E12
  have KK12 : Keep h0 h12 [t] := KK9.ext E12
  have V_b1 : Arv Z h12 b1 k12 .long m [] (.long (0 : Int64)) := Arv.new A12 hm0
  have E_b1 : Exa Z h12 b1 "[J" := EA12
  obtain ⟨cl13, Ar13, qq13, Sz13, Ng13, Hs13, Gf13⟩ := V_ch_x12
  have hin13 : ¬ ((1 : Int32) < 0 ∨ cl13.slots.size ≤ ((1 : Int32)).toNatClampNeg) := inb_of Sz13 ⟨by decide, by decide⟩
  obtain ⟨T14, h14, X14, e14, W14, st14⟩ := stR X12 hx hZ e12 Ar13 (j := (1 : Int32)) hin13 rfl (Sto.ofVA Ar13 qq13 O3 (Ins.self E_b1)) (g := (mkF mi 54 #[.val (.ref t), .val (.int n), .val (.int (2 : Int32)), .val (.int (1 : Int32))] [(.ref b1), (.int (1 : Int32)), (.ref ch)])) rfl rfl (hb hby d1_54)
  have E_t_w14 := E_t_x12.wr W14
  have F_ch_w14 := F_ch_x12.other W14 (Or.inl ne_t_ch)
  have F_sz_w14 := F_sz_x12.other W14 (Or.inl ne_t_ch)
  have V_b0_w14 := V_b0_x12.other W14 (Ne.symm ne_ch_b0)
  have E_b0_w14 := E_b0_x12.wr W14
  have V_b1_w14 := V_b1.other W14 (Ne.symm ne_ch_b1)
  have E_b1_w14 := E_b1.wr W14
  have KK14 : Keep h0 h14 [t] := KK12.wr W14 (Or.inr sz_ch)
  have N14 := Fr.snoc X14 N11 g_ch
  have V_ch_w14 : Arv Z h14 ch k3 (.array .long) (2 : Int32) [(.ref b0), (.ref b1)] .null := Arv.set Ar13 qq13 Sz13 Ng13 Hs13 Gf13 rfl W14 1 rfl (Nat.le_of_ble_eq_true rfl)
  obtain ⟨T15, h15, X15, e15, W15, st15⟩ := putF X14 hx hZ hown (host := "") (Or.inl (hw _ (List.mem_of_getElem? (i := 26) rfl))) Via.refl e14 F_sz_w14 E_t_w14 (Or.inl (hw _ (List.mem_of_getElem? (i := 27) rfl))) (hw _ (List.mem_of_getElem? (i := 3) rfl)) (ty := .int) (by decide) rfl rfl (g := (mkF mi 63 #[.val (.ref t), .val (.int n), .val (.int (2 : Int32)), .val (.int (2 : Int32))] [(.int n), (.ref t)])) rfl rfl (hb hby d1_63)
  have E_t_w15 := E_t_w14.wr W15
  have F_ch_w15 := F_ch_w14.other W15 (Or.inr (slot_ne (Or.inl (hw _ (List.mem_of_getElem? (i := 19) rfl))) (Or.inl (hw _ (List.mem_of_getElem? (i := 27) rfl))) (by decide) (t := (.array (.array .long))) (t' := .int) (by decide) (by decide)))
  have F_sz_w15 := F_sz_w14.same W15
  have V_b0_w15 := V_b0_w14.other W15 (Ne.symm ne_t_b0)
  have E_b0_w15 := E_b0_w14.wr W15
  have V_b1_w15 := V_b1_w14.other W15 (Ne.symm ne_t_b1)
  have E_b1_w15 := E_b1_w14.wr W15
  have V_ch_w15 := V_ch_w14.other W15 (Ne.symm ne_t_ch)
  have KK15 : Keep h0 h15 [t] := KK14.wr W15 (Or.inl (List.mem_of_getElem? (i := 0) rfl))
  have N15 := Fr.snoc X15 N14 g_t
  obtain ⟨fs, hr, hrun, hended, hW, hsame⟩ := X15.leave (v := none) (fun _ => rfl)
  refine ⟨_, _, pre0 _ ?_, hrun, hended, _, _, rfl, ?_, ⟨_, rfl⟩, hW, hsame.mono (by decide) (by decide)⟩
  · show Steps p.tables e below (s₁.setTop (mkF mi 0 #[.val (.ref t), .val (.int n), .unset, .unset] [])) _
    refine XS.aloadN X0.here hx rfl (hb hby d1_0) rfl rfl ?_
    show Steps p.tables e below (s₁.setTop (mkF mi 1 #[.val (.ref t), .val (.int n), .unset, .unset] [(.ref t)])) _
    refine st1 _ ?_
    show Steps p.tables e below (T1.setTop (mkF mi 4 #[.val (.ref t), .val (.int n), .unset, .unset] [])) _
    refine XS.iloadN X1.here hx rfl (hb hby d1_4) rfl ?_
    show Steps p.tables e below (T1.setTop (mkF mi 5 #[.val (.ref t), .val (.int n), .unset, .unset] [(.int n)])) _
    refine XS.i2l X1.here hx rfl (hb hby d1_5) rfl ?_
    show Steps p.tables e below (T1.setTop (mkF mi 6 #[.val (.ref t), .val (.int n), .unset, .unset] [(.long (n.toInt64))])) _
    refine X1.ldc2Long hx hown (mvT hZ (hw _ (List.mem_of_getElem? (i := 11) rfl))) (g := (mkF mi 6 #[.val (.ref t), .val (.int n), .unset, .unset] [(.long (n.toInt64))])) rfl (hb hby d1_6) _ ?_
    show Steps p.tables e below (T1.setTop (mkF mi 9 #[.val (.ref t), .val (.int n), .unset, .unset] [(.long (32768 : Int64)), (.long (n.toInt64))])) _
    refine XS.ladd X1.here hx rfl (hb hby d1_9) rfl ?_
    show Steps p.tables e below (T1.setTop (mkF mi 10 #[.val (.ref t), .val (.int n), .unset, .unset] [(.long ((n.toInt64) + (32768 : Int64)))])) _
    refine XS.lconst X1.here hx rfl (hb hby d1_10) ?_
    show Steps p.tables e below (T1.setTop (mkF mi 11 #[.val (.ref t), .val (.int n), .unset, .unset] [(.long (1 : Int64)), (.long ((n.toInt64) + (32768 : Int64)))])) _
    refine XS.lsub X1.here hx rfl (hb hby d1_11) rfl ?_
    show Steps p.tables e below (T1.setTop (mkF mi 12 #[.val (.ref t), .val (.int n), .unset, .unset] [(.long (((n.toInt64) + (32768 : Int64)) - (1 : Int64)))])) _
    refine XS.bipush X1.here hx rfl (hb hby d1_12) ?_
    show Steps p.tables e below (T1.setTop (mkF mi 14 #[.val (.ref t), .val (.int n), .unset, .unset] [(.int (15 : Int32)), (.long (((n.toInt64) + (32768 : Int64)) - (1 : Int64)))])) _
    refine XS.lushr X1.here hx rfl (hb hby d1_14) rfl ?_
    show Steps p.tables e below (T1.setTop (mkF mi 15 #[.val (.ref t), .val (.int n), .unset, .unset] [(.long (((((n.toInt64) + (32768 : Int64)) - (1 : Int64)).toUInt64 >>> ((15 : Int32) &&& 0x3f).toInt64.toUInt64).toInt64))])) _
    refine XS.l2i X1.here hx rfl (hb hby d1_15) rfl ?_
    rw [hcnt]
    show Steps p.tables e below (T1.setTop (mkF mi 16 #[.val (.ref t), .val (.int n), .unset, .unset] [(.int (2 : Int32))])) _
    refine XS.istoreN X1.here hx rfl (hb hby d1_16) rfl (l' := #[.val (.ref t), .val (.int n), .val (.int (2 : Int32)), .unset]) rfl ?_
    show Steps p.tables e below (T1.setTop (mkF mi 17 #[.val (.ref t), .val (.int n), .val (.int (2 : Int32)), .unset] [])) _
    refine XS.aloadN X1.here hx rfl (hb hby d1_17) rfl rfl ?_
    show Steps p.tables e below (T1.setTop (mkF mi 18 #[.val (.ref t), .val (.int n), .val (.int (2 : Int32)), .unset] [(.ref t)])) _
    refine XS.iconst X1.here hx rfl (hb hby d1_18) ?_
    show Steps p.tables e below (T1.setTop (mkF mi 19 #[.val (.ref t), .val (.int n), .val (.int (2 : Int32)), .unset] [(.int (1 : Int32)), (.ref t)])) _
    refine XS.iloadN X1.here hx rfl (hb hby d1_19) rfl ?_
    show Steps p.tables e below (T1.setTop (mkF mi 20 #[.val (.ref t), .val (.int n), .val (.int (2 : Int32)), .unset] [(.int (2 : Int32)), (.int (1 : Int32)), (.ref t)])) _
    refine st2 _ ?_
    show Steps p.tables e below (T2.setTop (mkF mi 23 #[.val (.ref t), .val (.int n), .val (.int (2 : Int32)), .unset] [(.int (2 : Int32)), (.ref t)])) _
    refine st3 _ ?_
    show Steps p.tables e below (T3.setTop (mkF mi 26 #[.val (.ref t), .val (.int n), .val (.int (2 : Int32)), .unset] [(.ref ch), (.ref t)])) _
    refine st4 _ ?_
    show Steps p.tables e below (T4.setTop (mkF mi 29 #[.val (.ref t), .val (.int n), .val (.int (2 : Int32)), .unset] [])) _
    refine XS.iconst X4.here hx rfl (hb hby d1_29) ?_
    show Steps p.tables e below (T4.setTop (mkF mi 30 #[.val (.ref t), .val (.int n), .val (.int (2 : Int32)), .unset] [(.int (0 : Int32))])) _
    refine XS.istoreN X4.here hx rfl (hb hby d1_30) rfl (l' := #[.val (.ref t), .val (.int n), .val (.int (2 : Int32)), .val (.int (0 : Int32))]) rfl ?_
    show Steps p.tables e below (T4.setTop (mkF mi 31 #[.val (.ref t), .val (.int n), .val (.int (2 : Int32)), .val (.int (0 : Int32))] [])) _
    refine XS.iloadN X4.here hx rfl (hb hby d1_31) rfl ?_
    show Steps p.tables e below (T4.setTop (mkF mi 32 #[.val (.ref t), .val (.int n), .val (.int (2 : Int32)), .val (.int (0 : Int32))] [(.int (0 : Int32))])) _
    refine XS.iloadN X4.here hx rfl (hb hby d1_32) rfl ?_
    show Steps p.tables e below (T4.setTop (mkF mi 33 #[.val (.ref t), .val (.int n), .val (.int (2 : Int32)), .val (.int (0 : Int32))] [(.int (2 : Int32)), (.int (0 : Int32))])) _
    refine XS.icmpNo X4.here hx rfl (hb hby d1_33) rfl (tlt (by decide : (0 : Int32) < (2 : Int32))).2.1 ?_
    show Steps p.tables e below (T4.setTop (mkF mi 36 #[.val (.ref t), .val (.int n), .val (.int (2 : Int32)), .val (.int (0 : Int32))] [])) _
    refine XS.aloadN X4.here hx rfl (hb hby d1_36) rfl rfl ?_
    show Steps p.tables e below (T4.setTop (mkF mi 37 #[.val (.ref t), .val (.int n), .val (.int (2 : Int32)), .val (.int (0 : Int32))] [(.ref t)])) _
    refine st5 _ ?_
    show Steps p.tables e below (T5.setTop (mkF mi 40 #[.val (.ref t), .val (.int n), .val (.int (2 : Int32)), .val (.int (0 : Int32))] [(.ref ch)])) _
    refine XS.iloadN X5.here hx rfl (hb hby d1_40) rfl ?_
    show Steps p.tables e below (T5.setTop (mkF mi 41 #[.val (.ref t), .val (.int n), .val (.int (2 : Int32)), .val (.int (0 : Int32))] [(.int (0 : Int32)), (.ref ch)])) _
    refine X5.ldcInt hx hown (mvT hZ (hw _ (List.mem_of_getElem? (i := 20) rfl))) (g := (mkF mi 41 #[.val (.ref t), .val (.int n), .val (.int (2 : Int32)), .val (.int (0 : Int32))] [(.int (0 : Int32)), (.ref ch)])) rfl (hb hby d1_41) _ ?_
    show Steps p.tables e below (T5.setTop (mkF mi 43 #[.val (.ref t), .val (.int n), .val (.int (2 : Int32)), .val (.int (0 : Int32))] [(.int (32768 : Int32)), (.int (0 : Int32)), (.ref ch)])) _
    refine XS.iloadN X5.here hx rfl (hb hby d1_43) rfl ?_
    show Steps p.tables e below (T5.setTop (mkF mi 44 #[.val (.ref t), .val (.int n), .val (.int (2 : Int32)), .val (.int (0 : Int32))] [(.int n), (.int (32768 : Int32)), (.int (0 : Int32)), (.ref ch)])) _
    refine XS.iloadN X5.here hx rfl (hb hby d1_44) rfl ?_
    show Steps p.tables e below (T5.setTop (mkF mi 45 #[.val (.ref t), .val (.int n), .val (.int (2 : Int32)), .val (.int (0 : Int32))] [(.int (0 : Int32)), (.int n), (.int (32768 : Int32)), (.int (0 : Int32)), (.ref ch)])) _
    refine X5.ldcInt hx hown (mvT hZ (hw _ (List.mem_of_getElem? (i := 20) rfl))) (g := (mkF mi 45 #[.val (.ref t), .val (.int n), .val (.int (2 : Int32)), .val (.int (0 : Int32))] [(.int (0 : Int32)), (.int n), (.int (32768 : Int32)), (.int (0 : Int32)), (.ref ch)])) rfl (hb hby d1_45) _ ?_
    show Steps p.tables e below (T5.setTop (mkF mi 47 #[.val (.ref t), .val (.int n), .val (.int (2 : Int32)), .val (.int (0 : Int32))] [(.int (32768 : Int32)), (.int (0 : Int32)), (.int n), (.int (32768 : Int32)), (.int (0 : Int32)), (.ref ch)])) _
    refine XS.imul X5.here hx rfl (hb hby d1_47) rfl ?_
    show Steps p.tables e below (T5.setTop (mkF mi 48 #[.val (.ref t), .val (.int n), .val (.int (2 : Int32)), .val (.int (0 : Int32))] [(.int ((0 : Int32) * (32768 : Int32))), (.int n), (.int (32768 : Int32)), (.int (0 : Int32)), (.ref ch)])) _
    refine XS.isub X5.here hx rfl (hb hby d1_48) rfl ?_
    show Steps p.tables e below (T5.setTop (mkF mi 49 #[.val (.ref t), .val (.int n), .val (.int (2 : Int32)), .val (.int (0 : Int32))] [(.int (n - ((0 : Int32) * (32768 : Int32)))), (.int (32768 : Int32)), (.int (0 : Int32)), (.ref ch)])) _
    refine st6 _ ?_
    show Steps p.tables e below (T6.setTop (mkF mi 52 #[.val (.ref t), .val (.int n), .val (.int (2 : Int32)), .val (.int (0 : Int32))] [(.int (32768 : Int32)), (.int (0 : Int32)), (.ref ch)])) _
    refine st7 _ ?_
    show Steps p.tables e below (T7.setTop (mkF mi 54 #[.val (.ref t), .val (.int n), .val (.int (2 : Int32)), .val (.int (0 : Int32))] [(.ref b0), (.int (0 : Int32)), (.ref ch)])) _
    refine st9 _ ?_
    show Steps p.tables e below (T9.setTop (mkF mi 55 #[.val (.ref t), .val (.int n), .val (.int (2 : Int32)), .val (.int (0 : Int32))] [])) _
    refine XS.iinc X9.here hx rfl (hb hby d1_55) rfl (l' := #[.val (.ref t), .val (.int n), .val (.int (2 : Int32)), .val (.int (1 : Int32))]) rfl ?_
    show Steps p.tables e below (T9.setTop (mkF mi 58 #[.val (.ref t), .val (.int n), .val (.int (2 : Int32)), .val (.int (1 : Int32))] [])) _
    refine XS.goto X9.here hx rfl (pc0 := 58) (pc' := 31) rfl (hb hby d1_58) (by decide) (by decide) ?_
    show Steps p.tables e below (T9.setTop (mkF mi 31 #[.val (.ref t), .val (.int n), .val (.int (2 : Int32)), .val (.int (1 : Int32))] [])) _
    refine XS.iloadN X9.here hx rfl (hb hby d1_31) rfl ?_
    show Steps p.tables e below (T9.setTop (mkF mi 32 #[.val (.ref t), .val (.int n), .val (.int (2 : Int32)), .val (.int (1 : Int32))] [(.int (1 : Int32))])) _
    refine XS.iloadN X9.here hx rfl (hb hby d1_32) rfl ?_
    show Steps p.tables e below (T9.setTop (mkF mi 33 #[.val (.ref t), .val (.int n), .val (.int (2 : Int32)), .val (.int (1 : Int32))] [(.int (2 : Int32)), (.int (1 : Int32))])) _
    refine XS.icmpNo X9.here hx rfl (hb hby d1_33) rfl (tlt (by decide : (1 : Int32) < (2 : Int32))).2.1 ?_
    show Steps p.tables e below (T9.setTop (mkF mi 36 #[.val (.ref t), .val (.int n), .val (.int (2 : Int32)), .val (.int (1 : Int32))] [])) _
    refine XS.aloadN X9.here hx rfl (hb hby d1_36) rfl rfl ?_
    show Steps p.tables e below (T9.setTop (mkF mi 37 #[.val (.ref t), .val (.int n), .val (.int (2 : Int32)), .val (.int (1 : Int32))] [(.ref t)])) _
    refine st10 _ ?_
    show Steps p.tables e below (T10.setTop (mkF mi 40 #[.val (.ref t), .val (.int n), .val (.int (2 : Int32)), .val (.int (1 : Int32))] [(.ref ch)])) _
    refine XS.iloadN X10.here hx rfl (hb hby d1_40) rfl ?_
    show Steps p.tables e below (T10.setTop (mkF mi 41 #[.val (.ref t), .val (.int n), .val (.int (2 : Int32)), .val (.int (1 : Int32))] [(.int (1 : Int32)), (.ref ch)])) _
    refine X10.ldcInt hx hown (mvT hZ (hw _ (List.mem_of_getElem? (i := 20) rfl))) (g := (mkF mi 41 #[.val (.ref t), .val (.int n), .val (.int (2 : Int32)), .val (.int (1 : Int32))] [(.int (1 : Int32)), (.ref ch)])) rfl (hb hby d1_41) _ ?_
    show Steps p.tables e below (T10.setTop (mkF mi 43 #[.val (.ref t), .val (.int n), .val (.int (2 : Int32)), .val (.int (1 : Int32))] [(.int (32768 : Int32)), (.int (1 : Int32)), (.ref ch)])) _
    refine XS.iloadN X10.here hx rfl (hb hby d1_43) rfl ?_
    show Steps p.tables e below (T10.setTop (mkF mi 44 #[.val (.ref t), .val (.int n), .val (.int (2 : Int32)), .val (.int (1 : Int32))] [(.int n), (.int (32768 : Int32)), (.int (1 : Int32)), (.ref ch)])) _
    refine XS.iloadN X10.here hx rfl (hb hby d1_44) rfl ?_
    show Steps p.tables e below (T10.setTop (mkF mi 45 #[.val (.ref t), .val (.int n), .val (.int (2 : Int32)), .val (.int (1 : Int32))] [(.int (1 : Int32)), (.int n), (.int (32768 : Int32)), (.int (1 : Int32)), (.ref ch)])) _
    refine X10.ldcInt hx hown (mvT hZ (hw _ (List.mem_of_getElem? (i := 20) rfl))) (g := (mkF mi 45 #[.val (.ref t), .val (.int n), .val (.int (2 : Int32)), .val (.int (1 : Int32))] [(.int (1 : Int32)), (.int n), (.int (32768 : Int32)), (.int (1 : Int32)), (.ref ch)])) rfl (hb hby d1_45) _ ?_
    show Steps p.tables e below (T10.setTop (mkF mi 47 #[.val (.ref t), .val (.int n), .val (.int (2 : Int32)), .val (.int (1 : Int32))] [(.int (32768 : Int32)), (.int (1 : Int32)), (.int n), (.int (32768 : Int32)), (.int (1 : Int32)), (.ref ch)])) _
    refine XS.imul X10.here hx rfl (hb hby d1_47) rfl ?_
    show Steps p.tables e below (T10.setTop (mkF mi 48 #[.val (.ref t), .val (.int n), .val (.int (2 : Int32)), .val (.int (1 : Int32))] [(.int ((1 : Int32) * (32768 : Int32))), (.int n), (.int (32768 : Int32)), (.int (1 : Int32)), (.ref ch)])) _
    refine XS.isub X10.here hx rfl (hb hby d1_48) rfl ?_
    rw [hm]
    show Steps p.tables e below (T10.setTop (mkF mi 49 #[.val (.ref t), .val (.int n), .val (.int (2 : Int32)), .val (.int (1 : Int32))] [(.int m), (.int (32768 : Int32)), (.int (1 : Int32)), (.ref ch)])) _
    refine st11 _ ?_
    show Steps p.tables e below (T11.setTop (mkF mi 52 #[.val (.ref t), .val (.int n), .val (.int (2 : Int32)), .val (.int (1 : Int32))] [(.int m), (.int (1 : Int32)), (.ref ch)])) _
    refine st12 _ ?_
    show Steps p.tables e below (T12.setTop (mkF mi 54 #[.val (.ref t), .val (.int n), .val (.int (2 : Int32)), .val (.int (1 : Int32))] [(.ref b1), (.int (1 : Int32)), (.ref ch)])) _
    refine st14 _ ?_
    show Steps p.tables e below (T14.setTop (mkF mi 55 #[.val (.ref t), .val (.int n), .val (.int (2 : Int32)), .val (.int (1 : Int32))] [])) _
    refine XS.iinc X14.here hx rfl (hb hby d1_55) rfl (l' := #[.val (.ref t), .val (.int n), .val (.int (2 : Int32)), .val (.int (2 : Int32))]) rfl ?_
    show Steps p.tables e below (T14.setTop (mkF mi 58 #[.val (.ref t), .val (.int n), .val (.int (2 : Int32)), .val (.int (2 : Int32))] [])) _
    refine XS.goto X14.here hx rfl (pc0 := 58) (pc' := 31) rfl (hb hby d1_58) (by decide) (by decide) ?_
    show Steps p.tables e below (T14.setTop (mkF mi 31 #[.val (.ref t), .val (.int n), .val (.int (2 : Int32)), .val (.int (2 : Int32))] [])) _
    refine XS.iloadN X14.here hx rfl (hb hby d1_31) rfl ?_
    show Steps p.tables e below (T14.setTop (mkF mi 32 #[.val (.ref t), .val (.int n), .val (.int (2 : Int32)), .val (.int (2 : Int32))] [(.int (2 : Int32))])) _
    refine XS.iloadN X14.here hx rfl (hb hby d1_32) rfl ?_
    show Steps p.tables e below (T14.setTop (mkF mi 33 #[.val (.ref t), .val (.int n), .val (.int (2 : Int32)), .val (.int (2 : Int32))] [(.int (2 : Int32)), (.int (2 : Int32))])) _
    refine XS.icmpYes X14.here hx rfl (pc0 := 33) (pc' := 61) rfl (hb hby d1_33) rfl (flt (by decide : ¬ ((2 : Int32) < (2 : Int32)))).2.1 (by decide) (by decide) ?_
    show Steps p.tables e below (T14.setTop (mkF mi 61 #[.val (.ref t), .val (.int n), .val (.int (2 : Int32)), .val (.int (2 : Int32))] [])) _
    refine XS.aloadN X14.here hx rfl (hb hby d1_61) rfl rfl ?_
    show Steps p.tables e below (T14.setTop (mkF mi 62 #[.val (.ref t), .val (.int n), .val (.int (2 : Int32)), .val (.int (2 : Int32))] [(.ref t)])) _
    refine XS.iloadN X14.here hx rfl (hb hby d1_62) rfl ?_
    show Steps p.tables e below (T14.setTop (mkF mi 63 #[.val (.ref t), .val (.int n), .val (.int (2 : Int32)), .val (.int (2 : Int32))] [(.int n), (.ref t)])) _
    refine st15 _ ?_
    show Steps p.tables e below (T15.setTop (mkF mi 66 #[.val (.ref t), .val (.int n), .val (.int (2 : Int32)), .val (.int (2 : Int32))] [])) _
    exact X15.returnOut hx Bd.returns (hb hby d1_66) hr
  · show QI Z t n h0 n0 _ T15.heap _
    rw [e15]
    refine ⟨rfl, N15, KK15, ch, own_cs b0 b1 b1 b1, E_t_w15, F_ch_w15, F_sz_w15, ?_, ?_, ?_, ?_⟩
    · obtain ⟨cc, A, -, Sc, -, Hc, -⟩ := V_ch_w15
      refine ⟨cc, A, fun q hq => ?_⟩
      rcases (by omega : q = 0 ∨ q = 1) with rfl | rfl
      · exact Hc 0 (by rw [Sc]; decide)
      · exact Hc 1 (by rw [Sc]; decide)
    · intro q hq
      rcases (by omega : q = 0 ∨ q = 1) with rfl | rfl
      · obtain ⟨cx, A, -, Sc, -, Hc, -⟩ := V_b0_w15
        refine ⟨cx, A, fun r h1 h2 => Hc r ?_⟩
        rw [Sc]; show r < 32768; exact h1
      · obtain ⟨cx, A, -, Sc, -, Hc, -⟩ := V_b1_w15
        refine ⟨cx, A, fun r h1 h2 => Hc r ?_⟩
        rw [Sc]; exact own_lt hmI h2
    · intro q hq
      rcases (by omega : q = 0 ∨ q = 1) with rfl | rfl
      · exact ⟨g_b0, (Ne.symm ne_ch_b0), (Ne.symm ne_t_b0)⟩
      · exact ⟨g_b1, (Ne.symm ne_ch_b1), (Ne.symm ne_t_b1)⟩
    · intro q q' hq hq' hne
      rcases (by omega : q = 0 ∨ q = 1) with rfl | rfl <;> rcases (by omega : q' = 0 ∨ q' = 1) with rfl | rfl
      · exact absurd rfl hne
      · exact ne_b0_b1
      · exact (Ne.symm ne_b0_b1)
      · exact absurd rfl hne
set_option maxRecDepth 65536 in
set_option maxHeartbeats 40000000 in
theorem rmInit3 (l : Launch) (Z : State) (a0 : Array Value) (hw : ∀ d ∈ tables_1, d.before a0 Z = true) (ws : List Jvm.Cond) (t : Addr) (n : Int32) (h0 : Heap) (n0 : Nat) (Z0 : n0 ≤ h0.size) (E_t : Exa Z h0 t "com/example/reachmark/reachmark/label/Intervals") (F_ch : Fld Z h0 t "com/example/reachmark/reachmark/label/Intervals" "chunks" "[[J" .null) (F_sz : Fld Z h0 t "com/example/reachmark/reachmark/label/Intervals" "size" "I" (.int (0 : Int32))) (g_t : n0 ≤ t) (hlo : 65536 < n.toInt) (hhi : n.toInt ≤ 98304) :
    MetFree l (⟨"com/example/reachmark/reachmark/label/Intervals", "<init>", "(I)V"⟩ : MethodName) (head1 (Jvm.Cond.code (⟨"com/example/reachmark/reachmark/label/Intervals", "<init>", "(I)V"⟩ : MethodName) prog_43_method_2_code 4 none :: ws) ({ frames := 1, cells := 5, slots := 131076, locals := 15 } : Room)) (fun a U => a = #[(.ref t), (.int n)] ∧ Z.Warmed39 U.vm ∧ U.heap = h0) (fun _ _ _ _ _ => True) (fun _ U o U' => ∃ v L, o = .returned v ∧ QI Z t n h0 n0 v U'.heap L ∧ FrameEnd U o U' L ({ frames := 1, cells := 5, slots := 131076, locals := 15 } : Room).cells ({ frames := 1, cells := 5, slots := 131076, locals := 15 } : Room).slots) := by
  have hcnt : (((((n.toInt64) + (32768 : Int64)) - (1 : Int64)).toUInt64 >>> ((15 : Int32) &&& 0x3f).toInt64.toUInt64).toInt64).toInt32 = (3 : Int32) := by
    have e := own_cnt n (by omega) (by omega)
    have e1 : (3 : Int32).toInt = 3 := rfl
    exact Int32.toInt_inj.mp (by rw [e, e1]; omega)
  have hp0 : ((0 : Int32) * (32768 : Int32)).toInt = 0 := rfl
  have hs0 := Jvm.Kit.i32_sub (p := n) (q := (0 : Int32) * (32768 : Int32)) (by omega) (by omega)
  have hd0 : ¬ ((n - ((0 : Int32) * (32768 : Int32))) < (32768 : Int32)) := by
    have e1 : (32768 : Int32).toInt = 32768 := rfl
    rw [Int32.lt_iff_toInt_lt]; omega
  have hp1 : ((1 : Int32) * (32768 : Int32)).toInt = 32768 := rfl
  have hs1 := Jvm.Kit.i32_sub (p := n) (q := (1 : Int32) * (32768 : Int32)) (by omega) (by omega)
  have hd1 : ¬ ((n - ((1 : Int32) * (32768 : Int32))) < (32768 : Int32)) := by
    have e1 : (32768 : Int32).toInt = 32768 := rfl
    rw [Int32.lt_iff_toInt_lt]; omega
  have hp2 : ((2 : Int32) * (32768 : Int32)).toInt = 65536 := rfl
  have hs2 := Jvm.Kit.i32_sub (p := n) (q := (2 : Int32) * (32768 : Int32)) (by omega) (by omega)
  obtain ⟨m, hm⟩ : ∃ m, (n - ((2 : Int32) * (32768 : Int32))) = m := ⟨_, rfl⟩
  rw [hm] at hs2
  have hmB : ¬ ((32768 : Int32) < m) := by
    have e1 : (32768 : Int32).toInt = 32768 := rfl
    rw [Int32.lt_iff_toInt_lt]; omega
  have hmI : m.toInt = n.toInt - ((2 : Nat) : Int) * 32768 := by omega
  have hm0 : ¬ (m < 0) := own_nz (by omega)
  have hmc : m.toNatClampNeg ≤ 32768 := by rw [own_cl]; omega
  refine MetFree.of_bodySF (plainFor_of_name pn_com_example_reachmark_reachmark_label_Intervals) hisR ?_
  intro p e s mi args below meth c s₁ Bd hml0 hP hK
  obtain ⟨rfl, hZ, hh⟩ := hP
  have hx := Bd.exec
  have hby := Bd.bytes
  have hml : c.maxLocals = 4 := hml0
  have hown : s.vm.findClass "com/example/reachmark/reachmark/label/Intervals" = some mi.cls := findClass_of_methodNamed Bd.named
  have X0 : Stand p l e ({ frames := 1, cells := 5, slots := 131076, locals := 15 } : Room) s mi #[(.ref t), (.int n)] below meth c s₁ [] 0 0 := Stand.of_body Bd
  have e0 : s₁.heap = h0 := by rw [← hh, Bd.state]; rfl
  have N0 := Fr.nil n0
  have KK0 : Keep h0 h0 [t] := Keep.refl h0 [t]
  have pre0 : ∀ u, Steps p.tables e below (s₁.setTop (mkF mi 0 #[.val (.ref t), .val (.int n), .unset, .unset] [])) u → Steps p.tables e below (s₁.setTop (entryFrame mi #[(.ref t), (.int n)] 4)) u := fun u k => castTop (by first | (simp [entryFrame, mkF, argsToLocals, Value.category]; done) | rfl) k
  obtain ⟨T1, X1, e1, st1⟩ := initO X0 hx hZ hown (hw _ (List.mem_of_getElem? (i := 8) rfl)) (hw _ (List.mem_of_getElem? (i := 9) rfl)) (hw _ (List.mem_of_getElem? (i := 10) rfl)) e0 (g := (mkF mi 1 #[.val (.ref t), .val (.int n), .unset, .unset] [(.ref t)])) rfl (by rw [hml]; rfl) rfl (hb hby d1_1) (by decide) (W := 0) (by show 2 * 0 + _ ≤ _; exact Nat.le_of_eq rfl) (by decide)
  obtain ⟨_, _, ⟨T2, L2, k2, n2⟩, -, X2, ⟨Lc2, hQ2, l2, y2, z2⟩, st2⟩ := Jvm.LawKit.callS X1 hx (y := (⟨"java/lang/Math", "max", "(II)I"⟩ : MethodName)) hown (mvT hZ (hw _ (List.mem_of_getElem? (i := 12) rfl))) (mvT hZ (hw _ (List.mem_of_getElem? (i := 13) rfl))) (mvT hZ (hw _ (List.mem_of_getElem? (i := 14) rfl))) (mvT hZ (hw _ (List.mem_of_getElem? (i := 15) rfl))) (by decide) (backOf (W := 1) (rm3_5 l Z a0 hw [] (0 : Int32) h0 n0 (Nat.le_trans Z0 KK0.1) trivial) hZ (hw _ (List.mem_of_getElem? (i := 15) rfl)) (hw _ (List.mem_of_getElem? (i := 14) rfl)) (by decide) (by decide)) (g := (mkF mi 20 #[.val (.ref t), .val (.int n), .val (.int (3 : Int32)), .unset] [(.int (3 : Int32)), (.int (1 : Int32)), (.ref t)])) rfl (by rw [hml]; rfl) (argsL := [(.int (1 : Int32)), (.int (3 : Int32))]) (rest := [(.ref t)]) (lenOf pd_0 rfl) rfl (by show 2 * 0 + _ ≤ _; exact Nat.le_of_eq rfl) (hb hby d1_20) (fun _ _ => ⟨rfl, e1, (by decide : 0 + 0 ≤ _), (by decide : 0 + 0 ≤ _)⟩)
  dsimp only [Pt.U, Pt.locs, Pt.cells, Pt.slots] at X2 l2 y2 z2 st2 hQ2
  subst l2 y2 z2
  obtain ⟨rfl, N2q, e2⟩ := hQ2
  have N2 := Fr.app N0 N2q
  obtain ⟨T3, h3, k3, X3, e3, E3, A3, EA3, O3, st3⟩ := newRA X2 hx hZ (ty := .long) hown (C := "[J") rfl (hw _ (List.mem_of_getElem? (i := 16) rfl)) (hw _ (List.mem_of_getElem? (i := 17) rfl)) e2 (g := (mkF mi 23 #[.val (.ref t), .val (.int n), .val (.int (3 : Int32)), .unset] [(.int (3 : Int32)), (.ref t)])) rfl (hb hby d1_23) rfl (by decide) (cap := 4) (by decide) (by decide) (by decide) (by decide) (ad := "[[J") rfl
  obtain ⟨ch, g3⟩ : ∃ z, z = h0.size := ⟨_, rfl⟩
  rw [← g3] at A3 st3
  have ne_t_ch : t ≠ ch := Nat.ne_of_lt (Nat.lt_of_lt_of_le E_t.lt (Nat.le_of_eq g3.symm))
  have sz_ch : h0.size ≤ ch := Nat.le_trans KK0.1 (Nat.le_of_eq g3.symm)
  have g_ch : n0 ≤ ch := Nat.le_trans Z0 sz_ch
  have E_t_x3 := E_t.ext E3
  have F_ch_x3 := F_ch.ext E3
  have F_sz_x3 := F_sz.ext E3
  have KK3 : Keep h0 h3 [t] := KK0.ext E3
  have V_ch : Arv Z h3 ch k3 (.array .long) (3 : Int32) [.null, .null, .null] .null := (Arv.new A3 (by decide)).pad (pad_rep [] .null 3)
  obtain ⟨T4, h4, X4, e4, W4, st4⟩ := putF X3 hx hZ hown (host := "") (Or.inl (hw _ (List.mem_of_getElem? (i := 18) rfl))) Via.refl e3 F_ch_x3 E_t_x3 (Or.inl (hw _ (List.mem_of_getElem? (i := 19) rfl))) (hw _ (List.mem_of_getElem? (i := 3) rfl)) (ty := (.array (.array .long))) (by decide) rfl rfl (g := (mkF mi 26 #[.val (.ref t), .val (.int n), .val (.int (3 : Int32)), .unset] [(.ref ch), (.ref t)])) rfl rfl (hb hby d1_26)
  have E_t_w4 := E_t_x3.wr W4
  have F_ch_w4 := F_ch_x3.same W4
  have F_sz_w4 := F_sz_x3.other W4 (Or.inr (slot_ne (Or.inl (hw _ (List.mem_of_getElem? (i := 27) rfl))) (Or.inl (hw _ (List.mem_of_getElem? (i := 19) rfl))) (by decide) (t := .int) (t' := (.array (.array .long))) (by decide) (by decide)))
  have V_ch_w4 := V_ch.other W4 (Ne.symm ne_t_ch)
  have KK4 : Keep h0 h4 [t] := KK3.wr W4 (Or.inl (List.mem_of_getElem? (i := 0) rfl))
  have N4 := Fr.snoc X4 N2 g_t
  obtain ⟨T5, X5, e5, st5⟩ := getF X4 hx hZ hown (host := "") (Or.inl (hw _ (List.mem_of_getElem? (i := 18) rfl))) Via.refl e4 F_ch_w4 (g := (mkF mi 37 #[.val (.ref t), .val (.int n), .val (.int (3 : Int32)), .val (.int (0 : Int32))] [(.ref t)])) rfl rfl (hb hby d1_37)
  obtain ⟨_, _, ⟨T6, L6, k6, n6⟩, -, X6, ⟨Lc6, hQ6, l6, y6, z6⟩, st6⟩ := Jvm.LawKit.callS X5 hx (y := (⟨"java/lang/Math", "min", "(II)I"⟩ : MethodName)) hown (mvT hZ (hw _ (List.mem_of_getElem? (i := 21) rfl))) (mvT hZ (hw _ (List.mem_of_getElem? (i := 22) rfl))) (mvT hZ (hw _ (List.mem_of_getElem? (i := 14) rfl))) (mvT hZ (hw _ (List.mem_of_getElem? (i := 23) rfl))) (by decide) (backOf (W := 2) (rm4_1 l Z a0 hw [] (n - ((0 : Int32) * (32768 : Int32))) h4 n0 (Nat.le_trans Z0 KK4.1) trivial hd0) hZ (hw _ (List.mem_of_getElem? (i := 23) rfl)) (hw _ (List.mem_of_getElem? (i := 14) rfl)) (by decide) (by decide)) (g := (mkF mi 49 #[.val (.ref t), .val (.int n), .val (.int (3 : Int32)), .val (.int (0 : Int32))] [(.int (n - ((0 : Int32) * (32768 : Int32)))), (.int (32768 : Int32)), (.int (0 : Int32)), (.ref ch)])) rfl (by rw [hml]; rfl) (argsL := [(.int (32768 : Int32)), (.int (n - ((0 : Int32) * (32768 : Int32))))]) (rest := [(.int (0 : Int32)), (.ref ch)]) (lenOf pd_0 rfl) rfl (by show 2 * 0 + _ ≤ _; exact Nat.le_of_eq rfl) (hb hby d1_49) (fun _ _ => ⟨rfl, e5, (by decide : 1 + 0 ≤ _), (by decide : 4 + 0 ≤ _)⟩)
  dsimp only [Pt.U, Pt.locs, Pt.cells, Pt.slots] at X6 l6 y6 z6 st6 hQ6
  subst l6 y6 z6
  obtain ⟨rfl, N6q, e6⟩ := hQ6
  have N6 := Fr.app N4 N6q
  obtain ⟨T7, h7, k7, X7, e7, E7, A7, EA7, st7⟩ := newPE X6 hx hZ (hw _ (List.mem_of_getElem? (i := 24) rfl)) e6 (g := (mkF mi 52 #[.val (.ref t), .val (.int n), .val (.int (3 : Int32)), .val (.int (0 : Int32))] [(.int (32768 : Int32)), (.int (0 : Int32)), (.ref ch)])) rfl (hb hby d1_52) rfl (by decide) (cap := 32768) (by decide) (by decide) (by decide) (by decide) (ad := "[J") (by decide)
  obtain ⟨b0, g7⟩ : ∃ z, z = h4.size := ⟨_, rfl⟩
  rw [← g7] at A7 EA7 st7
  have ne_t_b0 : t ≠ b0 := Nat.ne_of_lt (Nat.lt_of_lt_of_le E_t_w4.lt (Nat.le_of_eq g7.symm))
  have ne_ch_b0 : ch ≠ b0 := Nat.ne_of_lt (Nat.lt_of_lt_of_le V_ch_w4.lt (Nat.le_of_eq g7.symm))
  have sz_b0 : h0.size ≤ b0 := Nat.le_trans KK4.1 (Nat.le_of_eq g7.symm)
  have g_b0 : n0 ≤ b0 := Nat.le_trans Z0 sz_b0
  have E_t_x7 := E_t_w4.ext E7
  have F_ch_x7 := F_ch_w4.ext E7
  have F_sz_x7 := F_sz_w4.ext E7
  have V_ch_x7 := V_ch_w4.ext E7
  have KK7 : Keep h0 h7 [t] := KK4.ext E7
  have V_b0 : Arv Z h7 b0 k7 .long (32768 : Int32) [] (.long (0 : Int64)) := Arv.new A7 (by decide)
  have E_b0 : Exa Z h7 b0 "[J" := EA7
  obtain ⟨cl8, Ar8, qq8, Sz8, Ng8, Hs8, Gf8⟩ := V_ch_x7
  have hin8 : ¬ ((0 : Int32) < 0 ∨ cl8.slots.size ≤ ((0 : Int32)).toNatClampNeg) := inb_of Sz8 ⟨by decide, by decide⟩
  obtain ⟨T9, h9, X9, e9, W9, st9⟩ := stR X7 hx hZ e7 Ar8 (j := (0 : Int32)) hin8 rfl (Sto.ofVA Ar8 qq8 O3 (Ins.self E_b0)) (g := (mkF mi 54 #[.val (.ref t), .val (.int n), .val (.int (3 : Int32)), .val (.int (0 : Int32))] [(.ref b0), (.int (0 : Int32)), (.ref ch)])) rfl rfl (hb hby d1_54)
  have E_t_w9 := E_t_x7.wr W9
  have F_ch_w9 := F_ch_x7.other W9 (Or.inl ne_t_ch)
  have F_sz_w9 := F_sz_x7.other W9 (Or.inl ne_t_ch)
  have V_b0_w9 := V_b0.other W9 (Ne.symm ne_ch_b0)
  have E_b0_w9 := E_b0.wr W9
  have KK9 : Keep h0 h9 [t] := KK7.wr W9 (Or.inr sz_ch)
  have N9 := Fr.snoc X9 N6 g_ch
  have V_ch_w9 : Arv Z h9 ch k3 (.array .long) (3 : Int32) [(.ref b0), .null, .null] .null := Arv.set Ar8 qq8 Sz8 Ng8 Hs8 Gf8 rfl W9 0 rfl (Nat.le_of_ble_eq_true rfl)
  obtain ⟨T10, X10, e10, st10⟩ := getF X9 hx hZ hown (host := "") (Or.inl (hw _ (List.mem_of_getElem? (i := 18) rfl))) Via.refl e9 F_ch_w9 (g := (mkF mi 37 #[.val (.ref t), .val (.int n), .val (.int (3 : Int32)), .val (.int (1 : Int32))] [(.ref t)])) rfl rfl (hb hby d1_37)
  obtain ⟨_, _, ⟨T11, L11, k11, n11⟩, -, X11, ⟨Lc11, hQ11, l11, y11, z11⟩, st11⟩ := Jvm.LawKit.callS X10 hx (y := (⟨"java/lang/Math", "min", "(II)I"⟩ : MethodName)) hown (mvT hZ (hw _ (List.mem_of_getElem? (i := 21) rfl))) (mvT hZ (hw _ (List.mem_of_getElem? (i := 22) rfl))) (mvT hZ (hw _ (List.mem_of_getElem? (i := 14) rfl))) (mvT hZ (hw _ (List.mem_of_getElem? (i := 23) rfl))) (by decide) (backOf (W := 2) (rm4_1 l Z a0 hw [] (n - ((1 : Int32) * (32768 : Int32))) h9 n0 (Nat.le_trans Z0 KK9.1) trivial hd1) hZ (hw _ (List.mem_of_getElem? (i := 23) rfl)) (hw _ (List.mem_of_getElem? (i := 14) rfl)) (by decide) (by decide)) (g := (mkF mi 49 #[.val (.ref t), .val (.int n), .val (.int (3 : Int32)), .val (.int (1 : Int32))] [(.int (n - ((1 : Int32) * (32768 : Int32)))), (.int (32768 : Int32)), (.int (1 : Int32)), (.ref ch)])) rfl (by rw [hml]; rfl) (argsL := [(.int (32768 : Int32)), (.int (n - ((1 : Int32) * (32768 : Int32))))]) (rest := [(.int (1 : Int32)), (.ref ch)]) (lenOf pd_0 rfl) rfl (by show 2 * 0 + _ ≤ _; exact Nat.le_of_eq rfl) (hb hby d1_49) (fun _ _ => ⟨rfl, e10, (by decide : 2 + 0 ≤ _), (by decide : 32772 + 0 ≤ _)⟩)
  dsimp only [Pt.U, Pt.locs, Pt.cells, Pt.slots] at X11 l11 y11 z11 st11 hQ11
  subst l11 y11 z11
  obtain ⟨rfl, N11q, e11⟩ := hQ11
  have N11 := Fr.app N9 N11q
  obtain ⟨T12, h12, k12, X12, e12, E12, A12, EA12, st12⟩ := newPE X11 hx hZ (hw _ (List.mem_of_getElem? (i := 24) rfl)) e11 (g := (mkF mi 52 #[.val (.ref t), .val (.int n), .val (.int (3 : Int32)), .val (.int (1 : Int32))] [(.int (32768 : Int32)), (.int (1 : Int32)), (.ref ch)])) rfl (hb hby d1_52) rfl (by decide) (cap := 32768) (by decide) (by decide) (by decide) (by decide) (ad := "[J") (by decide)
  obtain ⟨b1, g12⟩ : ∃ z, z = h9.size := ⟨_, rfl⟩
  rw [← g12] at A12 EA12 st12
  have ne_t_b1 : t ≠ b1 := Nat.ne_of_lt (Nat.lt_of_lt_of_le E_t_w9.lt (Nat.le_of_eq g12.symm))
  have ne_ch_b1 : ch ≠ b1 := Nat.ne_of_lt (Nat.lt_of_lt_of_le V_ch_w9.lt (Nat.le_of_eq g12.symm))
  have ne_b0_b1 : b0 ≠ b1 := Nat.ne_of_lt (Nat.lt_of_lt_of_le V_b0_w9.lt (Nat.le_of_eq g12.symm))
  have sz_b1 : h0.size ≤ b1 := Nat.le_trans KK9.1 (Nat.le_of_eq g12.symm)
  have g_b1 : n0 ≤ b1 := Nat.le_trans Z0 sz_b1
  have E_t_x12 := E_t_w9.ext E12
  have F_ch_x12 := F_ch_w9.ext E12
  have F_sz_x12 := F_sz_w9.ext E12
  have V_b0_x12 := V_b0_w9.ext E12
  have E_b0_x12 := E_b0_w9.ext E12
  have V_ch_x12 := V_ch_w9.ext E12
  have KK12 : Keep h0 h12 [t] := KK9.ext E12
  have V_b1 : Arv Z h12 b1 k12 .long (32768 : Int32) [] (.long (0 : Int64)) := Arv.new A12 (by decide)
  have E_b1 : Exa Z h12 b1 "[J" := EA12
  obtain ⟨cl13, Ar13, qq13, Sz13, Ng13, Hs13, Gf13⟩ := V_ch_x12
  have hin13 : ¬ ((1 : Int32) < 0 ∨ cl13.slots.size ≤ ((1 : Int32)).toNatClampNeg) := inb_of Sz13 ⟨by decide, by decide⟩
  obtain ⟨T14, h14, X14, e14, W14, st14⟩ := stR X12 hx hZ e12 Ar13 (j := (1 : Int32)) hin13 rfl (Sto.ofVA Ar13 qq13 O3 (Ins.self E_b1)) (g := (mkF mi 54 #[.val (.ref t), .val (.int n), .val (.int (3 : Int32)), .val (.int (1 : Int32))] [(.ref b1), (.int (1 : Int32)), (.ref ch)])) rfl rfl (hb hby d1_54)
  have E_t_w14 := E_t_x12.wr W14
  have F_ch_w14 := F_ch_x12.other W14 (Or.inl ne_t_ch)
  have F_sz_w14 := F_sz_x12.other W14 (Or.inl ne_t_ch)
  have V_b0_w14 := V_b0_x12.other W14 (Ne.symm ne_ch_b0)
  have E_b0_w14 := E_b0_x12.wr W14
  have V_b1_w14 := V_b1.other W14 (Ne.symm ne_ch_b1)
  have E_b1_w14 := E_b1.wr W14
  have KK14 : Keep h0 h14 [t] := KK12.wr W14 (Or.inr sz_ch)
  have N14 := Fr.snoc X14 N11 g_ch
  have V_ch_w14 : Arv Z h14 ch k3 (.array .long) (3 : Int32) [(.ref b0), (.ref b1), .null] .null := Arv.set Ar13 qq13 Sz13 Ng13 Hs13 Gf13 rfl W14 1 rfl (Nat.le_of_ble_eq_true rfl)
  obtain ⟨T15, X15, e15, st15⟩ := getF X14 hx hZ hown (host := "") (Or.inl (hw _ (List.mem_of_getElem? (i := 18) rfl))) Via.refl e14 F_ch_w14 (g := (mkF mi 37 #[.val (.ref t), .val (.int n), .val (.int (3 : Int32)), .val (.int (2 : Int32))] [(.ref t)])) rfl rfl (hb hby d1_37)
  obtain ⟨_, _, ⟨T16, L16, k16, n16⟩, -, X16, ⟨Lc16, hQ16, l16, y16, z16⟩, st16⟩ := Jvm.LawKit.callS X15 hx (y := (⟨"java/lang/Math", "min", "(II)I"⟩ : MethodName)) hown (mvT hZ (hw _ (List.mem_of_getElem? (i := 21) rfl))) (mvT hZ (hw _ (List.mem_of_getElem? (i := 22) rfl))) (mvT hZ (hw _ (List.mem_of_getElem? (i := 14) rfl))) (mvT hZ (hw _ (List.mem_of_getElem? (i := 23) rfl))) (by decide) (backOf (W := 2) (minB l Z a0 hw [] m h14 n0 (Nat.le_trans Z0 KK14.1) hmB) hZ (hw _ (List.mem_of_getElem? (i := 23) rfl)) (hw _ (List.mem_of_getElem? (i := 14) rfl)) (by decide) (by decide)) (g := (mkF mi 49 #[.val (.ref t), .val (.int n), .val (.int (3 : Int32)), .val (.int (2 : Int32))] [(.int m), (.int (32768 : Int32)), (.int (2 : Int32)), (.ref ch)])) rfl (by rw [hml]; rfl) (argsL := [(.int (32768 : Int32)), (.int m)]) (rest := [(.int (2 : Int32)), (.ref ch)]) (lenOf pd_0 rfl) rfl (by show 2 * 0 + _ ≤ _; exact Nat.le_of_eq rfl) (hb hby d1_49) (fun _ _ => ⟨rfl, e15, (by decide : 3 + 0 ≤ _), (by decide : 65540 + 0 ≤ _)⟩)
  dsimp only [Pt.U, Pt.locs, Pt.cells, Pt.slots] at X16 l16 y16 z16 st16 hQ16
  subst l16 y16 z16
  obtain ⟨rfl, N16q, e16⟩ := hQ16
  have N16 := Fr.app N14 N16q
  obtain ⟨T17, h17, k17, X17, e17, E17, A17, EA17, st17⟩ := newPE X16 hx hZ (hw _ (List.mem_of_getElem? (i := 24) rfl)) e16 (g := (mkF mi 52 #[.val (.ref t), .val (.int n), .val (.int (3 : Int32)), .val (.int (2 : Int32))] [(.int m), (.int (2 : Int32)), (.ref ch)])) rfl (hb hby d1_52) rfl hm0 (cap := 32768) hmc (by decide) (by decide) (by decide) (ad := "[J") (by decide)
  obtain ⟨b2, g17⟩ : ∃ z, z = h14.size := ⟨_, rfl⟩
  rw [← g17] at A17 EA17 st17
  have ne_t_b2 : t ≠ b2 := Nat.ne_of_lt (Nat.lt_of_lt_of_le E_t_w14.lt (Nat.le_of_eq g17.symm))
  have ne_ch_b2 : ch ≠ b2 := Nat.ne_of_lt (Nat.lt_of_lt_of_le V_ch_w14.lt (Nat.le_of_eq g17.symm))
  have ne_b0_b2 : b0 ≠ b2 := Nat.ne_of_lt (Nat.lt_of_lt_of_le V_b0_w14.lt (Nat.le_of_eq g17.symm))
  have ne_b1_b2 : b1 ≠ b2 := Nat.ne_of_lt (Nat.lt_of_lt_of_le V_b1_w14.lt (Nat.le_of_eq g17.symm))
  have sz_b2 : h0.size ≤ b2 := Nat.le_trans KK14.1 (Nat.le_of_eq g17.symm)
  have g_b2 : n0 ≤ b2 := Nat.le_trans Z0 sz_b2
  have E_t_x17 := E_t_w14.ext E17
  have F_ch_x17 := F_ch_w14.ext E17
  have F_sz_x17 := F_sz_w14.ext E17
  have V_b0_x17 := V_b0_w14.ext E17
  have E_b0_x17 := E_b0_w14.ext E17
  have V_b1_x17 := V_b1_w14.ext E17
  have E_b1_x17 := E_b1_w14.ext E17
  have V_ch_x17 := V_ch_w14.ext E17
  have KK17 : Keep h0 h17 [t] := KK14.ext E17
  have V_b2 : Arv Z h17 b2 k17 .long m [] (.long (0 : Int64)) := Arv.new A17 hm0
  have E_b2 : Exa Z h17 b2 "[J" := EA17
  obtain ⟨cl18, Ar18, qq18, Sz18, Ng18, Hs18, Gf18⟩ := V_ch_x17
  have hin18 : ¬ ((2 : Int32) < 0 ∨ cl18.slots.size ≤ ((2 : Int32)).toNatClampNeg) := inb_of Sz18 ⟨by decide, by decide⟩
  obtain ⟨T19, h19, X19, e19, W19, st19⟩ := stR X17 hx hZ e17 Ar18 (j := (2 : Int32)) hin18 rfl (Sto.ofVA Ar18 qq18 O3 (Ins.self E_b2)) (g := (mkF mi 54 #[.val (.ref t), .val (.int n), .val (.int (3 : Int32)), .val (.int (2 : Int32))] [(.ref b2), (.int (2 : Int32)), (.ref ch)])) rfl rfl (hb hby d1_54)
  have E_t_w19 := E_t_x17.wr W19
  have F_ch_w19 := F_ch_x17.other W19 (Or.inl ne_t_ch)
  have F_sz_w19 := F_sz_x17.other W19 (Or.inl ne_t_ch)
  have V_b0_w19 := V_b0_x17.other W19 (Ne.symm ne_ch_b0)
  have E_b0_w19 := E_b0_x17.wr W19
  have V_b1_w19 := V_b1_x17.other W19 (Ne.symm ne_ch_b1)
  have E_b1_w19 := E_b1_x17.wr W19
  have V_b2_w19 := V_b2.other W19 (Ne.symm ne_ch_b2)
  have E_b2_w19 := E_b2.wr W19
  have KK19 : Keep h0 h19 [t] := KK17.wr W19 (Or.inr sz_ch)
  have N19 := Fr.snoc X19 N16 g_ch
  have V_ch_w19 : Arv Z h19 ch k3 (.array .long) (3 : Int32) [(.ref b0), (.ref b1), (.ref b2)] .null := Arv.set Ar18 qq18 Sz18 Ng18 Hs18 Gf18 rfl W19 2 rfl (Nat.le_of_ble_eq_true rfl)
  obtain ⟨T20, h20, X20, e20, W20, st20⟩ := putF X19 hx hZ hown (host := "") (Or.inl (hw _ (List.mem_of_getElem? (i := 26) rfl))) Via.refl e19 F_sz_w19 E_t_w19 (Or.inl (hw _ (List.mem_of_getElem? (i := 27) rfl))) (hw _ (List.mem_of_getElem? (i := 3) rfl)) (ty := .int) (by decide) rfl rfl (g := (mkF mi 63 #[.val (.ref t), .val (.int n), .val (.int (3 : Int32)), .val (.int (3 : Int32))] [(.int n), (.ref t)])) rfl rfl (hb hby d1_63)
  have E_t_w20 := E_t_w19.wr W20
  have F_ch_w20 := F_ch_w19.other W20 (Or.inr (slot_ne (Or.inl (hw _ (List.mem_of_getElem? (i := 19) rfl))) (Or.inl (hw _ (List.mem_of_getElem? (i := 27) rfl))) (by decide) (t := (.array (.array .long))) (t' := .int) (by decide) (by decide)))
  have F_sz_w20 := F_sz_w19.same W20
  have V_b0_w20 := V_b0_w19.other W20 (Ne.symm ne_t_b0)
  have E_b0_w20 := E_b0_w19.wr W20
  have V_b1_w20 := V_b1_w19.other W20 (Ne.symm ne_t_b1)
  have E_b1_w20 := E_b1_w19.wr W20
  have V_b2_w20 := V_b2_w19.other W20 (Ne.symm ne_t_b2)
  have E_b2_w20 := E_b2_w19.wr W20
  have V_ch_w20 := V_ch_w19.other W20 (Ne.symm ne_t_ch)
  have KK20 : Keep h0 h20 [t] := KK19.wr W20 (Or.inl (List.mem_of_getElem? (i := 0) rfl))
  have N20 := Fr.snoc X20 N19 g_t
  obtain ⟨fs, hr, hrun, hended, hW, hsame⟩ := X20.leave (v := none) (fun _ => rfl)
  refine ⟨_, _, pre0 _ ?_, hrun, hended, _, _, rfl, ?_, ⟨_, rfl⟩, hW, hsame.mono (by decide) (by decide)⟩
  · show Steps p.tables e below (s₁.setTop (mkF mi 0 #[.val (.ref t), .val (.int n), .unset, .unset] [])) _
    refine XS.aloadN X0.here hx rfl (hb hby d1_0) rfl rfl ?_
    show Steps p.tables e below (s₁.setTop (mkF mi 1 #[.val (.ref t), .val (.int n), .unset, .unset] [(.ref t)])) _
    refine st1 _ ?_
    show Steps p.tables e below (T1.setTop (mkF mi 4 #[.val (.ref t), .val (.int n), .unset, .unset] [])) _
    refine XS.iloadN X1.here hx rfl (hb hby d1_4) rfl ?_
    show Steps p.tables e below (T1.setTop (mkF mi 5 #[.val (.ref t), .val (.int n), .unset, .unset] [(.int n)])) _
    refine XS.i2l X1.here hx rfl (hb hby d1_5) rfl ?_
    show Steps p.tables e below (T1.setTop (mkF mi 6 #[.val (.ref t), .val (.int n), .unset, .unset] [(.long (n.toInt64))])) _
    refine X1.ldc2Long hx hown (mvT hZ (hw _ (List.mem_of_getElem? (i := 11) rfl))) (g := (mkF mi 6 #[.val (.ref t), .val (.int n), .unset, .unset] [(.long (n.toInt64))])) rfl (hb hby d1_6) _ ?_
    show Steps p.tables e below (T1.setTop (mkF mi 9 #[.val (.ref t), .val (.int n), .unset, .unset] [(.long (32768 : Int64)), (.long (n.toInt64))])) _
    refine XS.ladd X1.here hx rfl (hb hby d1_9) rfl ?_
    show Steps p.tables e below (T1.setTop (mkF mi 10 #[.val (.ref t), .val (.int n), .unset, .unset] [(.long ((n.toInt64) + (32768 : Int64)))])) _
    refine XS.lconst X1.here hx rfl (hb hby d1_10) ?_
    show Steps p.tables e below (T1.setTop (mkF mi 11 #[.val (.ref t), .val (.int n), .unset, .unset] [(.long (1 : Int64)), (.long ((n.toInt64) + (32768 : Int64)))])) _
    refine XS.lsub X1.here hx rfl (hb hby d1_11) rfl ?_
    show Steps p.tables e below (T1.setTop (mkF mi 12 #[.val (.ref t), .val (.int n), .unset, .unset] [(.long (((n.toInt64) + (32768 : Int64)) - (1 : Int64)))])) _
    refine XS.bipush X1.here hx rfl (hb hby d1_12) ?_
    show Steps p.tables e below (T1.setTop (mkF mi 14 #[.val (.ref t), .val (.int n), .unset, .unset] [(.int (15 : Int32)), (.long (((n.toInt64) + (32768 : Int64)) - (1 : Int64)))])) _
    refine XS.lushr X1.here hx rfl (hb hby d1_14) rfl ?_
    show Steps p.tables e below (T1.setTop (mkF mi 15 #[.val (.ref t), .val (.int n), .unset, .unset] [(.long (((((n.toInt64) + (32768 : Int64)) - (1 : Int64)).toUInt64 >>> ((15 : Int32) &&& 0x3f).toInt64.toUInt64).toInt64))])) _
    refine XS.l2i X1.here hx rfl (hb hby d1_15) rfl ?_
    rw [hcnt]
    show Steps p.tables e below (T1.setTop (mkF mi 16 #[.val (.ref t), .val (.int n), .unset, .unset] [(.int (3 : Int32))])) _
    refine XS.istoreN X1.here hx rfl (hb hby d1_16) rfl (l' := #[.val (.ref t), .val (.int n), .val (.int (3 : Int32)), .unset]) rfl ?_
    show Steps p.tables e below (T1.setTop (mkF mi 17 #[.val (.ref t), .val (.int n), .val (.int (3 : Int32)), .unset] [])) _
    refine XS.aloadN X1.here hx rfl (hb hby d1_17) rfl rfl ?_
    show Steps p.tables e below (T1.setTop (mkF mi 18 #[.val (.ref t), .val (.int n), .val (.int (3 : Int32)), .unset] [(.ref t)])) _
    refine XS.iconst X1.here hx rfl (hb hby d1_18) ?_
    show Steps p.tables e below (T1.setTop (mkF mi 19 #[.val (.ref t), .val (.int n), .val (.int (3 : Int32)), .unset] [(.int (1 : Int32)), (.ref t)])) _
    refine XS.iloadN X1.here hx rfl (hb hby d1_19) rfl ?_
    show Steps p.tables e below (T1.setTop (mkF mi 20 #[.val (.ref t), .val (.int n), .val (.int (3 : Int32)), .unset] [(.int (3 : Int32)), (.int (1 : Int32)), (.ref t)])) _
    refine st2 _ ?_
    show Steps p.tables e below (T2.setTop (mkF mi 23 #[.val (.ref t), .val (.int n), .val (.int (3 : Int32)), .unset] [(.int (3 : Int32)), (.ref t)])) _
    refine st3 _ ?_
    show Steps p.tables e below (T3.setTop (mkF mi 26 #[.val (.ref t), .val (.int n), .val (.int (3 : Int32)), .unset] [(.ref ch), (.ref t)])) _
    refine st4 _ ?_
    show Steps p.tables e below (T4.setTop (mkF mi 29 #[.val (.ref t), .val (.int n), .val (.int (3 : Int32)), .unset] [])) _
    refine XS.iconst X4.here hx rfl (hb hby d1_29) ?_
    show Steps p.tables e below (T4.setTop (mkF mi 30 #[.val (.ref t), .val (.int n), .val (.int (3 : Int32)), .unset] [(.int (0 : Int32))])) _
    refine XS.istoreN X4.here hx rfl (hb hby d1_30) rfl (l' := #[.val (.ref t), .val (.int n), .val (.int (3 : Int32)), .val (.int (0 : Int32))]) rfl ?_
    show Steps p.tables e below (T4.setTop (mkF mi 31 #[.val (.ref t), .val (.int n), .val (.int (3 : Int32)), .val (.int (0 : Int32))] [])) _
    refine XS.iloadN X4.here hx rfl (hb hby d1_31) rfl ?_
    show Steps p.tables e below (T4.setTop (mkF mi 32 #[.val (.ref t), .val (.int n), .val (.int (3 : Int32)), .val (.int (0 : Int32))] [(.int (0 : Int32))])) _
    refine XS.iloadN X4.here hx rfl (hb hby d1_32) rfl ?_
    show Steps p.tables e below (T4.setTop (mkF mi 33 #[.val (.ref t), .val (.int n), .val (.int (3 : Int32)), .val (.int (0 : Int32))] [(.int (3 : Int32)), (.int (0 : Int32))])) _
    refine XS.icmpNo X4.here hx rfl (hb hby d1_33) rfl (tlt (by decide : (0 : Int32) < (3 : Int32))).2.1 ?_
    show Steps p.tables e below (T4.setTop (mkF mi 36 #[.val (.ref t), .val (.int n), .val (.int (3 : Int32)), .val (.int (0 : Int32))] [])) _
    refine XS.aloadN X4.here hx rfl (hb hby d1_36) rfl rfl ?_
    show Steps p.tables e below (T4.setTop (mkF mi 37 #[.val (.ref t), .val (.int n), .val (.int (3 : Int32)), .val (.int (0 : Int32))] [(.ref t)])) _
    refine st5 _ ?_
    show Steps p.tables e below (T5.setTop (mkF mi 40 #[.val (.ref t), .val (.int n), .val (.int (3 : Int32)), .val (.int (0 : Int32))] [(.ref ch)])) _
    refine XS.iloadN X5.here hx rfl (hb hby d1_40) rfl ?_
    show Steps p.tables e below (T5.setTop (mkF mi 41 #[.val (.ref t), .val (.int n), .val (.int (3 : Int32)), .val (.int (0 : Int32))] [(.int (0 : Int32)), (.ref ch)])) _
    refine X5.ldcInt hx hown (mvT hZ (hw _ (List.mem_of_getElem? (i := 20) rfl))) (g := (mkF mi 41 #[.val (.ref t), .val (.int n), .val (.int (3 : Int32)), .val (.int (0 : Int32))] [(.int (0 : Int32)), (.ref ch)])) rfl (hb hby d1_41) _ ?_
    show Steps p.tables e below (T5.setTop (mkF mi 43 #[.val (.ref t), .val (.int n), .val (.int (3 : Int32)), .val (.int (0 : Int32))] [(.int (32768 : Int32)), (.int (0 : Int32)), (.ref ch)])) _
    refine XS.iloadN X5.here hx rfl (hb hby d1_43) rfl ?_
    show Steps p.tables e below (T5.setTop (mkF mi 44 #[.val (.ref t), .val (.int n), .val (.int (3 : Int32)), .val (.int (0 : Int32))] [(.int n), (.int (32768 : Int32)), (.int (0 : Int32)), (.ref ch)])) _
    refine XS.iloadN X5.here hx rfl (hb hby d1_44) rfl ?_
    show Steps p.tables e below (T5.setTop (mkF mi 45 #[.val (.ref t), .val (.int n), .val (.int (3 : Int32)), .val (.int (0 : Int32))] [(.int (0 : Int32)), (.int n), (.int (32768 : Int32)), (.int (0 : Int32)), (.ref ch)])) _
    refine X5.ldcInt hx hown (mvT hZ (hw _ (List.mem_of_getElem? (i := 20) rfl))) (g := (mkF mi 45 #[.val (.ref t), .val (.int n), .val (.int (3 : Int32)), .val (.int (0 : Int32))] [(.int (0 : Int32)), (.int n), (.int (32768 : Int32)), (.int (0 : Int32)), (.ref ch)])) rfl (hb hby d1_45) _ ?_
    show Steps p.tables e below (T5.setTop (mkF mi 47 #[.val (.ref t), .val (.int n), .val (.int (3 : Int32)), .val (.int (0 : Int32))] [(.int (32768 : Int32)), (.int (0 : Int32)), (.int n), (.int (32768 : Int32)), (.int (0 : Int32)), (.ref ch)])) _
    refine XS.imul X5.here hx rfl (hb hby d1_47) rfl ?_
    show Steps p.tables e below (T5.setTop (mkF mi 48 #[.val (.ref t), .val (.int n), .val (.int (3 : Int32)), .val (.int (0 : Int32))] [(.int ((0 : Int32) * (32768 : Int32))), (.int n), (.int (32768 : Int32)), (.int (0 : Int32)), (.ref ch)])) _
    refine XS.isub X5.here hx rfl (hb hby d1_48) rfl ?_
    show Steps p.tables e below (T5.setTop (mkF mi 49 #[.val (.ref t), .val (.int n), .val (.int (3 : Int32)), .val (.int (0 : Int32))] [(.int (n - ((0 : Int32) * (32768 : Int32)))), (.int (32768 : Int32)), (.int (0 : Int32)), (.ref ch)])) _
    refine st6 _ ?_
    show Steps p.tables e below (T6.setTop (mkF mi 52 #[.val (.ref t), .val (.int n), .val (.int (3 : Int32)), .val (.int (0 : Int32))] [(.int (32768 : Int32)), (.int (0 : Int32)), (.ref ch)])) _
    refine st7 _ ?_
    show Steps p.tables e below (T7.setTop (mkF mi 54 #[.val (.ref t), .val (.int n), .val (.int (3 : Int32)), .val (.int (0 : Int32))] [(.ref b0), (.int (0 : Int32)), (.ref ch)])) _
    refine st9 _ ?_
    show Steps p.tables e below (T9.setTop (mkF mi 55 #[.val (.ref t), .val (.int n), .val (.int (3 : Int32)), .val (.int (0 : Int32))] [])) _
    refine XS.iinc X9.here hx rfl (hb hby d1_55) rfl (l' := #[.val (.ref t), .val (.int n), .val (.int (3 : Int32)), .val (.int (1 : Int32))]) rfl ?_
    show Steps p.tables e below (T9.setTop (mkF mi 58 #[.val (.ref t), .val (.int n), .val (.int (3 : Int32)), .val (.int (1 : Int32))] [])) _
    refine XS.goto X9.here hx rfl (pc0 := 58) (pc' := 31) rfl (hb hby d1_58) (by decide) (by decide) ?_
    show Steps p.tables e below (T9.setTop (mkF mi 31 #[.val (.ref t), .val (.int n), .val (.int (3 : Int32)), .val (.int (1 : Int32))] [])) _
    refine XS.iloadN X9.here hx rfl (hb hby d1_31) rfl ?_
    show Steps p.tables e below (T9.setTop (mkF mi 32 #[.val (.ref t), .val (.int n), .val (.int (3 : Int32)), .val (.int (1 : Int32))] [(.int (1 : Int32))])) _
    refine XS.iloadN X9.here hx rfl (hb hby d1_32) rfl ?_
    show Steps p.tables e below (T9.setTop (mkF mi 33 #[.val (.ref t), .val (.int n), .val (.int (3 : Int32)), .val (.int (1 : Int32))] [(.int (3 : Int32)), (.int (1 : Int32))])) _
    refine XS.icmpNo X9.here hx rfl (hb hby d1_33) rfl (tlt (by decide : (1 : Int32) < (3 : Int32))).2.1 ?_
    show Steps p.tables e below (T9.setTop (mkF mi 36 #[.val (.ref t), .val (.int n), .val (.int (3 : Int32)), .val (.int (1 : Int32))] [])) _
    refine XS.aloadN X9.here hx rfl (hb hby d1_36) rfl rfl ?_
    show Steps p.tables e below (T9.setTop (mkF mi 37 #[.val (.ref t), .val (.int n), .val (.int (3 : Int32)), .val (.int (1 : Int32))] [(.ref t)])) _
    refine st10 _ ?_
    show Steps p.tables e below (T10.setTop (mkF mi 40 #[.val (.ref t), .val (.int n), .val (.int (3 : Int32)), .val (.int (1 : Int32))] [(.ref ch)])) _
    refine XS.iloadN X10.here hx rfl (hb hby d1_40) rfl ?_
    show Steps p.tables e below (T10.setTop (mkF mi 41 #[.val (.ref t), .val (.int n), .val (.int (3 : Int32)), .val (.int (1 : Int32))] [(.int (1 : Int32)), (.ref ch)])) _
    refine X10.ldcInt hx hown (mvT hZ (hw _ (List.mem_of_getElem? (i := 20) rfl))) (g := (mkF mi 41 #[.val (.ref t), .val (.int n), .val (.int (3 : Int32)), .val (.int (1 : Int32))] [(.int (1 : Int32)), (.ref ch)])) rfl (hb hby d1_41) _ ?_
    show Steps p.tables e below (T10.setTop (mkF mi 43 #[.val (.ref t), .val (.int n), .val (.int (3 : Int32)), .val (.int (1 : Int32))] [(.int (32768 : Int32)), (.int (1 : Int32)), (.ref ch)])) _
    refine XS.iloadN X10.here hx rfl (hb hby d1_43) rfl ?_
    show Steps p.tables e below (T10.setTop (mkF mi 44 #[.val (.ref t), .val (.int n), .val (.int (3 : Int32)), .val (.int (1 : Int32))] [(.int n), (.int (32768 : Int32)), (.int (1 : Int32)), (.ref ch)])) _
    refine XS.iloadN X10.here hx rfl (hb hby d1_44) rfl ?_
    show Steps p.tables e below (T10.setTop (mkF mi 45 #[.val (.ref t), .val (.int n), .val (.int (3 : Int32)), .val (.int (1 : Int32))] [(.int (1 : Int32)), (.int n), (.int (32768 : Int32)), (.int (1 : Int32)), (.ref ch)])) _
    refine X10.ldcInt hx hown (mvT hZ (hw _ (List.mem_of_getElem? (i := 20) rfl))) (g := (mkF mi 45 #[.val (.ref t), .val (.int n), .val (.int (3 : Int32)), .val (.int (1 : Int32))] [(.int (1 : Int32)), (.int n), (.int (32768 : Int32)), (.int (1 : Int32)), (.ref ch)])) rfl (hb hby d1_45) _ ?_
    show Steps p.tables e below (T10.setTop (mkF mi 47 #[.val (.ref t), .val (.int n), .val (.int (3 : Int32)), .val (.int (1 : Int32))] [(.int (32768 : Int32)), (.int (1 : Int32)), (.int n), (.int (32768 : Int32)), (.int (1 : Int32)), (.ref ch)])) _
    refine XS.imul X10.here hx rfl (hb hby d1_47) rfl ?_
    show Steps p.tables e below (T10.setTop (mkF mi 48 #[.val (.ref t), .val (.int n), .val (.int (3 : Int32)), .val (.int (1 : Int32))] [(.int ((1 : Int32) * (32768 : Int32))), (.int n), (.int (32768 : Int32)), (.int (1 : Int32)), (.ref ch)])) _
    refine XS.isub X10.here hx rfl (hb hby d1_48) rfl ?_
    show Steps p.tables e below (T10.setTop (mkF mi 49 #[.val (.ref t), .val (.int n), .val (.int (3 : Int32)), .val (.int (1 : Int32))] [(.int (n - ((1 : Int32) * (32768 : Int32)))), (.int (32768 : Int32)), (.int (1 : Int32)), (.ref ch)])) _
    refine st11 _ ?_
    show Steps p.tables e below (T11.setTop (mkF mi 52 #[.val (.ref t), .val (.int n), .val (.int (3 : Int32)), .val (.int (1 : Int32))] [(.int (32768 : Int32)), (.int (1 : Int32)), (.ref ch)])) _
    refine st12 _ ?_
    show Steps p.tables e below (T12.setTop (mkF mi 54 #[.val (.ref t), .val (.int n), .val (.int (3 : Int32)), .val (.int (1 : Int32))] [(.ref b1), (.int (1 : Int32)), (.ref ch)])) _
    refine st14 _ ?_
    show Steps p.tables e below (T14.setTop (mkF mi 55 #[.val (.ref t), .val (.int n), .val (.int (3 : Int32)), .val (.int (1 : Int32))] [])) _
    refine XS.iinc X14.here hx rfl (hb hby d1_55) rfl (l' := #[.val (.ref t), .val (.int n), .val (.int (3 : Int32)), .val (.int (2 : Int32))]) rfl ?_
    show Steps p.tables e below (T14.setTop (mkF mi 58 #[.val (.ref t), .val (.int n), .val (.int (3 : Int32)), .val (.int (2 : Int32))] [])) _
    refine XS.goto X14.here hx rfl (pc0 := 58) (pc' := 31) rfl (hb hby d1_58) (by decide) (by decide) ?_
    show Steps p.tables e below (T14.setTop (mkF mi 31 #[.val (.ref t), .val (.int n), .val (.int (3 : Int32)), .val (.int (2 : Int32))] [])) _
    refine XS.iloadN X14.here hx rfl (hb hby d1_31) rfl ?_
    show Steps p.tables e below (T14.setTop (mkF mi 32 #[.val (.ref t), .val (.int n), .val (.int (3 : Int32)), .val (.int (2 : Int32))] [(.int (2 : Int32))])) _
    refine XS.iloadN X14.here hx rfl (hb hby d1_32) rfl ?_
    show Steps p.tables e below (T14.setTop (mkF mi 33 #[.val (.ref t), .val (.int n), .val (.int (3 : Int32)), .val (.int (2 : Int32))] [(.int (3 : Int32)), (.int (2 : Int32))])) _
    refine XS.icmpNo X14.here hx rfl (hb hby d1_33) rfl (tlt (by decide : (2 : Int32) < (3 : Int32))).2.1 ?_
    show Steps p.tables e below (T14.setTop (mkF mi 36 #[.val (.ref t), .val (.int n), .val (.int (3 : Int32)), .val (.int (2 : Int32))] [])) _
    refine XS.aloadN X14.here hx rfl (hb hby d1_36) rfl rfl ?_
    show Steps p.tables e below (T14.setTop (mkF mi 37 #[.val (.ref t), .val (.int n), .val (.int (3 : Int32)), .val (.int (2 : Int32))] [(.ref t)])) _
    refine st15 _ ?_
    show Steps p.tables e below (T15.setTop (mkF mi 40 #[.val (.ref t), .val (.int n), .val (.int (3 : Int32)), .val (.int (2 : Int32))] [(.ref ch)])) _
    refine XS.iloadN X15.here hx rfl (hb hby d1_40) rfl ?_
    show Steps p.tables e below (T15.setTop (mkF mi 41 #[.val (.ref t), .val (.int n), .val (.int (3 : Int32)), .val (.int (2 : Int32))] [(.int (2 : Int32)), (.ref ch)])) _
    refine X15.ldcInt hx hown (mvT hZ (hw _ (List.mem_of_getElem? (i := 20) rfl))) (g := (mkF mi 41 #[.val (.ref t), .val (.int n), .val (.int (3 : Int32)), .val (.int (2 : Int32))] [(.int (2 : Int32)), (.ref ch)])) rfl (hb hby d1_41) _ ?_
    show Steps p.tables e below (T15.setTop (mkF mi 43 #[.val (.ref t), .val (.int n), .val (.int (3 : Int32)), .val (.int (2 : Int32))] [(.int (32768 : Int32)), (.int (2 : Int32)), (.ref ch)])) _
    refine XS.iloadN X15.here hx rfl (hb hby d1_43) rfl ?_
    show Steps p.tables e below (T15.setTop (mkF mi 44 #[.val (.ref t), .val (.int n), .val (.int (3 : Int32)), .val (.int (2 : Int32))] [(.int n), (.int (32768 : Int32)), (.int (2 : Int32)), (.ref ch)])) _
    refine XS.iloadN X15.here hx rfl (hb hby d1_44) rfl ?_
    show Steps p.tables e below (T15.setTop (mkF mi 45 #[.val (.ref t), .val (.int n), .val (.int (3 : Int32)), .val (.int (2 : Int32))] [(.int (2 : Int32)), (.int n), (.int (32768 : Int32)), (.int (2 : Int32)), (.ref ch)])) _
    refine X15.ldcInt hx hown (mvT hZ (hw _ (List.mem_of_getElem? (i := 20) rfl))) (g := (mkF mi 45 #[.val (.ref t), .val (.int n), .val (.int (3 : Int32)), .val (.int (2 : Int32))] [(.int (2 : Int32)), (.int n), (.int (32768 : Int32)), (.int (2 : Int32)), (.ref ch)])) rfl (hb hby d1_45) _ ?_
    show Steps p.tables e below (T15.setTop (mkF mi 47 #[.val (.ref t), .val (.int n), .val (.int (3 : Int32)), .val (.int (2 : Int32))] [(.int (32768 : Int32)), (.int (2 : Int32)), (.int n), (.int (32768 : Int32)), (.int (2 : Int32)), (.ref ch)])) _
    refine XS.imul X15.here hx rfl (hb hby d1_47) rfl ?_
    show Steps p.tables e below (T15.setTop (mkF mi 48 #[.val (.ref t), .val (.int n), .val (.int (3 : Int32)), .val (.int (2 : Int32))] [(.int ((2 : Int32) * (32768 : Int32))), (.int n), (.int (32768 : Int32)), (.int (2 : Int32)), (.ref ch)])) _
    refine XS.isub X15.here hx rfl (hb hby d1_48) rfl ?_
    rw [hm]
    show Steps p.tables e below (T15.setTop (mkF mi 49 #[.val (.ref t), .val (.int n), .val (.int (3 : Int32)), .val (.int (2 : Int32))] [(.int m), (.int (32768 : Int32)), (.int (2 : Int32)), (.ref ch)])) _
    refine st16 _ ?_
    show Steps p.tables e below (T16.setTop (mkF mi 52 #[.val (.ref t), .val (.int n), .val (.int (3 : Int32)), .val (.int (2 : Int32))] [(.int m), (.int (2 : Int32)), (.ref ch)])) _
    refine st17 _ ?_
    show Steps p.tables e below (T17.setTop (mkF mi 54 #[.val (.ref t), .val (.int n), .val (.int (3 : Int32)), .val (.int (2 : Int32))] [(.ref b2), (.int (2 : Int32)), (.ref ch)])) _
    refine st19 _ ?_
    show Steps p.tables e below (T19.setTop (mkF mi 55 #[.val (.ref t), .val (.int n), .val (.int (3 : Int32)), .val (.int (2 : Int32))] [])) _
    refine XS.iinc X19.here hx rfl (hb hby d1_55) rfl (l' := #[.val (.ref t), .val (.int n), .val (.int (3 : Int32)), .val (.int (3 : Int32))]) rfl ?_
    show Steps p.tables e below (T19.setTop (mkF mi 58 #[.val (.ref t), .val (.int n), .val (.int (3 : Int32)), .val (.int (3 : Int32))] [])) _
    refine XS.goto X19.here hx rfl (pc0 := 58) (pc' := 31) rfl (hb hby d1_58) (by decide) (by decide) ?_
    show Steps p.tables e below (T19.setTop (mkF mi 31 #[.val (.ref t), .val (.int n), .val (.int (3 : Int32)), .val (.int (3 : Int32))] [])) _
    refine XS.iloadN X19.here hx rfl (hb hby d1_31) rfl ?_
    show Steps p.tables e below (T19.setTop (mkF mi 32 #[.val (.ref t), .val (.int n), .val (.int (3 : Int32)), .val (.int (3 : Int32))] [(.int (3 : Int32))])) _
    refine XS.iloadN X19.here hx rfl (hb hby d1_32) rfl ?_
    show Steps p.tables e below (T19.setTop (mkF mi 33 #[.val (.ref t), .val (.int n), .val (.int (3 : Int32)), .val (.int (3 : Int32))] [(.int (3 : Int32)), (.int (3 : Int32))])) _
    refine XS.icmpYes X19.here hx rfl (pc0 := 33) (pc' := 61) rfl (hb hby d1_33) rfl (flt (by decide : ¬ ((3 : Int32) < (3 : Int32)))).2.1 (by decide) (by decide) ?_
    show Steps p.tables e below (T19.setTop (mkF mi 61 #[.val (.ref t), .val (.int n), .val (.int (3 : Int32)), .val (.int (3 : Int32))] [])) _
    refine XS.aloadN X19.here hx rfl (hb hby d1_61) rfl rfl ?_
    show Steps p.tables e below (T19.setTop (mkF mi 62 #[.val (.ref t), .val (.int n), .val (.int (3 : Int32)), .val (.int (3 : Int32))] [(.ref t)])) _
    refine XS.iloadN X19.here hx rfl (hb hby d1_62) rfl ?_
    show Steps p.tables e below (T19.setTop (mkF mi 63 #[.val (.ref t), .val (.int n), .val (.int (3 : Int32)), .val (.int (3 : Int32))] [(.int n), (.ref t)])) _
    refine st20 _ ?_
    show Steps p.tables e below (T20.setTop (mkF mi 66 #[.val (.ref t), .val (.int n), .val (.int (3 : Int32)), .val (.int (3 : Int32))] [])) _
    exact X20.returnOut hx Bd.returns (hb hby d1_66) hr
  · show QI Z t n h0 n0 _ T20.heap _
    rw [e20]
    refine ⟨rfl, N20, KK20, ch, own_cs b0 b1 b2 b2, E_t_w20, F_ch_w20, F_sz_w20, ?_, ?_, ?_, ?_⟩
    · obtain ⟨cc, A, -, Sc, -, Hc, -⟩ := V_ch_w20
      refine ⟨cc, A, fun q hq => ?_⟩
      rcases (by omega : q = 0 ∨ q = 1 ∨ q = 2) with rfl | rfl | rfl
      · exact Hc 0 (by rw [Sc]; decide)
      · exact Hc 1 (by rw [Sc]; decide)
      · exact Hc 2 (by rw [Sc]; decide)
    · intro q hq
      rcases (by omega : q = 0 ∨ q = 1 ∨ q = 2) with rfl | rfl | rfl
      · obtain ⟨cx, A, -, Sc, -, Hc, -⟩ := V_b0_w20
        refine ⟨cx, A, fun r h1 h2 => Hc r ?_⟩
        rw [Sc]; show r < 32768; exact h1
      · obtain ⟨cx, A, -, Sc, -, Hc, -⟩ := V_b1_w20
        refine ⟨cx, A, fun r h1 h2 => Hc r ?_⟩
        rw [Sc]; show r < 32768; exact h1
      · obtain ⟨cx, A, -, Sc, -, Hc, -⟩ := V_b2_w20
        refine ⟨cx, A, fun r h1 h2 => Hc r ?_⟩
        rw [Sc]; exact own_lt hmI h2
    · intro q hq
      rcases (by omega : q = 0 ∨ q = 1 ∨ q = 2) with rfl | rfl | rfl
      · exact ⟨g_b0, (Ne.symm ne_ch_b0), (Ne.symm ne_t_b0)⟩
      · exact ⟨g_b1, (Ne.symm ne_ch_b1), (Ne.symm ne_t_b1)⟩
      · exact ⟨g_b2, (Ne.symm ne_ch_b2), (Ne.symm ne_t_b2)⟩
    · intro q q' hq hq' hne
      rcases (by omega : q = 0 ∨ q = 1 ∨ q = 2) with rfl | rfl | rfl <;> rcases (by omega : q' = 0 ∨ q' = 1 ∨ q' = 2) with rfl | rfl | rfl
      · exact absurd rfl hne
      · exact ne_b0_b1
      · exact ne_b0_b2
      · exact (Ne.symm ne_b0_b1)
      · exact absurd rfl hne
      · exact ne_b1_b2
      · exact (Ne.symm ne_b0_b2)
      · exact (Ne.symm ne_b1_b2)
      · exact absurd rfl hne
set_option maxRecDepth 65536 in
set_option maxHeartbeats 40000000 in
theorem rmInit4 (l : Launch) (Z : State) (a0 : Array Value) (hw : ∀ d ∈ tables_1, d.before a0 Z = true) (ws : List Jvm.Cond) (t : Addr) (n : Int32) (h0 : Heap) (n0 : Nat) (Z0 : n0 ≤ h0.size) (E_t : Exa Z h0 t "com/example/reachmark/reachmark/label/Intervals") (F_ch : Fld Z h0 t "com/example/reachmark/reachmark/label/Intervals" "chunks" "[[J" .null) (F_sz : Fld Z h0 t "com/example/reachmark/reachmark/label/Intervals" "size" "I" (.int (0 : Int32))) (g_t : n0 ≤ t) (hlo : 98304 < n.toInt) (hhi : n.toInt ≤ 131072) :
    MetFree l (⟨"com/example/reachmark/reachmark/label/Intervals", "<init>", "(I)V"⟩ : MethodName) (head1 (Jvm.Cond.code (⟨"com/example/reachmark/reachmark/label/Intervals", "<init>", "(I)V"⟩ : MethodName) prog_43_method_2_code 4 none :: ws) ({ frames := 1, cells := 5, slots := 131076, locals := 15 } : Room)) (fun a U => a = #[(.ref t), (.int n)] ∧ Z.Warmed39 U.vm ∧ U.heap = h0) (fun _ _ _ _ _ => True) (fun _ U o U' => ∃ v L, o = .returned v ∧ QI Z t n h0 n0 v U'.heap L ∧ FrameEnd U o U' L ({ frames := 1, cells := 5, slots := 131076, locals := 15 } : Room).cells ({ frames := 1, cells := 5, slots := 131076, locals := 15 } : Room).slots) := by
  have hcnt : (((((n.toInt64) + (32768 : Int64)) - (1 : Int64)).toUInt64 >>> ((15 : Int32) &&& 0x3f).toInt64.toUInt64).toInt64).toInt32 = (4 : Int32) := by
    have e := own_cnt n (by omega) (by omega)
    have e1 : (4 : Int32).toInt = 4 := rfl
    exact Int32.toInt_inj.mp (by rw [e, e1]; omega)
  have hp0 : ((0 : Int32) * (32768 : Int32)).toInt = 0 := rfl
  have hs0 := Jvm.Kit.i32_sub (p := n) (q := (0 : Int32) * (32768 : Int32)) (by omega) (by omega)
  have hd0 : ¬ ((n - ((0 : Int32) * (32768 : Int32))) < (32768 : Int32)) := by
    have e1 : (32768 : Int32).toInt = 32768 := rfl
    rw [Int32.lt_iff_toInt_lt]; omega
  have hp1 : ((1 : Int32) * (32768 : Int32)).toInt = 32768 := rfl
  have hs1 := Jvm.Kit.i32_sub (p := n) (q := (1 : Int32) * (32768 : Int32)) (by omega) (by omega)
  have hd1 : ¬ ((n - ((1 : Int32) * (32768 : Int32))) < (32768 : Int32)) := by
    have e1 : (32768 : Int32).toInt = 32768 := rfl
    rw [Int32.lt_iff_toInt_lt]; omega
  have hp2 : ((2 : Int32) * (32768 : Int32)).toInt = 65536 := rfl
  have hs2 := Jvm.Kit.i32_sub (p := n) (q := (2 : Int32) * (32768 : Int32)) (by omega) (by omega)
  have hd2 : ¬ ((n - ((2 : Int32) * (32768 : Int32))) < (32768 : Int32)) := by
    have e1 : (32768 : Int32).toInt = 32768 := rfl
    rw [Int32.lt_iff_toInt_lt]; omega
  have hp3 : ((3 : Int32) * (32768 : Int32)).toInt = 98304 := rfl
  have hs3 := Jvm.Kit.i32_sub (p := n) (q := (3 : Int32) * (32768 : Int32)) (by omega) (by omega)
  obtain ⟨m, hm⟩ : ∃ m, (n - ((3 : Int32) * (32768 : Int32))) = m := ⟨_, rfl⟩
  rw [hm] at hs3
  have hmB : ¬ ((32768 : Int32) < m) := by
    have e1 : (32768 : Int32).toInt = 32768 := rfl
    rw [Int32.lt_iff_toInt_lt]; omega
  have hmI : m.toInt = n.toInt - ((3 : Nat) : Int) * 32768 := by omega
  have hm0 : ¬ (m < 0) := own_nz (by omega)
  have hmc : m.toNatClampNeg ≤ 32768 := by rw [own_cl]; omega
  refine MetFree.of_bodySF (plainFor_of_name pn_com_example_reachmark_reachmark_label_Intervals) hisR ?_
  intro p e s mi args below meth c s₁ Bd hml0 hP hK
  obtain ⟨rfl, hZ, hh⟩ := hP
  have hx := Bd.exec
  have hby := Bd.bytes
  have hml : c.maxLocals = 4 := hml0
  have hown : s.vm.findClass "com/example/reachmark/reachmark/label/Intervals" = some mi.cls := findClass_of_methodNamed Bd.named
  have X0 : Stand p l e ({ frames := 1, cells := 5, slots := 131076, locals := 15 } : Room) s mi #[(.ref t), (.int n)] below meth c s₁ [] 0 0 := Stand.of_body Bd
  have e0 : s₁.heap = h0 := by rw [← hh, Bd.state]; rfl
  have N0 := Fr.nil n0
  have KK0 : Keep h0 h0 [t] := Keep.refl h0 [t]
  have pre0 : ∀ u, Steps p.tables e below (s₁.setTop (mkF mi 0 #[.val (.ref t), .val (.int n), .unset, .unset] [])) u → Steps p.tables e below (s₁.setTop (entryFrame mi #[(.ref t), (.int n)] 4)) u := fun u k => castTop (by first | (simp [entryFrame, mkF, argsToLocals, Value.category]; done) | rfl) k
  obtain ⟨T1, X1, e1, st1⟩ := initO X0 hx hZ hown (hw _ (List.mem_of_getElem? (i := 8) rfl)) (hw _ (List.mem_of_getElem? (i := 9) rfl)) (hw _ (List.mem_of_getElem? (i := 10) rfl)) e0 (g := (mkF mi 1 #[.val (.ref t), .val (.int n), .unset, .unset] [(.ref t)])) rfl (by rw [hml]; rfl) rfl (hb hby d1_1) (by decide) (W := 0) (by show 2 * 0 + _ ≤ _; exact Nat.le_of_eq rfl) (by decide)
  obtain ⟨_, _, ⟨T2, L2, k2, n2⟩, -, X2, ⟨Lc2, hQ2, l2, y2, z2⟩, st2⟩ := Jvm.LawKit.callS X1 hx (y := (⟨"java/lang/Math", "max", "(II)I"⟩ : MethodName)) hown (mvT hZ (hw _ (List.mem_of_getElem? (i := 12) rfl))) (mvT hZ (hw _ (List.mem_of_getElem? (i := 13) rfl))) (mvT hZ (hw _ (List.mem_of_getElem? (i := 14) rfl))) (mvT hZ (hw _ (List.mem_of_getElem? (i := 15) rfl))) (by decide) (backOf (W := 1) (rm3_6 l Z a0 hw [] (0 : Int32) h0 n0 (Nat.le_trans Z0 KK0.1) trivial) hZ (hw _ (List.mem_of_getElem? (i := 15) rfl)) (hw _ (List.mem_of_getElem? (i := 14) rfl)) (by decide) (by decide)) (g := (mkF mi 20 #[.val (.ref t), .val (.int n), .val (.int (4 : Int32)), .unset] [(.int (4 : Int32)), (.int (1 : Int32)), (.ref t)])) rfl (by rw [hml]; rfl) (argsL := [(.int (1 : Int32)), (.int (4 : Int32))]) (rest := [(.ref t)]) (lenOf pd_0 rfl) rfl (by show 2 * 0 + _ ≤ _; exact Nat.le_of_eq rfl) (hb hby d1_20) (fun _ _ => ⟨rfl, e1, (by decide : 0 + 0 ≤ _), (by decide : 0 + 0 ≤ _)⟩)
  dsimp only [Pt.U, Pt.locs, Pt.cells, Pt.slots] at X2 l2 y2 z2 st2 hQ2
  subst l2 y2 z2
  obtain ⟨rfl, N2q, e2⟩ := hQ2
  have N2 := Fr.app N0 N2q
  obtain ⟨T3, h3, k3, X3, e3, E3, A3, EA3, O3, st3⟩ := newRA X2 hx hZ (ty := .long) hown (C := "[J") rfl (hw _ (List.mem_of_getElem? (i := 16) rfl)) (hw _ (List.mem_of_getElem? (i := 17) rfl)) e2 (g := (mkF mi 23 #[.val (.ref t), .val (.int n), .val (.int (4 : Int32)), .unset] [(.int (4 : Int32)), (.ref t)])) rfl (hb hby d1_23) rfl (by decide) (cap := 4) (by decide) (by decide) (by decide) (by decide) (ad := "[[J") rfl
  obtain ⟨ch, g3⟩ : ∃ z, z = h0.size := ⟨_, rfl⟩
  rw [← g3] at A3 st3
  have ne_t_ch : t ≠ ch := Nat.ne_of_lt (Nat.lt_of_lt_of_le E_t.lt (Nat.le_of_eq g3.symm))
  have sz_ch : h0.size ≤ ch := Nat.le_trans KK0.1 (Nat.le_of_eq g3.symm)
  have g_ch : n0 ≤ ch := Nat.le_trans Z0 sz_ch
  have E_t_x3 := E_t.ext E3
  have F_ch_x3 := F_ch.ext E3
  have F_sz_x3 := F_sz.ext E3
  have KK3 : Keep h0 h3 [t] := KK0.ext E3
  have V_ch : Arv Z h3 ch k3 (.array .long) (4 : Int32) [.null, .null, .null, .null] .null := (Arv.new A3 (by decide)).pad (pad_rep [] .null 4)
  obtain ⟨T4, h4, X4, e4, W4, st4⟩ := putF X3 hx hZ hown (host := "") (Or.inl (hw _ (List.mem_of_getElem? (i := 18) rfl))) Via.refl e3 F_ch_x3 E_t_x3 (Or.inl (hw _ (List.mem_of_getElem? (i := 19) rfl))) (hw _ (List.mem_of_getElem? (i := 3) rfl)) (ty := (.array (.array .long))) (by decide) rfl rfl (g := (mkF mi 26 #[.val (.ref t), .val (.int n), .val (.int (4 : Int32)), .unset] [(.ref ch), (.ref t)])) rfl rfl (hb hby d1_26)
  have E_t_w4 := E_t_x3.wr W4
  have F_ch_w4 := F_ch_x3.same W4
  have F_sz_w4 := F_sz_x3.other W4 (Or.inr (slot_ne (Or.inl (hw _ (List.mem_of_getElem? (i := 27) rfl))) (Or.inl (hw _ (List.mem_of_getElem? (i := 19) rfl))) (by decide) (t := .int) (t' := (.array (.array .long))) (by decide) (by decide)))
  have V_ch_w4 := V_ch.other W4 (Ne.symm ne_t_ch)
  have KK4 : Keep h0 h4 [t] := KK3.wr W4 (Or.inl (List.mem_of_getElem? (i := 0) rfl))
  have N4 := Fr.snoc X4 N2 g_t
  obtain ⟨T5, X5, e5, st5⟩ := getF X4 hx hZ hown (host := "") (Or.inl (hw _ (List.mem_of_getElem? (i := 18) rfl))) Via.refl e4 F_ch_w4 (g := (mkF mi 37 #[.val (.ref t), .val (.int n), .val (.int (4 : Int32)), .val (.int (0 : Int32))] [(.ref t)])) rfl rfl (hb hby d1_37)
  obtain ⟨_, _, ⟨T6, L6, k6, n6⟩, -, X6, ⟨Lc6, hQ6, l6, y6, z6⟩, st6⟩ := Jvm.LawKit.callS X5 hx (y := (⟨"java/lang/Math", "min", "(II)I"⟩ : MethodName)) hown (mvT hZ (hw _ (List.mem_of_getElem? (i := 21) rfl))) (mvT hZ (hw _ (List.mem_of_getElem? (i := 22) rfl))) (mvT hZ (hw _ (List.mem_of_getElem? (i := 14) rfl))) (mvT hZ (hw _ (List.mem_of_getElem? (i := 23) rfl))) (by decide) (backOf (W := 2) (rm4_1 l Z a0 hw [] (n - ((0 : Int32) * (32768 : Int32))) h4 n0 (Nat.le_trans Z0 KK4.1) trivial hd0) hZ (hw _ (List.mem_of_getElem? (i := 23) rfl)) (hw _ (List.mem_of_getElem? (i := 14) rfl)) (by decide) (by decide)) (g := (mkF mi 49 #[.val (.ref t), .val (.int n), .val (.int (4 : Int32)), .val (.int (0 : Int32))] [(.int (n - ((0 : Int32) * (32768 : Int32)))), (.int (32768 : Int32)), (.int (0 : Int32)), (.ref ch)])) rfl (by rw [hml]; rfl) (argsL := [(.int (32768 : Int32)), (.int (n - ((0 : Int32) * (32768 : Int32))))]) (rest := [(.int (0 : Int32)), (.ref ch)]) (lenOf pd_0 rfl) rfl (by show 2 * 0 + _ ≤ _; exact Nat.le_of_eq rfl) (hb hby d1_49) (fun _ _ => ⟨rfl, e5, (by decide : 1 + 0 ≤ _), (by decide : 4 + 0 ≤ _)⟩)
  dsimp only [Pt.U, Pt.locs, Pt.cells, Pt.slots] at X6 l6 y6 z6 st6 hQ6
  subst l6 y6 z6
  obtain ⟨rfl, N6q, e6⟩ := hQ6
  have N6 := Fr.app N4 N6q
  obtain ⟨T7, h7, k7, X7, e7, E7, A7, EA7, st7⟩ := newPE X6 hx hZ (hw _ (List.mem_of_getElem? (i := 24) rfl)) e6 (g := (mkF mi 52 #[.val (.ref t), .val (.int n), .val (.int (4 : Int32)), .val (.int (0 : Int32))] [(.int (32768 : Int32)), (.int (0 : Int32)), (.ref ch)])) rfl (hb hby d1_52) rfl (by decide) (cap := 32768) (by decide) (by decide) (by decide) (by decide) (ad := "[J") (by decide)
  obtain ⟨b0, g7⟩ : ∃ z, z = h4.size := ⟨_, rfl⟩
  rw [← g7] at A7 EA7 st7
  have ne_t_b0 : t ≠ b0 := Nat.ne_of_lt (Nat.lt_of_lt_of_le E_t_w4.lt (Nat.le_of_eq g7.symm))
  have ne_ch_b0 : ch ≠ b0 := Nat.ne_of_lt (Nat.lt_of_lt_of_le V_ch_w4.lt (Nat.le_of_eq g7.symm))
  have sz_b0 : h0.size ≤ b0 := Nat.le_trans KK4.1 (Nat.le_of_eq g7.symm)
  have g_b0 : n0 ≤ b0 := Nat.le_trans Z0 sz_b0
  have E_t_x7 := E_t_w4.ext E7
  have F_ch_x7 := F_ch_w4.ext E7
  have F_sz_x7 := F_sz_w4.ext E7
  have V_ch_x7 := V_ch_w4.ext E7
  have KK7 : Keep h0 h7 [t] := KK4.ext E7
  have V_b0 : Arv Z h7 b0 k7 .long (32768 : Int32) [] (.long (0 : Int64)) := Arv.new A7 (by decide)
  have E_b0 : Exa Z h7 b0 "[J" := EA7
  obtain ⟨cl8, Ar8, qq8, Sz8, Ng8, Hs8, Gf8⟩ := V_ch_x7
  have hin8 : ¬ ((0 : Int32) < 0 ∨ cl8.slots.size ≤ ((0 : Int32)).toNatClampNeg) := inb_of Sz8 ⟨by decide, by decide⟩
  obtain ⟨T9, h9, X9, e9, W9, st9⟩ := stR X7 hx hZ e7 Ar8 (j := (0 : Int32)) hin8 rfl (Sto.ofVA Ar8 qq8 O3 (Ins.self E_b0)) (g := (mkF mi 54 #[.val (.ref t), .val (.int n), .val (.int (4 : Int32)), .val (.int (0 : Int32))] [(.ref b0), (.int (0 : Int32)), (.ref ch)])) rfl rfl (hb hby d1_54)
  have E_t_w9 := E_t_x7.wr W9
  have F_ch_w9 := F_ch_x7.other W9 (Or.inl ne_t_ch)
  have F_sz_w9 := F_sz_x7.other W9 (Or.inl ne_t_ch)
  have V_b0_w9 := V_b0.other W9 (Ne.symm ne_ch_b0)
  have E_b0_w9 := E_b0.wr W9
  have KK9 : Keep h0 h9 [t] := KK7.wr W9 (Or.inr sz_ch)
  have N9 := Fr.snoc X9 N6 g_ch
  have V_ch_w9 : Arv Z h9 ch k3 (.array .long) (4 : Int32) [(.ref b0), .null, .null, .null] .null := Arv.set Ar8 qq8 Sz8 Ng8 Hs8 Gf8 rfl W9 0 rfl (Nat.le_of_ble_eq_true rfl)
  obtain ⟨T10, X10, e10, st10⟩ := getF X9 hx hZ hown (host := "") (Or.inl (hw _ (List.mem_of_getElem? (i := 18) rfl))) Via.refl e9 F_ch_w9 (g := (mkF mi 37 #[.val (.ref t), .val (.int n), .val (.int (4 : Int32)), .val (.int (1 : Int32))] [(.ref t)])) rfl rfl (hb hby d1_37)
  obtain ⟨_, _, ⟨T11, L11, k11, n11⟩, -, X11, ⟨Lc11, hQ11, l11, y11, z11⟩, st11⟩ := Jvm.LawKit.callS X10 hx (y := (⟨"java/lang/Math", "min", "(II)I"⟩ : MethodName)) hown (mvT hZ (hw _ (List.mem_of_getElem? (i := 21) rfl))) (mvT hZ (hw _ (List.mem_of_getElem? (i := 22) rfl))) (mvT hZ (hw _ (List.mem_of_getElem? (i := 14) rfl))) (mvT hZ (hw _ (List.mem_of_getElem? (i := 23) rfl))) (by decide) (backOf (W := 2) (rm4_1 l Z a0 hw [] (n - ((1 : Int32) * (32768 : Int32))) h9 n0 (Nat.le_trans Z0 KK9.1) trivial hd1) hZ (hw _ (List.mem_of_getElem? (i := 23) rfl)) (hw _ (List.mem_of_getElem? (i := 14) rfl)) (by decide) (by decide)) (g := (mkF mi 49 #[.val (.ref t), .val (.int n), .val (.int (4 : Int32)), .val (.int (1 : Int32))] [(.int (n - ((1 : Int32) * (32768 : Int32)))), (.int (32768 : Int32)), (.int (1 : Int32)), (.ref ch)])) rfl (by rw [hml]; rfl) (argsL := [(.int (32768 : Int32)), (.int (n - ((1 : Int32) * (32768 : Int32))))]) (rest := [(.int (1 : Int32)), (.ref ch)]) (lenOf pd_0 rfl) rfl (by show 2 * 0 + _ ≤ _; exact Nat.le_of_eq rfl) (hb hby d1_49) (fun _ _ => ⟨rfl, e10, (by decide : 2 + 0 ≤ _), (by decide : 32772 + 0 ≤ _)⟩)
  dsimp only [Pt.U, Pt.locs, Pt.cells, Pt.slots] at X11 l11 y11 z11 st11 hQ11
  subst l11 y11 z11
  obtain ⟨rfl, N11q, e11⟩ := hQ11
  have N11 := Fr.app N9 N11q
  obtain ⟨T12, h12, k12, X12, e12, E12, A12, EA12, st12⟩ := newPE X11 hx hZ (hw _ (List.mem_of_getElem? (i := 24) rfl)) e11 (g := (mkF mi 52 #[.val (.ref t), .val (.int n), .val (.int (4 : Int32)), .val (.int (1 : Int32))] [(.int (32768 : Int32)), (.int (1 : Int32)), (.ref ch)])) rfl (hb hby d1_52) rfl (by decide) (cap := 32768) (by decide) (by decide) (by decide) (by decide) (ad := "[J") (by decide)
  obtain ⟨b1, g12⟩ : ∃ z, z = h9.size := ⟨_, rfl⟩
  rw [← g12] at A12 EA12 st12
  have ne_t_b1 : t ≠ b1 := Nat.ne_of_lt (Nat.lt_of_lt_of_le E_t_w9.lt (Nat.le_of_eq g12.symm))
  have ne_ch_b1 : ch ≠ b1 := Nat.ne_of_lt (Nat.lt_of_lt_of_le V_ch_w9.lt (Nat.le_of_eq g12.symm))
  have ne_b0_b1 : b0 ≠ b1 := Nat.ne_of_lt (Nat.lt_of_lt_of_le V_b0_w9.lt (Nat.le_of_eq g12.symm))
  have sz_b1 : h0.size ≤ b1 := Nat.le_trans KK9.1 (Nat.le_of_eq g12.symm)
  have g_b1 : n0 ≤ b1 := Nat.le_trans Z0 sz_b1
  have E_t_x12 := E_t_w9.ext E12
  have F_ch_x12 := F_ch_w9.ext E12
  have F_sz_x12 := F_sz_w9.ext E12
  have V_b0_x12 := V_b0_w9.ext E12
  have E_b0_x12 := E_b0_w9.ext E12
  have V_ch_x12 := V_ch_w9.ext E12
  have KK12 : Keep h0 h12 [t] := KK9.ext E12
  have V_b1 : Arv Z h12 b1 k12 .long (32768 : Int32) [] (.long (0 : Int64)) := Arv.new A12 (by decide)
  have E_b1 : Exa Z h12 b1 "[J" := EA12
  obtain ⟨cl13, Ar13, qq13, Sz13, Ng13, Hs13, Gf13⟩ := V_ch_x12
  have hin13 : ¬ ((1 : Int32) < 0 ∨ cl13.slots.size ≤ ((1 : Int32)).toNatClampNeg) := inb_of Sz13 ⟨by decide, by decide⟩
  obtain ⟨T14, h14, X14, e14, W14, st14⟩ := stR X12 hx hZ e12 Ar13 (j := (1 : Int32)) hin13 rfl (Sto.ofVA Ar13 qq13 O3 (Ins.self E_b1)) (g := (mkF mi 54 #[.val (.ref t), .val (.int n), .val (.int (4 : Int32)), .val (.int (1 : Int32))] [(.ref b1), (.int (1 : Int32)), (.ref ch)])) rfl rfl (hb hby d1_54)
  have E_t_w14 := E_t_x12.wr W14
  have F_ch_w14 := F_ch_x12.other W14 (Or.inl ne_t_ch)
  have F_sz_w14 := F_sz_x12.other W14 (Or.inl ne_t_ch)
  have V_b0_w14 := V_b0_x12.other W14 (Ne.symm ne_ch_b0)
  have E_b0_w14 := E_b0_x12.wr W14
  have V_b1_w14 := V_b1.other W14 (Ne.symm ne_ch_b1)
  have E_b1_w14 := E_b1.wr W14
  have KK14 : Keep h0 h14 [t] := KK12.wr W14 (Or.inr sz_ch)
  have N14 := Fr.snoc X14 N11 g_ch
  have V_ch_w14 : Arv Z h14 ch k3 (.array .long) (4 : Int32) [(.ref b0), (.ref b1), .null, .null] .null := Arv.set Ar13 qq13 Sz13 Ng13 Hs13 Gf13 rfl W14 1 rfl (Nat.le_of_ble_eq_true rfl)
  obtain ⟨T15, X15, e15, st15⟩ := getF X14 hx hZ hown (host := "") (Or.inl (hw _ (List.mem_of_getElem? (i := 18) rfl))) Via.refl e14 F_ch_w14 (g := (mkF mi 37 #[.val (.ref t), .val (.int n), .val (.int (4 : Int32)), .val (.int (2 : Int32))] [(.ref t)])) rfl rfl (hb hby d1_37)
  obtain ⟨_, _, ⟨T16, L16, k16, n16⟩, -, X16, ⟨Lc16, hQ16, l16, y16, z16⟩, st16⟩ := Jvm.LawKit.callS X15 hx (y := (⟨"java/lang/Math", "min", "(II)I"⟩ : MethodName)) hown (mvT hZ (hw _ (List.mem_of_getElem? (i := 21) rfl))) (mvT hZ (hw _ (List.mem_of_getElem? (i := 22) rfl))) (mvT hZ (hw _ (List.mem_of_getElem? (i := 14) rfl))) (mvT hZ (hw _ (List.mem_of_getElem? (i := 23) rfl))) (by decide) (backOf (W := 2) (rm4_1 l Z a0 hw [] (n - ((2 : Int32) * (32768 : Int32))) h14 n0 (Nat.le_trans Z0 KK14.1) trivial hd2) hZ (hw _ (List.mem_of_getElem? (i := 23) rfl)) (hw _ (List.mem_of_getElem? (i := 14) rfl)) (by decide) (by decide)) (g := (mkF mi 49 #[.val (.ref t), .val (.int n), .val (.int (4 : Int32)), .val (.int (2 : Int32))] [(.int (n - ((2 : Int32) * (32768 : Int32)))), (.int (32768 : Int32)), (.int (2 : Int32)), (.ref ch)])) rfl (by rw [hml]; rfl) (argsL := [(.int (32768 : Int32)), (.int (n - ((2 : Int32) * (32768 : Int32))))]) (rest := [(.int (2 : Int32)), (.ref ch)]) (lenOf pd_0 rfl) rfl (by show 2 * 0 + _ ≤ _; exact Nat.le_of_eq rfl) (hb hby d1_49) (fun _ _ => ⟨rfl, e15, (by decide : 3 + 0 ≤ _), (by decide : 65540 + 0 ≤ _)⟩)
  dsimp only [Pt.U, Pt.locs, Pt.cells, Pt.slots] at X16 l16 y16 z16 st16 hQ16
  subst l16 y16 z16
  obtain ⟨rfl, N16q, e16⟩ := hQ16
  have N16 := Fr.app N14 N16q
  obtain ⟨T17, h17, k17, X17, e17, E17, A17, EA17, st17⟩ := newPE X16 hx hZ (hw _ (List.mem_of_getElem? (i := 24) rfl)) e16 (g := (mkF mi 52 #[.val (.ref t), .val (.int n), .val (.int (4 : Int32)), .val (.int (2 : Int32))] [(.int (32768 : Int32)), (.int (2 : Int32)), (.ref ch)])) rfl (hb hby d1_52) rfl (by decide) (cap := 32768) (by decide) (by decide) (by decide) (by decide) (ad := "[J") (by decide)
  obtain ⟨b2, g17⟩ : ∃ z, z = h14.size := ⟨_, rfl⟩
  rw [← g17] at A17 EA17 st17
  have ne_t_b2 : t ≠ b2 := Nat.ne_of_lt (Nat.lt_of_lt_of_le E_t_w14.lt (Nat.le_of_eq g17.symm))
  have ne_ch_b2 : ch ≠ b2 := Nat.ne_of_lt (Nat.lt_of_lt_of_le V_ch_w14.lt (Nat.le_of_eq g17.symm))
  have ne_b0_b2 : b0 ≠ b2 := Nat.ne_of_lt (Nat.lt_of_lt_of_le V_b0_w14.lt (Nat.le_of_eq g17.symm))
  have ne_b1_b2 : b1 ≠ b2 := Nat.ne_of_lt (Nat.lt_of_lt_of_le V_b1_w14.lt (Nat.le_of_eq g17.symm))
  have sz_b2 : h0.size ≤ b2 := Nat.le_trans KK14.1 (Nat.le_of_eq g17.symm)
  have g_b2 : n0 ≤ b2 := Nat.le_trans Z0 sz_b2
  have E_t_x17 := E_t_w14.ext E17
  have F_ch_x17 := F_ch_w14.ext E17
  have F_sz_x17 := F_sz_w14.ext E17
  have V_b0_x17 := V_b0_w14.ext E17
  have E_b0_x17 := E_b0_w14.ext E17
  have V_b1_x17 := V_b1_w14.ext E17
  have E_b1_x17 := E_b1_w14.ext E17
  have V_ch_x17 := V_ch_w14.ext E17
  have KK17 : Keep h0 h17 [t] := KK14.ext E17
  have V_b2 : Arv Z h17 b2 k17 .long (32768 : Int32) [] (.long (0 : Int64)) := Arv.new A17 (by decide)
  have E_b2 : Exa Z h17 b2 "[J" := EA17
  obtain ⟨cl18, Ar18, qq18, Sz18, Ng18, Hs18, Gf18⟩ := V_ch_x17
  have hin18 : ¬ ((2 : Int32) < 0 ∨ cl18.slots.size ≤ ((2 : Int32)).toNatClampNeg) := inb_of Sz18 ⟨by decide, by decide⟩
  obtain ⟨T19, h19, X19, e19, W19, st19⟩ := stR X17 hx hZ e17 Ar18 (j := (2 : Int32)) hin18 rfl (Sto.ofVA Ar18 qq18 O3 (Ins.self E_b2)) (g := (mkF mi 54 #[.val (.ref t), .val (.int n), .val (.int (4 : Int32)), .val (.int (2 : Int32))] [(.ref b2), (.int (2 : Int32)), (.ref ch)])) rfl rfl (hb hby d1_54)
  have E_t_w19 := E_t_x17.wr W19
  have F_ch_w19 := F_ch_x17.other W19 (Or.inl ne_t_ch)
  have F_sz_w19 := F_sz_x17.other W19 (Or.inl ne_t_ch)
  have V_b0_w19 := V_b0_x17.other W19 (Ne.symm ne_ch_b0)
  have E_b0_w19 := E_b0_x17.wr W19
  have V_b1_w19 := V_b1_x17.other W19 (Ne.symm ne_ch_b1)
  have E_b1_w19 := E_b1_x17.wr W19
  have V_b2_w19 := V_b2.other W19 (Ne.symm ne_ch_b2)
  have E_b2_w19 := E_b2.wr W19
  have KK19 : Keep h0 h19 [t] := KK17.wr W19 (Or.inr sz_ch)
  have N19 := Fr.snoc X19 N16 g_ch
  have V_ch_w19 : Arv Z h19 ch k3 (.array .long) (4 : Int32) [(.ref b0), (.ref b1), (.ref b2), .null] .null := Arv.set Ar18 qq18 Sz18 Ng18 Hs18 Gf18 rfl W19 2 rfl (Nat.le_of_ble_eq_true rfl)
  obtain ⟨T20, X20, e20, st20⟩ := getF X19 hx hZ hown (host := "") (Or.inl (hw _ (List.mem_of_getElem? (i := 18) rfl))) Via.refl e19 F_ch_w19 (g := (mkF mi 37 #[.val (.ref t), .val (.int n), .val (.int (4 : Int32)), .val (.int (3 : Int32))] [(.ref t)])) rfl rfl (hb hby d1_37)
  obtain ⟨_, _, ⟨T21, L21, k21, n21⟩, -, X21, ⟨Lc21, hQ21, l21, y21, z21⟩, st21⟩ := Jvm.LawKit.callS X20 hx (y := (⟨"java/lang/Math", "min", "(II)I"⟩ : MethodName)) hown (mvT hZ (hw _ (List.mem_of_getElem? (i := 21) rfl))) (mvT hZ (hw _ (List.mem_of_getElem? (i := 22) rfl))) (mvT hZ (hw _ (List.mem_of_getElem? (i := 14) rfl))) (mvT hZ (hw _ (List.mem_of_getElem? (i := 23) rfl))) (by decide) (backOf (W := 2) (minB l Z a0 hw [] m h19 n0 (Nat.le_trans Z0 KK19.1) hmB) hZ (hw _ (List.mem_of_getElem? (i := 23) rfl)) (hw _ (List.mem_of_getElem? (i := 14) rfl)) (by decide) (by decide)) (g := (mkF mi 49 #[.val (.ref t), .val (.int n), .val (.int (4 : Int32)), .val (.int (3 : Int32))] [(.int m), (.int (32768 : Int32)), (.int (3 : Int32)), (.ref ch)])) rfl (by rw [hml]; rfl) (argsL := [(.int (32768 : Int32)), (.int m)]) (rest := [(.int (3 : Int32)), (.ref ch)]) (lenOf pd_0 rfl) rfl (by show 2 * 0 + _ ≤ _; exact Nat.le_of_eq rfl) (hb hby d1_49) (fun _ _ => ⟨rfl, e20, (by decide : 4 + 0 ≤ _), (by decide : 98308 + 0 ≤ _)⟩)
  dsimp only [Pt.U, Pt.locs, Pt.cells, Pt.slots] at X21 l21 y21 z21 st21 hQ21
  subst l21 y21 z21
  obtain ⟨rfl, N21q, e21⟩ := hQ21
  have N21 := Fr.app N19 N21q
  obtain ⟨T22, h22, k22, X22, e22, E22, A22, EA22, st22⟩ := newPE X21 hx hZ (hw _ (List.mem_of_getElem? (i := 24) rfl)) e21 (g := (mkF mi 52 #[.val (.ref t), .val (.int n), .val (.int (4 : Int32)), .val (.int (3 : Int32))] [(.int m), (.int (3 : Int32)), (.ref ch)])) rfl (hb hby d1_52) rfl hm0 (cap := 32768) hmc (by decide) (by decide) (by decide) (ad := "[J") (by decide)
  obtain ⟨b3, g22⟩ : ∃ z, z = h19.size := ⟨_, rfl⟩
  rw [← g22] at A22 EA22 st22
  have ne_t_b3 : t ≠ b3 := Nat.ne_of_lt (Nat.lt_of_lt_of_le E_t_w19.lt (Nat.le_of_eq g22.symm))
  have ne_ch_b3 : ch ≠ b3 := Nat.ne_of_lt (Nat.lt_of_lt_of_le V_ch_w19.lt (Nat.le_of_eq g22.symm))
  have ne_b0_b3 : b0 ≠ b3 := Nat.ne_of_lt (Nat.lt_of_lt_of_le V_b0_w19.lt (Nat.le_of_eq g22.symm))
  have ne_b1_b3 : b1 ≠ b3 := Nat.ne_of_lt (Nat.lt_of_lt_of_le V_b1_w19.lt (Nat.le_of_eq g22.symm))
  have ne_b2_b3 : b2 ≠ b3 := Nat.ne_of_lt (Nat.lt_of_lt_of_le V_b2_w19.lt (Nat.le_of_eq g22.symm))
  have sz_b3 : h0.size ≤ b3 := Nat.le_trans KK19.1 (Nat.le_of_eq g22.symm)
  have g_b3 : n0 ≤ b3 := Nat.le_trans Z0 sz_b3
  have E_t_x22 := E_t_w19.ext E22
  have F_ch_x22 := F_ch_w19.ext E22
  have F_sz_x22 := F_sz_w19.ext E22
  have V_b0_x22 := V_b0_w19.ext E22
  have E_b0_x22 := E_b0_w19.ext E22
  have V_b1_x22 := V_b1_w19.ext E22
  have E_b1_x22 := E_b1_w19.ext E22
  have V_b2_x22 := V_b2_w19.ext E22
  have E_b2_x22 := E_b2_w19.ext E22
  have V_ch_x22 := V_ch_w19.ext E22
  have KK22 : Keep h0 h22 [t] := KK19.ext E22
  have V_b3 : Arv Z h22 b3 k22 .long m [] (.long (0 : Int64)) := Arv.new A22 hm0
  have E_b3 : Exa Z h22 b3 "[J" := EA22
  obtain ⟨cl23, Ar23, qq23, Sz23, Ng23, Hs23, Gf23⟩ := V_ch_x22
  have hin23 : ¬ ((3 : Int32) < 0 ∨ cl23.slots.size ≤ ((3 : Int32)).toNatClampNeg) := inb_of Sz23 ⟨by decide, by decide⟩
  obtain ⟨T24, h24, X24, e24, W24, st24⟩ := stR X22 hx hZ e22 Ar23 (j := (3 : Int32)) hin23 rfl (Sto.ofVA Ar23 qq23 O3 (Ins.self E_b3)) (g := (mkF mi 54 #[.val (.ref t), .val (.int n), .val (.int (4 : Int32)), .val (.int (3 : Int32))] [(.ref b3), (.int (3 : Int32)), (.ref ch)])) rfl rfl (hb hby d1_54)
  have E_t_w24 := E_t_x22.wr W24
  have F_ch_w24 := F_ch_x22.other W24 (Or.inl ne_t_ch)
  have F_sz_w24 := F_sz_x22.other W24 (Or.inl ne_t_ch)
  have V_b0_w24 := V_b0_x22.other W24 (Ne.symm ne_ch_b0)
  have E_b0_w24 := E_b0_x22.wr W24
  have V_b1_w24 := V_b1_x22.other W24 (Ne.symm ne_ch_b1)
  have E_b1_w24 := E_b1_x22.wr W24
  have V_b2_w24 := V_b2_x22.other W24 (Ne.symm ne_ch_b2)
  have E_b2_w24 := E_b2_x22.wr W24
  have V_b3_w24 := V_b3.other W24 (Ne.symm ne_ch_b3)
  have E_b3_w24 := E_b3.wr W24
  have KK24 : Keep h0 h24 [t] := KK22.wr W24 (Or.inr sz_ch)
  have N24 := Fr.snoc X24 N21 g_ch
  have V_ch_w24 : Arv Z h24 ch k3 (.array .long) (4 : Int32) [(.ref b0), (.ref b1), (.ref b2), (.ref b3)] .null := Arv.set Ar23 qq23 Sz23 Ng23 Hs23 Gf23 rfl W24 3 rfl (Nat.le_of_ble_eq_true rfl)
  obtain ⟨T25, h25, X25, e25, W25, st25⟩ := putF X24 hx hZ hown (host := "") (Or.inl (hw _ (List.mem_of_getElem? (i := 26) rfl))) Via.refl e24 F_sz_w24 E_t_w24 (Or.inl (hw _ (List.mem_of_getElem? (i := 27) rfl))) (hw _ (List.mem_of_getElem? (i := 3) rfl)) (ty := .int) (by decide) rfl rfl (g := (mkF mi 63 #[.val (.ref t), .val (.int n), .val (.int (4 : Int32)), .val (.int (4 : Int32))] [(.int n), (.ref t)])) rfl rfl (hb hby d1_63)
  have E_t_w25 := E_t_w24.wr W25
  have F_ch_w25 := F_ch_w24.other W25 (Or.inr (slot_ne (Or.inl (hw _ (List.mem_of_getElem? (i := 19) rfl))) (Or.inl (hw _ (List.mem_of_getElem? (i := 27) rfl))) (by decide) (t := (.array (.array .long))) (t' := .int) (by decide) (by decide)))
  have F_sz_w25 := F_sz_w24.same W25
  have V_b0_w25 := V_b0_w24.other W25 (Ne.symm ne_t_b0)
  have E_b0_w25 := E_b0_w24.wr W25
  have V_b1_w25 := V_b1_w24.other W25 (Ne.symm ne_t_b1)
  have E_b1_w25 := E_b1_w24.wr W25
  have V_b2_w25 := V_b2_w24.other W25 (Ne.symm ne_t_b2)
  have E_b2_w25 := E_b2_w24.wr W25
  have V_b3_w25 := V_b3_w24.other W25 (Ne.symm ne_t_b3)
  have E_b3_w25 := E_b3_w24.wr W25
  have V_ch_w25 := V_ch_w24.other W25 (Ne.symm ne_t_ch)
  have KK25 : Keep h0 h25 [t] := KK24.wr W25 (Or.inl (List.mem_of_getElem? (i := 0) rfl))
  have N25 := Fr.snoc X25 N24 g_t
  obtain ⟨fs, hr, hrun, hended, hW, hsame⟩ := X25.leave (v := none) (fun _ => rfl)
  refine ⟨_, _, pre0 _ ?_, hrun, hended, _, _, rfl, ?_, ⟨_, rfl⟩, hW, hsame.mono (by decide) (by decide)⟩
  · show Steps p.tables e below (s₁.setTop (mkF mi 0 #[.val (.ref t), .val (.int n), .unset, .unset] [])) _
    refine XS.aloadN X0.here hx rfl (hb hby d1_0) rfl rfl ?_
    show Steps p.tables e below (s₁.setTop (mkF mi 1 #[.val (.ref t), .val (.int n), .unset, .unset] [(.ref t)])) _
    refine st1 _ ?_
    show Steps p.tables e below (T1.setTop (mkF mi 4 #[.val (.ref t), .val (.int n), .unset, .unset] [])) _
    refine XS.iloadN X1.here hx rfl (hb hby d1_4) rfl ?_
    show Steps p.tables e below (T1.setTop (mkF mi 5 #[.val (.ref t), .val (.int n), .unset, .unset] [(.int n)])) _
    refine XS.i2l X1.here hx rfl (hb hby d1_5) rfl ?_
    show Steps p.tables e below (T1.setTop (mkF mi 6 #[.val (.ref t), .val (.int n), .unset, .unset] [(.long (n.toInt64))])) _
    refine X1.ldc2Long hx hown (mvT hZ (hw _ (List.mem_of_getElem? (i := 11) rfl))) (g := (mkF mi 6 #[.val (.ref t), .val (.int n), .unset, .unset] [(.long (n.toInt64))])) rfl (hb hby d1_6) _ ?_
    show Steps p.tables e below (T1.setTop (mkF mi 9 #[.val (.ref t), .val (.int n), .unset, .unset] [(.long (32768 : Int64)), (.long (n.toInt64))])) _
    refine XS.ladd X1.here hx rfl (hb hby d1_9) rfl ?_
    show Steps p.tables e below (T1.setTop (mkF mi 10 #[.val (.ref t), .val (.int n), .unset, .unset] [(.long ((n.toInt64) + (32768 : Int64)))])) _
    refine XS.lconst X1.here hx rfl (hb hby d1_10) ?_
    show Steps p.tables e below (T1.setTop (mkF mi 11 #[.val (.ref t), .val (.int n), .unset, .unset] [(.long (1 : Int64)), (.long ((n.toInt64) + (32768 : Int64)))])) _
    refine XS.lsub X1.here hx rfl (hb hby d1_11) rfl ?_
    show Steps p.tables e below (T1.setTop (mkF mi 12 #[.val (.ref t), .val (.int n), .unset, .unset] [(.long (((n.toInt64) + (32768 : Int64)) - (1 : Int64)))])) _
    refine XS.bipush X1.here hx rfl (hb hby d1_12) ?_
    show Steps p.tables e below (T1.setTop (mkF mi 14 #[.val (.ref t), .val (.int n), .unset, .unset] [(.int (15 : Int32)), (.long (((n.toInt64) + (32768 : Int64)) - (1 : Int64)))])) _
    refine XS.lushr X1.here hx rfl (hb hby d1_14) rfl ?_
    show Steps p.tables e below (T1.setTop (mkF mi 15 #[.val (.ref t), .val (.int n), .unset, .unset] [(.long (((((n.toInt64) + (32768 : Int64)) - (1 : Int64)).toUInt64 >>> ((15 : Int32) &&& 0x3f).toInt64.toUInt64).toInt64))])) _
    refine XS.l2i X1.here hx rfl (hb hby d1_15) rfl ?_
    rw [hcnt]
    show Steps p.tables e below (T1.setTop (mkF mi 16 #[.val (.ref t), .val (.int n), .unset, .unset] [(.int (4 : Int32))])) _
    refine XS.istoreN X1.here hx rfl (hb hby d1_16) rfl (l' := #[.val (.ref t), .val (.int n), .val (.int (4 : Int32)), .unset]) rfl ?_
    show Steps p.tables e below (T1.setTop (mkF mi 17 #[.val (.ref t), .val (.int n), .val (.int (4 : Int32)), .unset] [])) _
    refine XS.aloadN X1.here hx rfl (hb hby d1_17) rfl rfl ?_
    show Steps p.tables e below (T1.setTop (mkF mi 18 #[.val (.ref t), .val (.int n), .val (.int (4 : Int32)), .unset] [(.ref t)])) _
    refine XS.iconst X1.here hx rfl (hb hby d1_18) ?_
    show Steps p.tables e below (T1.setTop (mkF mi 19 #[.val (.ref t), .val (.int n), .val (.int (4 : Int32)), .unset] [(.int (1 : Int32)), (.ref t)])) _
    refine XS.iloadN X1.here hx rfl (hb hby d1_19) rfl ?_
    show Steps p.tables e below (T1.setTop (mkF mi 20 #[.val (.ref t), .val (.int n), .val (.int (4 : Int32)), .unset] [(.int (4 : Int32)), (.int (1 : Int32)), (.ref t)])) _
    refine st2 _ ?_
    show Steps p.tables e below (T2.setTop (mkF mi 23 #[.val (.ref t), .val (.int n), .val (.int (4 : Int32)), .unset] [(.int (4 : Int32)), (.ref t)])) _
    refine st3 _ ?_
    show Steps p.tables e below (T3.setTop (mkF mi 26 #[.val (.ref t), .val (.int n), .val (.int (4 : Int32)), .unset] [(.ref ch), (.ref t)])) _
    refine st4 _ ?_
    show Steps p.tables e below (T4.setTop (mkF mi 29 #[.val (.ref t), .val (.int n), .val (.int (4 : Int32)), .unset] [])) _
    refine XS.iconst X4.here hx rfl (hb hby d1_29) ?_
    show Steps p.tables e below (T4.setTop (mkF mi 30 #[.val (.ref t), .val (.int n), .val (.int (4 : Int32)), .unset] [(.int (0 : Int32))])) _
    refine XS.istoreN X4.here hx rfl (hb hby d1_30) rfl (l' := #[.val (.ref t), .val (.int n), .val (.int (4 : Int32)), .val (.int (0 : Int32))]) rfl ?_
    show Steps p.tables e below (T4.setTop (mkF mi 31 #[.val (.ref t), .val (.int n), .val (.int (4 : Int32)), .val (.int (0 : Int32))] [])) _
    refine XS.iloadN X4.here hx rfl (hb hby d1_31) rfl ?_
    show Steps p.tables e below (T4.setTop (mkF mi 32 #[.val (.ref t), .val (.int n), .val (.int (4 : Int32)), .val (.int (0 : Int32))] [(.int (0 : Int32))])) _
    refine XS.iloadN X4.here hx rfl (hb hby d1_32) rfl ?_
    show Steps p.tables e below (T4.setTop (mkF mi 33 #[.val (.ref t), .val (.int n), .val (.int (4 : Int32)), .val (.int (0 : Int32))] [(.int (4 : Int32)), (.int (0 : Int32))])) _
    refine XS.icmpNo X4.here hx rfl (hb hby d1_33) rfl (tlt (by decide : (0 : Int32) < (4 : Int32))).2.1 ?_
    show Steps p.tables e below (T4.setTop (mkF mi 36 #[.val (.ref t), .val (.int n), .val (.int (4 : Int32)), .val (.int (0 : Int32))] [])) _
    refine XS.aloadN X4.here hx rfl (hb hby d1_36) rfl rfl ?_
    show Steps p.tables e below (T4.setTop (mkF mi 37 #[.val (.ref t), .val (.int n), .val (.int (4 : Int32)), .val (.int (0 : Int32))] [(.ref t)])) _
    refine st5 _ ?_
    show Steps p.tables e below (T5.setTop (mkF mi 40 #[.val (.ref t), .val (.int n), .val (.int (4 : Int32)), .val (.int (0 : Int32))] [(.ref ch)])) _
    refine XS.iloadN X5.here hx rfl (hb hby d1_40) rfl ?_
    show Steps p.tables e below (T5.setTop (mkF mi 41 #[.val (.ref t), .val (.int n), .val (.int (4 : Int32)), .val (.int (0 : Int32))] [(.int (0 : Int32)), (.ref ch)])) _
    refine X5.ldcInt hx hown (mvT hZ (hw _ (List.mem_of_getElem? (i := 20) rfl))) (g := (mkF mi 41 #[.val (.ref t), .val (.int n), .val (.int (4 : Int32)), .val (.int (0 : Int32))] [(.int (0 : Int32)), (.ref ch)])) rfl (hb hby d1_41) _ ?_
    show Steps p.tables e below (T5.setTop (mkF mi 43 #[.val (.ref t), .val (.int n), .val (.int (4 : Int32)), .val (.int (0 : Int32))] [(.int (32768 : Int32)), (.int (0 : Int32)), (.ref ch)])) _
    refine XS.iloadN X5.here hx rfl (hb hby d1_43) rfl ?_
    show Steps p.tables e below (T5.setTop (mkF mi 44 #[.val (.ref t), .val (.int n), .val (.int (4 : Int32)), .val (.int (0 : Int32))] [(.int n), (.int (32768 : Int32)), (.int (0 : Int32)), (.ref ch)])) _
    refine XS.iloadN X5.here hx rfl (hb hby d1_44) rfl ?_
    show Steps p.tables e below (T5.setTop (mkF mi 45 #[.val (.ref t), .val (.int n), .val (.int (4 : Int32)), .val (.int (0 : Int32))] [(.int (0 : Int32)), (.int n), (.int (32768 : Int32)), (.int (0 : Int32)), (.ref ch)])) _
    refine X5.ldcInt hx hown (mvT hZ (hw _ (List.mem_of_getElem? (i := 20) rfl))) (g := (mkF mi 45 #[.val (.ref t), .val (.int n), .val (.int (4 : Int32)), .val (.int (0 : Int32))] [(.int (0 : Int32)), (.int n), (.int (32768 : Int32)), (.int (0 : Int32)), (.ref ch)])) rfl (hb hby d1_45) _ ?_
    show Steps p.tables e below (T5.setTop (mkF mi 47 #[.val (.ref t), .val (.int n), .val (.int (4 : Int32)), .val (.int (0 : Int32))] [(.int (32768 : Int32)), (.int (0 : Int32)), (.int n), (.int (32768 : Int32)), (.int (0 : Int32)), (.ref ch)])) _
    refine XS.imul X5.here hx rfl (hb hby d1_47) rfl ?_
    show Steps p.tables e below (T5.setTop (mkF mi 48 #[.val (.ref t), .val (.int n), .val (.int (4 : Int32)), .val (.int (0 : Int32))] [(.int ((0 : Int32) * (32768 : Int32))), (.int n), (.int (32768 : Int32)), (.int (0 : Int32)), (.ref ch)])) _
    refine XS.isub X5.here hx rfl (hb hby d1_48) rfl ?_
    show Steps p.tables e below (T5.setTop (mkF mi 49 #[.val (.ref t), .val (.int n), .val (.int (4 : Int32)), .val (.int (0 : Int32))] [(.int (n - ((0 : Int32) * (32768 : Int32)))), (.int (32768 : Int32)), (.int (0 : Int32)), (.ref ch)])) _
    refine st6 _ ?_
    show Steps p.tables e below (T6.setTop (mkF mi 52 #[.val (.ref t), .val (.int n), .val (.int (4 : Int32)), .val (.int (0 : Int32))] [(.int (32768 : Int32)), (.int (0 : Int32)), (.ref ch)])) _
    refine st7 _ ?_
    show Steps p.tables e below (T7.setTop (mkF mi 54 #[.val (.ref t), .val (.int n), .val (.int (4 : Int32)), .val (.int (0 : Int32))] [(.ref b0), (.int (0 : Int32)), (.ref ch)])) _
    refine st9 _ ?_
    show Steps p.tables e below (T9.setTop (mkF mi 55 #[.val (.ref t), .val (.int n), .val (.int (4 : Int32)), .val (.int (0 : Int32))] [])) _
    refine XS.iinc X9.here hx rfl (hb hby d1_55) rfl (l' := #[.val (.ref t), .val (.int n), .val (.int (4 : Int32)), .val (.int (1 : Int32))]) rfl ?_
    show Steps p.tables e below (T9.setTop (mkF mi 58 #[.val (.ref t), .val (.int n), .val (.int (4 : Int32)), .val (.int (1 : Int32))] [])) _
    refine XS.goto X9.here hx rfl (pc0 := 58) (pc' := 31) rfl (hb hby d1_58) (by decide) (by decide) ?_
    show Steps p.tables e below (T9.setTop (mkF mi 31 #[.val (.ref t), .val (.int n), .val (.int (4 : Int32)), .val (.int (1 : Int32))] [])) _
    refine XS.iloadN X9.here hx rfl (hb hby d1_31) rfl ?_
    show Steps p.tables e below (T9.setTop (mkF mi 32 #[.val (.ref t), .val (.int n), .val (.int (4 : Int32)), .val (.int (1 : Int32))] [(.int (1 : Int32))])) _
    refine XS.iloadN X9.here hx rfl (hb hby d1_32) rfl ?_
    show Steps p.tables e below (T9.setTop (mkF mi 33 #[.val (.ref t), .val (.int n), .val (.int (4 : Int32)), .val (.int (1 : Int32))] [(.int (4 : Int32)), (.int (1 : Int32))])) _
    refine XS.icmpNo X9.here hx rfl (hb hby d1_33) rfl (tlt (by decide : (1 : Int32) < (4 : Int32))).2.1 ?_
    show Steps p.tables e below (T9.setTop (mkF mi 36 #[.val (.ref t), .val (.int n), .val (.int (4 : Int32)), .val (.int (1 : Int32))] [])) _
    refine XS.aloadN X9.here hx rfl (hb hby d1_36) rfl rfl ?_
    show Steps p.tables e below (T9.setTop (mkF mi 37 #[.val (.ref t), .val (.int n), .val (.int (4 : Int32)), .val (.int (1 : Int32))] [(.ref t)])) _
    refine st10 _ ?_
    show Steps p.tables e below (T10.setTop (mkF mi 40 #[.val (.ref t), .val (.int n), .val (.int (4 : Int32)), .val (.int (1 : Int32))] [(.ref ch)])) _
    refine XS.iloadN X10.here hx rfl (hb hby d1_40) rfl ?_
    show Steps p.tables e below (T10.setTop (mkF mi 41 #[.val (.ref t), .val (.int n), .val (.int (4 : Int32)), .val (.int (1 : Int32))] [(.int (1 : Int32)), (.ref ch)])) _
    refine X10.ldcInt hx hown (mvT hZ (hw _ (List.mem_of_getElem? (i := 20) rfl))) (g := (mkF mi 41 #[.val (.ref t), .val (.int n), .val (.int (4 : Int32)), .val (.int (1 : Int32))] [(.int (1 : Int32)), (.ref ch)])) rfl (hb hby d1_41) _ ?_
    show Steps p.tables e below (T10.setTop (mkF mi 43 #[.val (.ref t), .val (.int n), .val (.int (4 : Int32)), .val (.int (1 : Int32))] [(.int (32768 : Int32)), (.int (1 : Int32)), (.ref ch)])) _
    refine XS.iloadN X10.here hx rfl (hb hby d1_43) rfl ?_
    show Steps p.tables e below (T10.setTop (mkF mi 44 #[.val (.ref t), .val (.int n), .val (.int (4 : Int32)), .val (.int (1 : Int32))] [(.int n), (.int (32768 : Int32)), (.int (1 : Int32)), (.ref ch)])) _
    refine XS.iloadN X10.here hx rfl (hb hby d1_44) rfl ?_
    show Steps p.tables e below (T10.setTop (mkF mi 45 #[.val (.ref t), .val (.int n), .val (.int (4 : Int32)), .val (.int (1 : Int32))] [(.int (1 : Int32)), (.int n), (.int (32768 : Int32)), (.int (1 : Int32)), (.ref ch)])) _
    refine X10.ldcInt hx hown (mvT hZ (hw _ (List.mem_of_getElem? (i := 20) rfl))) (g := (mkF mi 45 #[.val (.ref t), .val (.int n), .val (.int (4 : Int32)), .val (.int (1 : Int32))] [(.int (1 : Int32)), (.int n), (.int (32768 : Int32)), (.int (1 : Int32)), (.ref ch)])) rfl (hb hby d1_45) _ ?_
    show Steps p.tables e below (T10.setTop (mkF mi 47 #[.val (.ref t), .val (.int n), .val (.int (4 : Int32)), .val (.int (1 : Int32))] [(.int (32768 : Int32)), (.int (1 : Int32)), (.int n), (.int (32768 : Int32)), (.int (1 : Int32)), (.ref ch)])) _
    refine XS.imul X10.here hx rfl (hb hby d1_47) rfl ?_
    show Steps p.tables e below (T10.setTop (mkF mi 48 #[.val (.ref t), .val (.int n), .val (.int (4 : Int32)), .val (.int (1 : Int32))] [(.int ((1 : Int32) * (32768 : Int32))), (.int n), (.int (32768 : Int32)), (.int (1 : Int32)), (.ref ch)])) _
    refine XS.isub X10.here hx rfl (hb hby d1_48) rfl ?_
    show Steps p.tables e below (T10.setTop (mkF mi 49 #[.val (.ref t), .val (.int n), .val (.int (4 : Int32)), .val (.int (1 : Int32))] [(.int (n - ((1 : Int32) * (32768 : Int32)))), (.int (32768 : Int32)), (.int (1 : Int32)), (.ref ch)])) _
    refine st11 _ ?_
    show Steps p.tables e below (T11.setTop (mkF mi 52 #[.val (.ref t), .val (.int n), .val (.int (4 : Int32)), .val (.int (1 : Int32))] [(.int (32768 : Int32)), (.int (1 : Int32)), (.ref ch)])) _
    refine st12 _ ?_
    show Steps p.tables e below (T12.setTop (mkF mi 54 #[.val (.ref t), .val (.int n), .val (.int (4 : Int32)), .val (.int (1 : Int32))] [(.ref b1), (.int (1 : Int32)), (.ref ch)])) _
    refine st14 _ ?_
    show Steps p.tables e below (T14.setTop (mkF mi 55 #[.val (.ref t), .val (.int n), .val (.int (4 : Int32)), .val (.int (1 : Int32))] [])) _
    refine XS.iinc X14.here hx rfl (hb hby d1_55) rfl (l' := #[.val (.ref t), .val (.int n), .val (.int (4 : Int32)), .val (.int (2 : Int32))]) rfl ?_
    show Steps p.tables e below (T14.setTop (mkF mi 58 #[.val (.ref t), .val (.int n), .val (.int (4 : Int32)), .val (.int (2 : Int32))] [])) _
    refine XS.goto X14.here hx rfl (pc0 := 58) (pc' := 31) rfl (hb hby d1_58) (by decide) (by decide) ?_
    show Steps p.tables e below (T14.setTop (mkF mi 31 #[.val (.ref t), .val (.int n), .val (.int (4 : Int32)), .val (.int (2 : Int32))] [])) _
    refine XS.iloadN X14.here hx rfl (hb hby d1_31) rfl ?_
    show Steps p.tables e below (T14.setTop (mkF mi 32 #[.val (.ref t), .val (.int n), .val (.int (4 : Int32)), .val (.int (2 : Int32))] [(.int (2 : Int32))])) _
    refine XS.iloadN X14.here hx rfl (hb hby d1_32) rfl ?_
    show Steps p.tables e below (T14.setTop (mkF mi 33 #[.val (.ref t), .val (.int n), .val (.int (4 : Int32)), .val (.int (2 : Int32))] [(.int (4 : Int32)), (.int (2 : Int32))])) _
    refine XS.icmpNo X14.here hx rfl (hb hby d1_33) rfl (tlt (by decide : (2 : Int32) < (4 : Int32))).2.1 ?_
    show Steps p.tables e below (T14.setTop (mkF mi 36 #[.val (.ref t), .val (.int n), .val (.int (4 : Int32)), .val (.int (2 : Int32))] [])) _
    refine XS.aloadN X14.here hx rfl (hb hby d1_36) rfl rfl ?_
    show Steps p.tables e below (T14.setTop (mkF mi 37 #[.val (.ref t), .val (.int n), .val (.int (4 : Int32)), .val (.int (2 : Int32))] [(.ref t)])) _
    refine st15 _ ?_
    show Steps p.tables e below (T15.setTop (mkF mi 40 #[.val (.ref t), .val (.int n), .val (.int (4 : Int32)), .val (.int (2 : Int32))] [(.ref ch)])) _
    refine XS.iloadN X15.here hx rfl (hb hby d1_40) rfl ?_
    show Steps p.tables e below (T15.setTop (mkF mi 41 #[.val (.ref t), .val (.int n), .val (.int (4 : Int32)), .val (.int (2 : Int32))] [(.int (2 : Int32)), (.ref ch)])) _
    refine X15.ldcInt hx hown (mvT hZ (hw _ (List.mem_of_getElem? (i := 20) rfl))) (g := (mkF mi 41 #[.val (.ref t), .val (.int n), .val (.int (4 : Int32)), .val (.int (2 : Int32))] [(.int (2 : Int32)), (.ref ch)])) rfl (hb hby d1_41) _ ?_
    show Steps p.tables e below (T15.setTop (mkF mi 43 #[.val (.ref t), .val (.int n), .val (.int (4 : Int32)), .val (.int (2 : Int32))] [(.int (32768 : Int32)), (.int (2 : Int32)), (.ref ch)])) _
    refine XS.iloadN X15.here hx rfl (hb hby d1_43) rfl ?_
    show Steps p.tables e below (T15.setTop (mkF mi 44 #[.val (.ref t), .val (.int n), .val (.int (4 : Int32)), .val (.int (2 : Int32))] [(.int n), (.int (32768 : Int32)), (.int (2 : Int32)), (.ref ch)])) _
    refine XS.iloadN X15.here hx rfl (hb hby d1_44) rfl ?_
    show Steps p.tables e below (T15.setTop (mkF mi 45 #[.val (.ref t), .val (.int n), .val (.int (4 : Int32)), .val (.int (2 : Int32))] [(.int (2 : Int32)), (.int n), (.int (32768 : Int32)), (.int (2 : Int32)), (.ref ch)])) _
    refine X15.ldcInt hx hown (mvT hZ (hw _ (List.mem_of_getElem? (i := 20) rfl))) (g := (mkF mi 45 #[.val (.ref t), .val (.int n), .val (.int (4 : Int32)), .val (.int (2 : Int32))] [(.int (2 : Int32)), (.int n), (.int (32768 : Int32)), (.int (2 : Int32)), (.ref ch)])) rfl (hb hby d1_45) _ ?_
    show Steps p.tables e below (T15.setTop (mkF mi 47 #[.val (.ref t), .val (.int n), .val (.int (4 : Int32)), .val (.int (2 : Int32))] [(.int (32768 : Int32)), (.int (2 : Int32)), (.int n), (.int (32768 : Int32)), (.int (2 : Int32)), (.ref ch)])) _
    refine XS.imul X15.here hx rfl (hb hby d1_47) rfl ?_
    show Steps p.tables e below (T15.setTop (mkF mi 48 #[.val (.ref t), .val (.int n), .val (.int (4 : Int32)), .val (.int (2 : Int32))] [(.int ((2 : Int32) * (32768 : Int32))), (.int n), (.int (32768 : Int32)), (.int (2 : Int32)), (.ref ch)])) _
    refine XS.isub X15.here hx rfl (hb hby d1_48) rfl ?_
    show Steps p.tables e below (T15.setTop (mkF mi 49 #[.val (.ref t), .val (.int n), .val (.int (4 : Int32)), .val (.int (2 : Int32))] [(.int (n - ((2 : Int32) * (32768 : Int32)))), (.int (32768 : Int32)), (.int (2 : Int32)), (.ref ch)])) _
    refine st16 _ ?_
    show Steps p.tables e below (T16.setTop (mkF mi 52 #[.val (.ref t), .val (.int n), .val (.int (4 : Int32)), .val (.int (2 : Int32))] [(.int (32768 : Int32)), (.int (2 : Int32)), (.ref ch)])) _
    refine st17 _ ?_
    show Steps p.tables e below (T17.setTop (mkF mi 54 #[.val (.ref t), .val (.int n), .val (.int (4 : Int32)), .val (.int (2 : Int32))] [(.ref b2), (.int (2 : Int32)), (.ref ch)])) _
    refine st19 _ ?_
    show Steps p.tables e below (T19.setTop (mkF mi 55 #[.val (.ref t), .val (.int n), .val (.int (4 : Int32)), .val (.int (2 : Int32))] [])) _
    refine XS.iinc X19.here hx rfl (hb hby d1_55) rfl (l' := #[.val (.ref t), .val (.int n), .val (.int (4 : Int32)), .val (.int (3 : Int32))]) rfl ?_
    show Steps p.tables e below (T19.setTop (mkF mi 58 #[.val (.ref t), .val (.int n), .val (.int (4 : Int32)), .val (.int (3 : Int32))] [])) _
    refine XS.goto X19.here hx rfl (pc0 := 58) (pc' := 31) rfl (hb hby d1_58) (by decide) (by decide) ?_
    show Steps p.tables e below (T19.setTop (mkF mi 31 #[.val (.ref t), .val (.int n), .val (.int (4 : Int32)), .val (.int (3 : Int32))] [])) _
    refine XS.iloadN X19.here hx rfl (hb hby d1_31) rfl ?_
    show Steps p.tables e below (T19.setTop (mkF mi 32 #[.val (.ref t), .val (.int n), .val (.int (4 : Int32)), .val (.int (3 : Int32))] [(.int (3 : Int32))])) _
    refine XS.iloadN X19.here hx rfl (hb hby d1_32) rfl ?_
    show Steps p.tables e below (T19.setTop (mkF mi 33 #[.val (.ref t), .val (.int n), .val (.int (4 : Int32)), .val (.int (3 : Int32))] [(.int (4 : Int32)), (.int (3 : Int32))])) _
    refine XS.icmpNo X19.here hx rfl (hb hby d1_33) rfl (tlt (by decide : (3 : Int32) < (4 : Int32))).2.1 ?_
    show Steps p.tables e below (T19.setTop (mkF mi 36 #[.val (.ref t), .val (.int n), .val (.int (4 : Int32)), .val (.int (3 : Int32))] [])) _
    refine XS.aloadN X19.here hx rfl (hb hby d1_36) rfl rfl ?_
    show Steps p.tables e below (T19.setTop (mkF mi 37 #[.val (.ref t), .val (.int n), .val (.int (4 : Int32)), .val (.int (3 : Int32))] [(.ref t)])) _
    refine st20 _ ?_
    show Steps p.tables e below (T20.setTop (mkF mi 40 #[.val (.ref t), .val (.int n), .val (.int (4 : Int32)), .val (.int (3 : Int32))] [(.ref ch)])) _
    refine XS.iloadN X20.here hx rfl (hb hby d1_40) rfl ?_
    show Steps p.tables e below (T20.setTop (mkF mi 41 #[.val (.ref t), .val (.int n), .val (.int (4 : Int32)), .val (.int (3 : Int32))] [(.int (3 : Int32)), (.ref ch)])) _
    refine X20.ldcInt hx hown (mvT hZ (hw _ (List.mem_of_getElem? (i := 20) rfl))) (g := (mkF mi 41 #[.val (.ref t), .val (.int n), .val (.int (4 : Int32)), .val (.int (3 : Int32))] [(.int (3 : Int32)), (.ref ch)])) rfl (hb hby d1_41) _ ?_
    show Steps p.tables e below (T20.setTop (mkF mi 43 #[.val (.ref t), .val (.int n), .val (.int (4 : Int32)), .val (.int (3 : Int32))] [(.int (32768 : Int32)), (.int (3 : Int32)), (.ref ch)])) _
    refine XS.iloadN X20.here hx rfl (hb hby d1_43) rfl ?_
    show Steps p.tables e below (T20.setTop (mkF mi 44 #[.val (.ref t), .val (.int n), .val (.int (4 : Int32)), .val (.int (3 : Int32))] [(.int n), (.int (32768 : Int32)), (.int (3 : Int32)), (.ref ch)])) _
    refine XS.iloadN X20.here hx rfl (hb hby d1_44) rfl ?_
    show Steps p.tables e below (T20.setTop (mkF mi 45 #[.val (.ref t), .val (.int n), .val (.int (4 : Int32)), .val (.int (3 : Int32))] [(.int (3 : Int32)), (.int n), (.int (32768 : Int32)), (.int (3 : Int32)), (.ref ch)])) _
    refine X20.ldcInt hx hown (mvT hZ (hw _ (List.mem_of_getElem? (i := 20) rfl))) (g := (mkF mi 45 #[.val (.ref t), .val (.int n), .val (.int (4 : Int32)), .val (.int (3 : Int32))] [(.int (3 : Int32)), (.int n), (.int (32768 : Int32)), (.int (3 : Int32)), (.ref ch)])) rfl (hb hby d1_45) _ ?_
    show Steps p.tables e below (T20.setTop (mkF mi 47 #[.val (.ref t), .val (.int n), .val (.int (4 : Int32)), .val (.int (3 : Int32))] [(.int (32768 : Int32)), (.int (3 : Int32)), (.int n), (.int (32768 : Int32)), (.int (3 : Int32)), (.ref ch)])) _
    refine XS.imul X20.here hx rfl (hb hby d1_47) rfl ?_
    show Steps p.tables e below (T20.setTop (mkF mi 48 #[.val (.ref t), .val (.int n), .val (.int (4 : Int32)), .val (.int (3 : Int32))] [(.int ((3 : Int32) * (32768 : Int32))), (.int n), (.int (32768 : Int32)), (.int (3 : Int32)), (.ref ch)])) _
    refine XS.isub X20.here hx rfl (hb hby d1_48) rfl ?_
    rw [hm]
    show Steps p.tables e below (T20.setTop (mkF mi 49 #[.val (.ref t), .val (.int n), .val (.int (4 : Int32)), .val (.int (3 : Int32))] [(.int m), (.int (32768 : Int32)), (.int (3 : Int32)), (.ref ch)])) _
    refine st21 _ ?_
    show Steps p.tables e below (T21.setTop (mkF mi 52 #[.val (.ref t), .val (.int n), .val (.int (4 : Int32)), .val (.int (3 : Int32))] [(.int m), (.int (3 : Int32)), (.ref ch)])) _
    refine st22 _ ?_
    show Steps p.tables e below (T22.setTop (mkF mi 54 #[.val (.ref t), .val (.int n), .val (.int (4 : Int32)), .val (.int (3 : Int32))] [(.ref b3), (.int (3 : Int32)), (.ref ch)])) _
    refine st24 _ ?_
    show Steps p.tables e below (T24.setTop (mkF mi 55 #[.val (.ref t), .val (.int n), .val (.int (4 : Int32)), .val (.int (3 : Int32))] [])) _
    refine XS.iinc X24.here hx rfl (hb hby d1_55) rfl (l' := #[.val (.ref t), .val (.int n), .val (.int (4 : Int32)), .val (.int (4 : Int32))]) rfl ?_
    show Steps p.tables e below (T24.setTop (mkF mi 58 #[.val (.ref t), .val (.int n), .val (.int (4 : Int32)), .val (.int (4 : Int32))] [])) _
    refine XS.goto X24.here hx rfl (pc0 := 58) (pc' := 31) rfl (hb hby d1_58) (by decide) (by decide) ?_
    show Steps p.tables e below (T24.setTop (mkF mi 31 #[.val (.ref t), .val (.int n), .val (.int (4 : Int32)), .val (.int (4 : Int32))] [])) _
    refine XS.iloadN X24.here hx rfl (hb hby d1_31) rfl ?_
    show Steps p.tables e below (T24.setTop (mkF mi 32 #[.val (.ref t), .val (.int n), .val (.int (4 : Int32)), .val (.int (4 : Int32))] [(.int (4 : Int32))])) _
    refine XS.iloadN X24.here hx rfl (hb hby d1_32) rfl ?_
    show Steps p.tables e below (T24.setTop (mkF mi 33 #[.val (.ref t), .val (.int n), .val (.int (4 : Int32)), .val (.int (4 : Int32))] [(.int (4 : Int32)), (.int (4 : Int32))])) _
    refine XS.icmpYes X24.here hx rfl (pc0 := 33) (pc' := 61) rfl (hb hby d1_33) rfl (flt (by decide : ¬ ((4 : Int32) < (4 : Int32)))).2.1 (by decide) (by decide) ?_
    show Steps p.tables e below (T24.setTop (mkF mi 61 #[.val (.ref t), .val (.int n), .val (.int (4 : Int32)), .val (.int (4 : Int32))] [])) _
    refine XS.aloadN X24.here hx rfl (hb hby d1_61) rfl rfl ?_
    show Steps p.tables e below (T24.setTop (mkF mi 62 #[.val (.ref t), .val (.int n), .val (.int (4 : Int32)), .val (.int (4 : Int32))] [(.ref t)])) _
    refine XS.iloadN X24.here hx rfl (hb hby d1_62) rfl ?_
    show Steps p.tables e below (T24.setTop (mkF mi 63 #[.val (.ref t), .val (.int n), .val (.int (4 : Int32)), .val (.int (4 : Int32))] [(.int n), (.ref t)])) _
    refine st25 _ ?_
    show Steps p.tables e below (T25.setTop (mkF mi 66 #[.val (.ref t), .val (.int n), .val (.int (4 : Int32)), .val (.int (4 : Int32))] [])) _
    exact X25.returnOut hx Bd.returns (hb hby d1_66) hr
  · show QI Z t n h0 n0 _ T25.heap _
    rw [e25]
    refine ⟨rfl, N25, KK25, ch, own_cs b0 b1 b2 b3, E_t_w25, F_ch_w25, F_sz_w25, ?_, ?_, ?_, ?_⟩
    · obtain ⟨cc, A, -, Sc, -, Hc, -⟩ := V_ch_w25
      refine ⟨cc, A, fun q hq => ?_⟩
      rcases (by omega : q = 0 ∨ q = 1 ∨ q = 2 ∨ q = 3) with rfl | rfl | rfl | rfl
      · exact Hc 0 (by rw [Sc]; decide)
      · exact Hc 1 (by rw [Sc]; decide)
      · exact Hc 2 (by rw [Sc]; decide)
      · exact Hc 3 (by rw [Sc]; decide)
    · intro q hq
      rcases (by omega : q = 0 ∨ q = 1 ∨ q = 2 ∨ q = 3) with rfl | rfl | rfl | rfl
      · obtain ⟨cx, A, -, Sc, -, Hc, -⟩ := V_b0_w25
        refine ⟨cx, A, fun r h1 h2 => Hc r ?_⟩
        rw [Sc]; show r < 32768; exact h1
      · obtain ⟨cx, A, -, Sc, -, Hc, -⟩ := V_b1_w25
        refine ⟨cx, A, fun r h1 h2 => Hc r ?_⟩
        rw [Sc]; show r < 32768; exact h1
      · obtain ⟨cx, A, -, Sc, -, Hc, -⟩ := V_b2_w25
        refine ⟨cx, A, fun r h1 h2 => Hc r ?_⟩
        rw [Sc]; show r < 32768; exact h1
      · obtain ⟨cx, A, -, Sc, -, Hc, -⟩ := V_b3_w25
        refine ⟨cx, A, fun r h1 h2 => Hc r ?_⟩
        rw [Sc]; exact own_lt hmI h2
    · intro q hq
      rcases (by omega : q = 0 ∨ q = 1 ∨ q = 2 ∨ q = 3) with rfl | rfl | rfl | rfl
      · exact ⟨g_b0, (Ne.symm ne_ch_b0), (Ne.symm ne_t_b0)⟩
      · exact ⟨g_b1, (Ne.symm ne_ch_b1), (Ne.symm ne_t_b1)⟩
      · exact ⟨g_b2, (Ne.symm ne_ch_b2), (Ne.symm ne_t_b2)⟩
      · exact ⟨g_b3, (Ne.symm ne_ch_b3), (Ne.symm ne_t_b3)⟩
    · intro q q' hq hq' hne
      rcases (by omega : q = 0 ∨ q = 1 ∨ q = 2 ∨ q = 3) with rfl | rfl | rfl | rfl <;> rcases (by omega : q' = 0 ∨ q' = 1 ∨ q' = 2 ∨ q' = 3) with rfl | rfl | rfl | rfl
      · exact absurd rfl hne
      · exact ne_b0_b1
      · exact ne_b0_b2
      · exact ne_b0_b3
      · exact (Ne.symm ne_b0_b1)
      · exact absurd rfl hne
      · exact ne_b1_b2
      · exact ne_b1_b3
      · exact (Ne.symm ne_b0_b2)
      · exact (Ne.symm ne_b1_b2)
      · exact absurd rfl hne
      · exact ne_b2_b3
      · exact (Ne.symm ne_b0_b3)
      · exact (Ne.symm ne_b1_b3)
      · exact (Ne.symm ne_b2_b3)
      · exact absurd rfl hne
theorem rmInit (l : Launch) (Z : State) (a0 : Array Value) (hw : ∀ d ∈ tables_1, d.before a0 Z = true) (ws : List Jvm.Cond) (t : Addr) (n : Int32) (h0 : Heap) (n0 : Nat) (Z0 : n0 ≤ h0.size) (E_t : Exa Z h0 t "com/example/reachmark/reachmark/label/Intervals") (F_ch : Fld Z h0 t "com/example/reachmark/reachmark/label/Intervals" "chunks" "[[J" .null) (F_sz : Fld Z h0 t "com/example/reachmark/reachmark/label/Intervals" "size" "I" (.int (0 : Int32))) (g_t : n0 ≤ t) (hlo : 1 ≤ n.toInt) (hhi : n.toInt ≤ 131072) :
    MetFree l (⟨"com/example/reachmark/reachmark/label/Intervals", "<init>", "(I)V"⟩ : MethodName) (head1 (Jvm.Cond.code (⟨"com/example/reachmark/reachmark/label/Intervals", "<init>", "(I)V"⟩ : MethodName) prog_43_method_2_code 4 none :: ws) ({ frames := 1, cells := 5, slots := 131076, locals := 15 } : Room)) (fun a U => a = #[(.ref t), (.int n)] ∧ Z.Warmed39 U.vm ∧ U.heap = h0) (fun _ _ _ _ _ => True) (fun _ U o U' => ∃ v L, o = .returned v ∧ QI Z t n h0 n0 v U'.heap L ∧ FrameEnd U o U' L ({ frames := 1, cells := 5, slots := 131076, locals := 15 } : Room).cells ({ frames := 1, cells := 5, slots := 131076, locals := 15 } : Room).slots) := by
  rcases (by omega : n.toInt ≤ 32768 ∨ (32768 < n.toInt ∧ n.toInt ≤ 65536) ∨ (65536 < n.toInt ∧ n.toInt ≤ 98304) ∨ 98304 < n.toInt) with h | h | h | h
  · exact rmInit1 l Z a0 hw ws t n h0 n0 Z0 E_t F_ch F_sz g_t (by omega) h
  · exact rmInit2 l Z a0 hw ws t n h0 n0 Z0 E_t F_ch F_sz g_t h.1 h.2
  · exact rmInit3 l Z a0 hw ws t n h0 n0 Z0 E_t F_ch F_sz g_t h.1 h.2
  · exact rmInit4 l Z a0 hw ws t n h0 n0 Z0 E_t F_ch F_sz g_t h hhi
theorem own_upd_at (f : Nat → Int64) (a b : Int32) (v : Int64) (ha : 0 ≤ a.toInt) (hb : 0 ≤ b.toInt) : own_upd f a v b.toInt.toNat = if b = a then v else f b.toInt.toNat := by
  simp only [own_upd]
  by_cases h : b = a
  · subst h; simp
  · rw [if_neg h, if_neg (fun q => h (Int32.toInt_inj.mp (by omega)))]
def QS (Z : State) (t ch : Addr) (n : Int32) (cs : Nat → Addr) (f : Nat → Int64) (n0 : Nat) (v : Option Value) (h : Heap) (L : List Loc) : Prop := v = none ∧ Fr n0 L ∧ Iv Z h n0 t ch n cs f
theorem d5_0 : decode prog_43_method_8_code 0 = .ok (.aload_n 0, 1) := by decide +kernel
theorem d5_1 : decode prog_43_method_8_code 1 = .ok (.getfield 11, 3) := by decide +kernel
theorem d5_4 : decode prog_43_method_8_code 4 = .ok (.iload_n 1, 1) := by decide +kernel
theorem d5_5 : decode prog_43_method_8_code 5 = .ok (.bipush 15, 2) := by decide +kernel
theorem d5_7 : decode prog_43_method_8_code 7 = .ok (.iushr, 1) := by decide +kernel
theorem d5_8 : decode prog_43_method_8_code 8 = .ok (.aaload, 1) := by decide +kernel
theorem d5_9 : decode prog_43_method_8_code 9 = .ok (.iload_n 1, 1) := by decide +kernel
theorem d5_10 : decode prog_43_method_8_code 10 = .ok (.sipush 32767, 3) := by decide +kernel
theorem d5_13 : decode prog_43_method_8_code 13 = .ok (.iand, 1) := by decide +kernel
theorem d5_14 : decode prog_43_method_8_code 14 = .ok (.lload_n 2, 1) := by decide +kernel
theorem d5_15 : decode prog_43_method_8_code 15 = .ok (.lastore, 1) := by decide +kernel
theorem d5_16 : decode prog_43_method_8_code 16 = .ok (.return_, 1) := by decide +kernel
set_option maxRecDepth 65536 in
set_option maxHeartbeats 40000000 in
theorem rm_set (l : Launch) (Z : State) (a0 : Array Value) (hw : ∀ d ∈ tables_1, d.before a0 Z = true) (ws : List Jvm.Cond) (t ch : Addr) (n : Int32) (cs : Nat → Addr) (f : Nat → Int64) (ee : Int32) (vv : Int64) (h0 : Heap) (n0 : Nat) (I : Iv Z h0 n0 t ch n cs f) (he0 : 0 ≤ ee.toInt) (hen : ee.toInt < n.toInt) :
    MetFree l (⟨"com/example/reachmark/reachmark/label/Intervals", "set", "(IJ)V"⟩ : MethodName) (head1 (Jvm.Cond.code (⟨"com/example/reachmark/reachmark/label/Intervals", "set", "(IJ)V"⟩ : MethodName) prog_43_method_8_code 4 none :: ws) ({ frames := 0, cells := 0, slots := 0, locals := 0 } : Room)) (fun a U => a = #[(.ref t), (.int ee), (.long vv)] ∧ Z.Warmed39 U.vm ∧ U.heap = h0) (fun _ _ _ _ _ => True) (fun _ U o U' => ∃ v L, o = .returned v ∧ QS Z t ch n cs (own_upd f ee vv) n0 v U'.heap L ∧ FrameEnd U o U' L ({ frames := 0, cells := 0, slots := 0, locals := 0 } : Room).cells ({ frames := 0, cells := 0, slots := 0, locals := 0 } : Room).slots) := by
  refine MetFree.of_bodySF (plainFor_of_name pn_com_example_reachmark_reachmark_label_Intervals) hisR ?_
  intro p e s m args below meth c s₁ Bd hml0 hP hK
  obtain ⟨rfl, hZ, hh⟩ := hP
  have hx := Bd.exec
  have hby := Bd.bytes
  have hown : s.vm.findClass "com/example/reachmark/reachmark/label/Intervals" = some m.cls := findClass_of_methodNamed Bd.named
  have X0 : Stand p l e ({ frames := 0, cells := 0, slots := 0, locals := 0 } : Room) s m #[(.ref t), (.int ee), (.long vv)] below meth c s₁ [] 0 0 := Stand.of_body Bd
  have e0 : s₁.heap = h0 := by rw [← hh, Bd.state]; rfl
  have N0 := Fr.nil n0
  have pre0 : ∀ u, Steps p.tables e below (s₁.setTop (mkF m 0 #[.val (.ref t), .val (.int ee), .val (.long vv), .second] [])) u → Steps p.tables e below (s₁.setTop (entryFrame m #[(.ref t), (.int ee), (.long vv)] 4)) u := fun u k => castTop (by first | (simp [entryFrame, mkF, argsToLocals, Value.category]; done) | rfl) k
  obtain ⟨cc, cl, A, hq1, hq2, B, hr1, hr2, hr3, hb0⟩ := I.place he0 hen
  obtain ⟨T1, X1, e1, st1⟩ := getF X0 hx hZ hown (host := "") (Or.inl (hw _ (List.mem_of_getElem? (i := 18) rfl))) Via.refl e0 I.2.1 (g := (mkF m 1 #[.val (.ref t), .val (.int ee), .val (.long vv), .second] [(.ref t)])) rfl rfl (hb hby d5_1)
  obtain ⟨T2, h2, X2, e2, W2, st2⟩ := stJ X1 hx hZ e1 B (j := (ee &&& (32767 : Int32))) hr1 (g := (mkF m 15 #[.val (.ref t), .val (.int ee), .val (.long vv), .second] [(.long vv), (.int (ee &&& (32767 : Int32))), (.ref (cs (ee.toInt.toNat / 32768)))])) rfl rfl (hb hby d5_15)
  have N2 := Fr.snoc X2 N0 hb0
  obtain ⟨fs, hr, hrun, hended, hW, hsame⟩ := X2.leave (v := none) (fun _ => rfl)
  refine ⟨_, _, pre0 _ ?_, hrun, hended, _, _, rfl, ?_, ⟨_, rfl⟩, hW, hsame.mono (by decide) (by decide)⟩
  · show Steps p.tables e below (s₁.setTop (mkF m 0 #[.val (.ref t), .val (.int ee), .val (.long vv), .second] [])) _
    refine XS.aloadN X0.here hx rfl (hb hby d5_0) rfl rfl ?_
    show Steps p.tables e below (s₁.setTop (mkF m 1 #[.val (.ref t), .val (.int ee), .val (.long vv), .second] [(.ref t)])) _
    refine st1 _ ?_
    show Steps p.tables e below (T1.setTop (mkF m 4 #[.val (.ref t), .val (.int ee), .val (.long vv), .second] [(.ref ch)])) _
    refine XS.iloadN X1.here hx rfl (hb hby d5_4) rfl ?_
    show Steps p.tables e below (T1.setTop (mkF m 5 #[.val (.ref t), .val (.int ee), .val (.long vv), .second] [(.int ee), (.ref ch)])) _
    refine XS.bipush X1.here hx rfl (hb hby d5_5) ?_
    show Steps p.tables e below (T1.setTop (mkF m 7 #[.val (.ref t), .val (.int ee), .val (.long vv), .second] [(.int (15 : Int32)), (.int ee), (.ref ch)])) _
    refine XS.iushr X1.here hx rfl (hb hby d5_7) rfl ?_
    show Steps p.tables e below (T1.setTop (mkF m 8 #[.val (.ref t), .val (.int ee), .val (.long vv), .second] [(.int ((ee.toUInt32 >>> ((15 : Int32) &&& 31).toUInt32).toInt32)), (.ref ch)])) _
    refine X1.aaload hx (j := ((ee.toUInt32 >>> ((15 : Int32) &&& 31).toUInt32).toInt32)) (v := (.ref (cs (ee.toInt.toNat / 32768)))) (by rw [e1]; exact A.1) (State.isArrayOf_alike hZ.alike A.2.1) rfl A.2.2 hq1 hq2 (g := (mkF m 8 #[.val (.ref t), .val (.int ee), .val (.long vv), .second] [(.int ((ee.toUInt32 >>> ((15 : Int32) &&& 31).toUInt32).toInt32)), (.ref ch)])) rfl rfl (hb hby d5_8) _ ?_
    show Steps p.tables e below (T1.setTop (mkF m 9 #[.val (.ref t), .val (.int ee), .val (.long vv), .second] [(.ref (cs (ee.toInt.toNat / 32768)))])) _
    refine XS.iloadN X1.here hx rfl (hb hby d5_9) rfl ?_
    show Steps p.tables e below (T1.setTop (mkF m 10 #[.val (.ref t), .val (.int ee), .val (.long vv), .second] [(.int ee), (.ref (cs (ee.toInt.toNat / 32768)))])) _
    refine XS.sipush X1.here hx rfl (hb hby d5_10) ?_
    show Steps p.tables e below (T1.setTop (mkF m 13 #[.val (.ref t), .val (.int ee), .val (.long vv), .second] [(.int (32767 : Int32)), (.int ee), (.ref (cs (ee.toInt.toNat / 32768)))])) _
    refine XS.iand X1.here hx rfl (hb hby d5_13) rfl ?_
    show Steps p.tables e below (T1.setTop (mkF m 14 #[.val (.ref t), .val (.int ee), .val (.long vv), .second] [(.int (ee &&& (32767 : Int32))), (.ref (cs (ee.toInt.toNat / 32768)))])) _
    refine XS.lloadN X1.here hx rfl (hb hby d5_14) rfl ?_
    show Steps p.tables e below (T1.setTop (mkF m 15 #[.val (.ref t), .val (.int ee), .val (.long vv), .second] [(.long vv), (.int (ee &&& (32767 : Int32))), (.ref (cs (ee.toInt.toNat / 32768)))])) _
    refine st2 _ ?_
    show Steps p.tables e below (T2.setTop (mkF m 16 #[.val (.ref t), .val (.int ee), .val (.long vv), .second] [])) _
    exact X2.returnOut hx Bd.returns (hb hby d5_16) hr
  · show QS Z t ch n cs (own_upd f ee vv) n0 _ T2.heap _
    rw [e2]
    exact ⟨rfl, N2, I.set he0 hen hr3 W2⟩
theorem d6_0 : decode prog_43_method_7_code 0 = .ok (.aload_n 0, 1) := by decide +kernel
theorem d6_1 : decode prog_43_method_7_code 1 = .ok (.getfield 11, 3) := by decide +kernel
theorem d6_4 : decode prog_43_method_7_code 4 = .ok (.iload_n 1, 1) := by decide +kernel
theorem d6_5 : decode prog_43_method_7_code 5 = .ok (.bipush 15, 2) := by decide +kernel
theorem d6_7 : decode prog_43_method_7_code 7 = .ok (.iushr, 1) := by decide +kernel
theorem d6_8 : decode prog_43_method_7_code 8 = .ok (.aaload, 1) := by decide +kernel
theorem d6_9 : decode prog_43_method_7_code 9 = .ok (.iload_n 1, 1) := by decide +kernel
theorem d6_10 : decode prog_43_method_7_code 10 = .ok (.sipush 32767, 3) := by decide +kernel
theorem d6_13 : decode prog_43_method_7_code 13 = .ok (.iand, 1) := by decide +kernel
theorem d6_14 : decode prog_43_method_7_code 14 = .ok (.laload, 1) := by decide +kernel
theorem d6_15 : decode prog_43_method_7_code 15 = .ok (.lreturn, 1) := by decide +kernel
set_option maxRecDepth 65536 in
set_option maxHeartbeats 40000000 in
theorem rm_get (l : Launch) (Z : State) (a0 : Array Value) (hw : ∀ d ∈ tables_1, d.before a0 Z = true) (ws : List Jvm.Cond) (t ch : Addr) (n : Int32) (cs : Nat → Addr) (f : Nat → Int64) (ee : Int32) (vv : Int64) (h0 : Heap) (n0 : Nat) (I : Iv Z h0 n0 t ch n cs f) (he0 : 0 ≤ ee.toInt) (hen : ee.toInt < n.toInt) (hv : f ee.toInt.toNat = vv) :
    MetFree l (⟨"com/example/reachmark/reachmark/label/Intervals", "get", "(I)J"⟩ : MethodName) (head1 (Jvm.Cond.code (⟨"com/example/reachmark/reachmark/label/Intervals", "get", "(I)J"⟩ : MethodName) prog_43_method_7_code 2 (some .long) :: ws) ({ frames := 0, cells := 0, slots := 0, locals := 0 } : Room)) (fun a U => a = #[(.ref t), (.int ee)] ∧ Z.Warmed39 U.vm ∧ U.heap = h0) (fun _ _ _ _ _ => True) (fun _ U o U' => ∃ v L, o = .returned v ∧ QP (some (.long vv)) h0 n0 v U'.heap L ∧ FrameEnd U o U' L ({ frames := 0, cells := 0, slots := 0, locals := 0 } : Room).cells ({ frames := 0, cells := 0, slots := 0, locals := 0 } : Room).slots) := by
  refine MetFree.of_bodySF (plainFor_of_name pn_com_example_reachmark_reachmark_label_Intervals) hisR ?_
  intro p e s m args below meth c s₁ Bd hml0 hP hK
  obtain ⟨rfl, hZ, hh⟩ := hP
  have hx := Bd.exec
  have hby := Bd.bytes
  have hown : s.vm.findClass "com/example/reachmark/reachmark/label/Intervals" = some m.cls := findClass_of_methodNamed Bd.named
  have X0 : Stand p l e ({ frames := 0, cells := 0, slots := 0, locals := 0 } : Room) s m #[(.ref t), (.int ee)] below meth c s₁ [] 0 0 := Stand.of_body Bd
  have e0 : s₁.heap = h0 := by rw [← hh, Bd.state]; rfl
  have N0 := Fr.nil n0
  have pre0 : ∀ u, Steps p.tables e below (s₁.setTop (mkF m 0 #[.val (.ref t), .val (.int ee)] [])) u → Steps p.tables e below (s₁.setTop (entryFrame m #[(.ref t), (.int ee)] 2)) u := fun u k => castTop (by first | (simp [entryFrame, mkF, argsToLocals, Value.category]; done) | rfl) k
  obtain ⟨cc, cl, A, hq1, hq2, B, hr1, hr2, hr3, hb0⟩ := I.place he0 hen
  obtain ⟨T1, X1, e1, st1⟩ := getF X0 hx hZ hown (host := "") (Or.inl (hw _ (List.mem_of_getElem? (i := 18) rfl))) Via.refl e0 I.2.1 (g := (mkF m 1 #[.val (.ref t), .val (.int ee)] [(.ref t)])) rfl rfl (hb hby d6_1)
  obtain ⟨fs, hr, hrun, hended, hW, hsame⟩ := X1.leave (v := some (.long vv)) (fun h => by rw [Bd.returns] at h; cases h)
  refine ⟨_, _, pre0 _ ?_, hrun, hended, _, _, rfl, ?_, ⟨_, rfl⟩, hW, hsame.mono (by decide) (by decide)⟩
  · show Steps p.tables e below (s₁.setTop (mkF m 0 #[.val (.ref t), .val (.int ee)] [])) _
    refine XS.aloadN X0.here hx rfl (hb hby d6_0) rfl rfl ?_
    show Steps p.tables e below (s₁.setTop (mkF m 1 #[.val (.ref t), .val (.int ee)] [(.ref t)])) _
    refine st1 _ ?_
    show Steps p.tables e below (T1.setTop (mkF m 4 #[.val (.ref t), .val (.int ee)] [(.ref ch)])) _
    refine XS.iloadN X1.here hx rfl (hb hby d6_4) rfl ?_
    show Steps p.tables e below (T1.setTop (mkF m 5 #[.val (.ref t), .val (.int ee)] [(.int ee), (.ref ch)])) _
    refine XS.bipush X1.here hx rfl (hb hby d6_5) ?_
    show Steps p.tables e below (T1.setTop (mkF m 7 #[.val (.ref t), .val (.int ee)] [(.int (15 : Int32)), (.int ee), (.ref ch)])) _
    refine XS.iushr X1.here hx rfl (hb hby d6_7) rfl ?_
    show Steps p.tables e below (T1.setTop (mkF m 8 #[.val (.ref t), .val (.int ee)] [(.int ((ee.toUInt32 >>> ((15 : Int32) &&& 31).toUInt32).toInt32)), (.ref ch)])) _
    refine X1.aaload hx (j := ((ee.toUInt32 >>> ((15 : Int32) &&& 31).toUInt32).toInt32)) (v := (.ref (cs (ee.toInt.toNat / 32768)))) (by rw [e1]; exact A.1) (State.isArrayOf_alike hZ.alike A.2.1) rfl A.2.2 hq1 hq2 (g := (mkF m 8 #[.val (.ref t), .val (.int ee)] [(.int ((ee.toUInt32 >>> ((15 : Int32) &&& 31).toUInt32).toInt32)), (.ref ch)])) rfl rfl (hb hby d6_8) _ ?_
    show Steps p.tables e below (T1.setTop (mkF m 9 #[.val (.ref t), .val (.int ee)] [(.ref (cs (ee.toInt.toNat / 32768)))])) _
    refine XS.iloadN X1.here hx rfl (hb hby d6_9) rfl ?_
    show Steps p.tables e below (T1.setTop (mkF m 10 #[.val (.ref t), .val (.int ee)] [(.int ee), (.ref (cs (ee.toInt.toNat / 32768)))])) _
    refine XS.sipush X1.here hx rfl (hb hby d6_10) ?_
    show Steps p.tables e below (T1.setTop (mkF m 13 #[.val (.ref t), .val (.int ee)] [(.int (32767 : Int32)), (.int ee), (.ref (cs (ee.toInt.toNat / 32768)))])) _
    refine XS.iand X1.here hx rfl (hb hby d6_13) rfl ?_
    show Steps p.tables e below (T1.setTop (mkF m 14 #[.val (.ref t), .val (.int ee)] [(.int (ee &&& (32767 : Int32))), (.ref (cs (ee.toInt.toNat / 32768)))])) _
    refine X1.laload hx (j := (ee &&& (32767 : Int32))) (v := (.long vv)) (by rw [e1]; exact B.1) (State.isArrayOf_alike hZ.alike B.2.1) B.2.2 hr1 (hv ▸ hr2) (g := (mkF m 14 #[.val (.ref t), .val (.int ee)] [(.int (ee &&& (32767 : Int32))), (.ref (cs (ee.toInt.toNat / 32768)))])) rfl rfl (hb hby d6_14) _ ?_
    show Steps p.tables e below (T1.setTop (mkF m 15 #[.val (.ref t), .val (.int ee)] [(.long vv)])) _
    exact own_retL X1 hx Bd.returns (hb hby d6_15) hr
  · exact ⟨rfl, N0, e1⟩
theorem d7_0 : decode prog_43_method_6_code 0 = .ok (.aload_n 0, 1) := by decide +kernel
theorem d7_1 : decode prog_43_method_6_code 1 = .ok (.getfield 27, 3) := by decide +kernel
theorem d7_4 : decode prog_43_method_6_code 4 = .ok (.ireturn, 1) := by decide +kernel
set_option maxRecDepth 65536 in
set_option maxHeartbeats 40000000 in
theorem rm_size (l : Launch) (Z : State) (a0 : Array Value) (hw : ∀ d ∈ tables_1, d.before a0 Z = true) (ws : List Jvm.Cond) (t ch : Addr) (n : Int32) (cs : Nat → Addr) (f : Nat → Int64) (h0 : Heap) (n0 : Nat) (I : Iv Z h0 n0 t ch n cs f) :
    MetFree l (⟨"com/example/reachmark/reachmark/label/Intervals", "size", "()I"⟩ : MethodName) (head1 (Jvm.Cond.code (⟨"com/example/reachmark/reachmark/label/Intervals", "size", "()I"⟩ : MethodName) prog_43_method_6_code 1 (some .int) :: ws) ({ frames := 0, cells := 0, slots := 0, locals := 0 } : Room)) (fun a U => a = #[(.ref t)] ∧ Z.Warmed39 U.vm ∧ U.heap = h0) (fun _ _ _ _ _ => True) (fun _ U o U' => ∃ v L, o = .returned v ∧ QP (some (.int n)) h0 n0 v U'.heap L ∧ FrameEnd U o U' L ({ frames := 0, cells := 0, slots := 0, locals := 0 } : Room).cells ({ frames := 0, cells := 0, slots := 0, locals := 0 } : Room).slots) := by
  refine MetFree.of_bodySF (plainFor_of_name pn_com_example_reachmark_reachmark_label_Intervals) hisR ?_
  intro p e s m args below meth c s₁ Bd hml0 hP hK
  obtain ⟨rfl, hZ, hh⟩ := hP
  have hx := Bd.exec
  have hby := Bd.bytes
  have hown : s.vm.findClass "com/example/reachmark/reachmark/label/Intervals" = some m.cls := findClass_of_methodNamed Bd.named
  have X0 : Stand p l e ({ frames := 0, cells := 0, slots := 0, locals := 0 } : Room) s m #[(.ref t)] below meth c s₁ [] 0 0 := Stand.of_body Bd
  have e0 : s₁.heap = h0 := by rw [← hh, Bd.state]; rfl
  have N0 := Fr.nil n0
  have pre0 : ∀ u, Steps p.tables e below (s₁.setTop (mkF m 0 #[.val (.ref t)] [])) u → Steps p.tables e below (s₁.setTop (entryFrame m #[(.ref t)] 1)) u := fun u k => castTop (by first | (simp [entryFrame, mkF, argsToLocals, Value.category]; done) | rfl) k
  obtain ⟨T1, X1, e1, st1⟩ := getF X0 hx hZ hown (host := "") (Or.inl (hw _ (List.mem_of_getElem? (i := 26) rfl))) Via.refl e0 I.2.2.1 (g := (mkF m 1 #[.val (.ref t)] [(.ref t)])) rfl rfl (hb hby d7_1)
  obtain ⟨fs, hr, hrun, hended, hW, hsame⟩ := X1.leave (v := some (.int n)) (fun h => by rw [Bd.returns] at h; cases h)
  refine ⟨_, _, pre0 _ ?_, hrun, hended, _, _, rfl, ?_, ⟨_, rfl⟩, hW, hsame.mono (by decide) (by decide)⟩
  · show Steps p.tables e below (s₁.setTop (mkF m 0 #[.val (.ref t)] [])) _
    refine XS.aloadN X0.here hx rfl (hb hby d7_0) rfl rfl ?_
    show Steps p.tables e below (s₁.setTop (mkF m 1 #[.val (.ref t)] [(.ref t)])) _
    refine st1 _ ?_
    show Steps p.tables e below (T1.setTop (mkF m 4 #[.val (.ref t)] [(.int n)])) _
    exact own_retI X1 hx Bd.returns (hb hby d7_4) hr
  · exact ⟨rfl, N0, e1⟩
def WdL (Z : State) (h : Heap) (p1 : Int32) (p2 : Int32) (p3 : Int32) (p4 : Int32) (p5 : Int64) (p6 : Int64) (nn : Int32) (ii : Int32) (jj : Int32) (kk : Int32) : Prop := True
theorem pd_1 : parseMethodDescriptor "(I)V" = some ⟨[.int], none⟩ := by decide +kernel
theorem pd_2 : parseMethodDescriptor "(IJ)V" = some ⟨[.int, .long], none⟩ := by decide +kernel
theorem pd_3 : parseMethodDescriptor "(I)J" = some ⟨[.int], some .long⟩ := by decide +kernel
theorem pd_4 : parseMethodDescriptor "()I" = some ⟨[], some .int⟩ := by decide +kernel
theorem pn_com_example_reachmark_reachmark_label_IntervalsSetPinLaw : plainName "com/example/reachmark/reachmark/label/IntervalsSetPinLaw" = true := by first | (simp [plainName, overriddenIn]; done) | decide +kernel
set_option maxRecDepth 65536 in
set_option maxHeartbeats 40000000 in
theorem rmLaw0 (l : Launch) (Z : State) (a0 : Array Value) (hw : ∀ d ∈ tables_1, d.before a0 Z = true) (ws : List Jvm.Cond) (p1 : Int32) (p2 : Int32) (p3 : Int32) (p4 : Int32) (p5 : Int64) (p6 : Int64) (nn : Int32) (ii : Int32) (jj : Int32) (kk : Int32) (h0 : Heap) (n0 : Nat) (Z0 : n0 ≤ h0.size) (hS : WdL Z h0 p1 p2 p3 p4 p5 p6 nn ii jj kk) (hnn : ((1 : Int32) + (p1 &&& (131071 : Int32))) = nn) (hii : ((p2 &&& (2147483647 : Int32)) % nn) = ii) (hjj : ((p3 &&& (2147483647 : Int32)) % nn) = jj) (hkk : ((p4 &&& (2147483647 : Int32)) % nn) = kk) (hn1 : 1 ≤ nn.toInt) (hn2 : nn.toInt ≤ 131072) (hii0 : 0 ≤ ii.toInt) (hiin : ii.toInt < nn.toInt) (hjj0 : 0 ≤ jj.toInt) (hjjn : jj.toInt < nn.toInt) (hkk0 : 0 ≤ kk.toInt) (hkkn : kk.toInt < nn.toInt) (hji : jj = ii) (hki : kk = ii) :
    MetFree l x (head1 (Jvm.Cond.code x code maxLocals ret :: ws) room_1) (fun a U => a = #[(.int p1), (.int p2), (.int p3), (.int p4), (.long p5), (.long p6)] ∧ Z.Warmed39 U.vm ∧ U.heap = h0) (fun _ _ _ _ _ => True) (fun _ U o U' => ∃ v L, o = .returned v ∧ Q0 n0 v L ∧ FrameEnd U o U' L room_1.cells room_1.slots) := by
  refine MetFree.of_bodySF (plainFor_of_name pn_com_example_reachmark_reachmark_label_IntervalsSetPinLaw) hisR ?_
  intro p e s m args below meth c s₁ Bd hml0 hP hK
  obtain ⟨rfl, hZ, hh⟩ := hP
  have hx := Bd.exec
  have hby := Bd.bytes
  have hml : c.maxLocals = 17 := hml0
  have hown : s.vm.findClass "com/example/reachmark/reachmark/label/IntervalsSetPinLaw" = some m.cls := findClass_of_methodNamed Bd.named
  have X0 : Stand p l e room_1 s m #[(.int p1), (.int p2), (.int p3), (.int p4), (.long p5), (.long p6)] below meth c s₁ [] 0 0 := Stand.of_body Bd
  have e0 : s₁.heap = h0 := by rw [← hh, Bd.state]; rfl
  have N0 := Fr.nil n0
  have pre0 : ∀ t, Steps p.tables e below (s₁.setTop (mkF m 0 #[.val (.int p1), .val (.int p2), .val (.int p3), .val (.int p4), .val (.long p5), .second, .val (.long p6), .second, .unset, .unset, .unset, .unset, .unset, .unset, .unset, .unset, .unset] [])) t → Steps p.tables e below (s₁.setTop (entryFrame m #[(.int p1), (.int p2), (.int p3), (.int p4), (.long p5), (.long p6)] maxLocals)) t := fun t k => castTop (by first | (simp [entryFrame, mkF, argsToLocals, Value.category, maxLocals]; done) | rfl) k
  obtain ⟨T1, h1, X1, e1, E1, A1, D1, -, st1⟩ := newO X0 hx hZ hown (hw _ (List.mem_of_getElem? (i := 2) rfl)) (hw _ (List.mem_of_getElem? (i := 3) rfl)) (hw _ (List.mem_of_getElem? (i := 4) rfl)) e0 (g := (mkF m 35 #[.val (.int p1), .val (.int p2), .val (.int p3), .val (.int p4), .val (.long p5), .second, .val (.long p6), .second, .val (.int nn), .val (.int ii), .val (.int jj), .val (.int kk), .unset, .unset, .unset, .unset, .unset] [])) rfl (hb hby at_35) (by decide) (by decide)
  obtain ⟨t, gt⟩ : ∃ z, z = h0.size := ⟨_, rfl⟩
  rw [← gt] at A1 D1 st1
  have F_ch : Fld Z h1 t "com/example/reachmark/reachmark/label/Intervals" "chunks" "[[J" .null := D1 (Or.inl (hw _ (List.mem_of_getElem? (i := 19) rfl))) (ty := (.array (.array .long))) (by decide)
  have F_sz : Fld Z h1 t "com/example/reachmark/reachmark/label/Intervals" "size" "I" (.int (0 : Int32)) := D1 (Or.inl (hw _ (List.mem_of_getElem? (i := 27) rfl))) (ty := .int) (by decide)
  have Z1 : n0 ≤ h1.size := Nat.le_trans Z0 E1.1
  have g_t : n0 ≤ t := Nat.le_trans Z0 (Nat.le_of_eq gt.symm)
  obtain ⟨_, _, ⟨T2, L2, k2, n2⟩, -, X2, ⟨Lc2, hQ2, l2, y2, z2⟩, st2⟩ := X1.specialBack hx (y := (⟨"com/example/reachmark/reachmark/label/Intervals", "<init>", "(I)V"⟩ : MethodName)) rfl hown (mvT hZ (hw _ (List.mem_of_getElem? (i := 5) rfl))) (mvT hZ (hw _ (List.mem_of_getElem? (i := 6) rfl))) (mvT hZ (hw _ (List.mem_of_getElem? (i := 7) rfl))) (by decide) (backOf (W := 1) (rmInit l Z a0 hw [] t nn h1 n0 Z1 A1 F_ch F_sz g_t hn1 hn2) hZ (hw _ (List.mem_of_getElem? (i := 7) rfl)) (hw _ (List.mem_of_getElem? (i := 4) rfl)) (by decide) (by decide)) (g := (mkF m 41 #[.val (.int p1), .val (.int p2), .val (.int p3), .val (.int p4), .val (.long p5), .second, .val (.long p6), .second, .val (.int nn), .val (.int ii), .val (.int jj), .val (.int kk), .unset, .unset, .unset, .unset, .unset] [(.int nn), (.ref t), (.ref t)])) rfl (by rw [hml]; rfl) (Steps.refl _) (a := t) (argsL := [(.int nn)]) (rest := [(.ref t)]) (lenOf pd_1 rfl) rfl (by show 2 * 0 + _ ≤ _; exact Nat.le_of_eq rfl) (hb hby at_41) (fun _ _ => ⟨rfl, e1, (by decide : 1 + 5 ≤ _), (by decide : 2 + 131076 ≤ _)⟩)
  dsimp only [Pt.U, Pt.locs, Pt.cells, Pt.slots] at X2 l2 y2 z2 st2 hQ2
  subst l2 y2 z2
  obtain ⟨rfl, N2q, -, ch, cs, I2⟩ := hQ2
  have N2 := Fr.app N0 N2q
  obtain ⟨cq3, kq3, q3a, q3b, q3c⟩ := isOf hZ rfl I2.1
  obtain ⟨_, _, ⟨T3, L3, k3, n3⟩, -, X3, ⟨Lc3, hQ3, l3, y3, z3⟩, st3⟩ := X2.virtualBack hx (y := (⟨"com/example/reachmark/reachmark/label/Intervals", "set", "(IJ)V"⟩ : MethodName)) (z := (⟨"com/example/reachmark/reachmark/label/Intervals", "set", "(IJ)V"⟩ : MethodName)) hown (mvT hZ (hw _ (List.mem_of_getElem? (i := 28) rfl))) (mvT hZ (hw _ (List.mem_of_getElem? (i := 29) rfl))) (notFace_of_selects (args := #[]) (mvT hZ (hw _ (List.mem_of_getElem? (i := 31) rfl)))) (mvT hZ (hw _ (List.mem_of_getElem? (i := 31) rfl))) (mvT hZ (hw _ (List.mem_of_getElem? (i := 30) rfl))) (by decide) (backOf (W := 0) (rm_set l Z a0 hw [] t ch nn cs (fun _ => 0) jj p6 T2.heap n0 I2 hjj0 hjjn) hZ (hw _ (List.mem_of_getElem? (i := 32) rfl)) (hw _ (List.mem_of_getElem? (i := 4) rfl)) (by decide) (by decide)) q3a q3c (g := (mkF m 52 #[.val (.int p1), .val (.int p2), .val (.int p3), .val (.int p4), .val (.long p5), .second, .val (.long p6), .second, .val (.int nn), .val (.int ii), .val (.int jj), .val (.int kk), .val (.ref t), .unset, .unset, .unset, .unset] [(.long p6), (.int jj), (.ref t)])) rfl (by rw [hml]; rfl) (Steps.refl _) (argsL := [(.int jj), (.long p6)]) (rest := []) (lenOf pd_2 rfl) rfl (by show 2 * 0 + _ ≤ _; exact Nat.le_of_eq rfl) (hb hby at_52) (fun _ _ => ⟨rfl, rfl, (by decide : 6 + 0 ≤ _), (by decide : 131078 + 0 ≤ _)⟩)
  dsimp only [Pt.U, Pt.locs, Pt.cells, Pt.slots] at X3 l3 y3 z3 st3 hQ3
  subst l3 y3 z3
  obtain ⟨rfl, N3q, I3⟩ := hQ3
  have N3 := Fr.app N2 N3q
  obtain ⟨cq4, kq4, q4a, q4b, q4c⟩ := isOf hZ rfl I3.1
  obtain ⟨_, _, ⟨T4, L4, k4, n4⟩, -, X4, ⟨Lc4, hQ4, l4, y4, z4⟩, st4⟩ := X3.virtualBack hx (y := (⟨"com/example/reachmark/reachmark/label/Intervals", "set", "(IJ)V"⟩ : MethodName)) (z := (⟨"com/example/reachmark/reachmark/label/Intervals", "set", "(IJ)V"⟩ : MethodName)) hown (mvT hZ (hw _ (List.mem_of_getElem? (i := 28) rfl))) (mvT hZ (hw _ (List.mem_of_getElem? (i := 29) rfl))) (notFace_of_selects (args := #[]) (mvT hZ (hw _ (List.mem_of_getElem? (i := 31) rfl)))) (mvT hZ (hw _ (List.mem_of_getElem? (i := 31) rfl))) (mvT hZ (hw _ (List.mem_of_getElem? (i := 30) rfl))) (by decide) (backOf (W := 0) (rm_set l Z a0 hw [] t ch nn cs (own_upd (fun _ => 0) jj p6) ii p5 T3.heap n0 I3 hii0 hiin) hZ (hw _ (List.mem_of_getElem? (i := 32) rfl)) (hw _ (List.mem_of_getElem? (i := 4) rfl)) (by decide) (by decide)) q4a q4c (g := (mkF m 61 #[.val (.int p1), .val (.int p2), .val (.int p3), .val (.int p4), .val (.long p5), .second, .val (.long p6), .second, .val (.int nn), .val (.int ii), .val (.int jj), .val (.int kk), .val (.ref t), .unset, .unset, .unset, .unset] [(.long p5), (.int ii), (.ref t)])) rfl (by rw [hml]; rfl) (Steps.refl _) (argsL := [(.int ii), (.long p5)]) (rest := []) (lenOf pd_2 rfl) rfl (by show 2 * 0 + _ ≤ _; exact Nat.le_of_eq rfl) (hb hby at_61) (fun _ _ => ⟨rfl, rfl, (by decide : 6 + 0 ≤ _), (by decide : 131078 + 0 ≤ _)⟩)
  dsimp only [Pt.U, Pt.locs, Pt.cells, Pt.slots] at X4 l4 y4 z4 st4 hQ4
  subst l4 y4 z4
  obtain ⟨rfl, N4q, I4⟩ := hQ4
  have N4 := Fr.app N3 N4q
  obtain ⟨cq5, kq5, q5a, q5b, q5c⟩ := isOf hZ rfl I4.1
  obtain ⟨_, _, ⟨T5, L5, k5, n5⟩, -, X5, ⟨Lc5, hQ5, l5, y5, z5⟩, st5⟩ := X4.virtualBack hx (y := (⟨"com/example/reachmark/reachmark/label/Intervals", "get", "(I)J"⟩ : MethodName)) (z := (⟨"com/example/reachmark/reachmark/label/Intervals", "get", "(I)J"⟩ : MethodName)) hown (mvT hZ (hw _ (List.mem_of_getElem? (i := 33) rfl))) (mvT hZ (hw _ (List.mem_of_getElem? (i := 34) rfl))) (notFace_of_selects (args := #[]) (mvT hZ (hw _ (List.mem_of_getElem? (i := 36) rfl)))) (mvT hZ (hw _ (List.mem_of_getElem? (i := 36) rfl))) (mvT hZ (hw _ (List.mem_of_getElem? (i := 35) rfl))) (by decide) (backOf (W := 0) (rm_get l Z a0 hw [] t ch nn cs (own_upd (own_upd (fun _ => 0) jj p6) ii p5) ii p5 T4.heap n0 I4 hii0 hiin (by rw [own_upd_at _ _ _ _ hii0 hii0, own_upd_at _ _ _ _ hjj0 hii0]; simp [])) hZ (hw _ (List.mem_of_getElem? (i := 37) rfl)) (hw _ (List.mem_of_getElem? (i := 4) rfl)) (by decide) (by decide)) q5a q5c (g := (mkF m 115 #[.val (.int p1), .val (.int p2), .val (.int p3), .val (.int p4), .val (.long p5), .second, .val (.long p6), .second, .val (.int nn), .val (.int ii), .val (.int jj), .val (.int kk), .val (.ref t), .val (.long p5), .second, .val (.long p5), .second] [(.int ii), (.ref t)])) rfl (by rw [hml]; rfl) (Steps.refl _) (argsL := [(.int ii)]) (rest := []) (lenOf pd_3 rfl) rfl (by show 2 * 0 + _ ≤ _; exact Nat.le_of_eq rfl) (hb hby at_115) (fun _ _ => ⟨rfl, rfl, (by decide : 6 + 0 ≤ _), (by decide : 131078 + 0 ≤ _)⟩)
  dsimp only [Pt.U, Pt.locs, Pt.cells, Pt.slots] at X5 l5 y5 z5 st5 hQ5
  subst l5 y5 z5
  obtain ⟨rfl, N5q, e5⟩ := hQ5
  have N5 := Fr.app N4 N5q
  obtain ⟨cq6, kq6, q6a, q6b, q6c⟩ := isOf hZ e5 I4.1
  obtain ⟨_, _, ⟨T6, L6, k6, n6⟩, -, X6, ⟨Lc6, hQ6, l6, y6, z6⟩, st6⟩ := X5.virtualBack hx (y := (⟨"com/example/reachmark/reachmark/label/Intervals", "get", "(I)J"⟩ : MethodName)) (z := (⟨"com/example/reachmark/reachmark/label/Intervals", "get", "(I)J"⟩ : MethodName)) hown (mvT hZ (hw _ (List.mem_of_getElem? (i := 33) rfl))) (mvT hZ (hw _ (List.mem_of_getElem? (i := 34) rfl))) (notFace_of_selects (args := #[]) (mvT hZ (hw _ (List.mem_of_getElem? (i := 36) rfl)))) (mvT hZ (hw _ (List.mem_of_getElem? (i := 36) rfl))) (mvT hZ (hw _ (List.mem_of_getElem? (i := 35) rfl))) (by decide) (backOf (W := 0) (rm_get l Z a0 hw [] t ch nn cs (own_upd (own_upd (fun _ => 0) jj p6) ii p5) jj p5 T4.heap n0 I4 hjj0 hjjn (by rw [own_upd_at _ _ _ _ hii0 hjj0, own_upd_at _ _ _ _ hjj0 hjj0]; simp [hji])) hZ (hw _ (List.mem_of_getElem? (i := 37) rfl)) (hw _ (List.mem_of_getElem? (i := 4) rfl)) (by decide) (by decide)) q6a q6c (g := (mkF m 128 #[.val (.int p1), .val (.int p2), .val (.int p3), .val (.int p4), .val (.long p5), .second, .val (.long p6), .second, .val (.int nn), .val (.int ii), .val (.int jj), .val (.int kk), .val (.ref t), .val (.long p5), .second, .val (.long p5), .second] [(.int jj), (.ref t)])) rfl (by rw [hml]; rfl) (Steps.refl _) (argsL := [(.int jj)]) (rest := []) (lenOf pd_3 rfl) rfl (by show 2 * 0 + _ ≤ _; exact Nat.le_of_eq rfl) (hb hby at_128) (fun _ _ => ⟨rfl, e5, (by decide : 6 + 0 ≤ _), (by decide : 131078 + 0 ≤ _)⟩)
  dsimp only [Pt.U, Pt.locs, Pt.cells, Pt.slots] at X6 l6 y6 z6 st6 hQ6
  subst l6 y6 z6
  obtain ⟨rfl, N6q, e6⟩ := hQ6
  have N6 := Fr.app N5 N6q
  obtain ⟨cq7, kq7, q7a, q7b, q7c⟩ := isOf hZ e6 I4.1
  obtain ⟨_, _, ⟨T7, L7, k7, n7⟩, -, X7, ⟨Lc7, hQ7, l7, y7, z7⟩, st7⟩ := X6.virtualBack hx (y := (⟨"com/example/reachmark/reachmark/label/Intervals", "get", "(I)J"⟩ : MethodName)) (z := (⟨"com/example/reachmark/reachmark/label/Intervals", "get", "(I)J"⟩ : MethodName)) hown (mvT hZ (hw _ (List.mem_of_getElem? (i := 33) rfl))) (mvT hZ (hw _ (List.mem_of_getElem? (i := 34) rfl))) (notFace_of_selects (args := #[]) (mvT hZ (hw _ (List.mem_of_getElem? (i := 36) rfl)))) (mvT hZ (hw _ (List.mem_of_getElem? (i := 36) rfl))) (mvT hZ (hw _ (List.mem_of_getElem? (i := 35) rfl))) (by decide) (backOf (W := 0) (rm_get l Z a0 hw [] t ch nn cs (own_upd (own_upd (fun _ => 0) jj p6) ii p5) kk p5 T4.heap n0 I4 hkk0 hkkn (by rw [own_upd_at _ _ _ _ hii0 hkk0, own_upd_at _ _ _ _ hjj0 hkk0]; simp [hji, hki])) hZ (hw _ (List.mem_of_getElem? (i := 37) rfl)) (hw _ (List.mem_of_getElem? (i := 4) rfl)) (by decide) (by decide)) q7a q7c (g := (mkF m 141 #[.val (.int p1), .val (.int p2), .val (.int p3), .val (.int p4), .val (.long p5), .second, .val (.long p6), .second, .val (.int nn), .val (.int ii), .val (.int jj), .val (.int kk), .val (.ref t), .val (.long p5), .second, .val (.long p5), .second] [(.int kk), (.ref t)])) rfl (by rw [hml]; rfl) (Steps.refl _) (argsL := [(.int kk)]) (rest := []) (lenOf pd_3 rfl) rfl (by show 2 * 0 + _ ≤ _; exact Nat.le_of_eq rfl) (hb hby at_141) (fun _ _ => ⟨rfl, e6, (by decide : 6 + 0 ≤ _), (by decide : 131078 + 0 ≤ _)⟩)
  dsimp only [Pt.U, Pt.locs, Pt.cells, Pt.slots] at X7 l7 y7 z7 st7 hQ7
  subst l7 y7 z7
  obtain ⟨rfl, N7q, e7⟩ := hQ7
  have N7 := Fr.app N6 N7q
  obtain ⟨cq8, kq8, q8a, q8b, q8c⟩ := isOf hZ e7 I4.1
  obtain ⟨_, _, ⟨T8, L8, k8, n8⟩, -, X8, ⟨Lc8, hQ8, l8, y8, z8⟩, st8⟩ := X7.virtualBack hx (y := (⟨"com/example/reachmark/reachmark/label/Intervals", "size", "()I"⟩ : MethodName)) (z := (⟨"com/example/reachmark/reachmark/label/Intervals", "size", "()I"⟩ : MethodName)) hown (mvT hZ (hw _ (List.mem_of_getElem? (i := 38) rfl))) (mvT hZ (hw _ (List.mem_of_getElem? (i := 39) rfl))) (notFace_of_selects (args := #[]) (mvT hZ (hw _ (List.mem_of_getElem? (i := 41) rfl)))) (mvT hZ (hw _ (List.mem_of_getElem? (i := 41) rfl))) (mvT hZ (hw _ (List.mem_of_getElem? (i := 40) rfl))) (by decide) (backOf (W := 0) (rm_size l Z a0 hw [] t ch nn cs (own_upd (own_upd (fun _ => 0) jj p6) ii p5) T4.heap n0 I4) hZ (hw _ (List.mem_of_getElem? (i := 42) rfl)) (hw _ (List.mem_of_getElem? (i := 4) rfl)) (by decide) (by decide)) q8a q8c (g := (mkF m 152 #[.val (.int p1), .val (.int p2), .val (.int p3), .val (.int p4), .val (.long p5), .second, .val (.long p6), .second, .val (.int nn), .val (.int ii), .val (.int jj), .val (.int kk), .val (.ref t), .val (.long p5), .second, .val (.long p5), .second] [(.ref t)])) rfl (by rw [hml]; rfl) (Steps.refl _) (argsL := []) (rest := []) (lenOf pd_4 rfl) rfl (by show 2 * 0 + _ ≤ _; exact Nat.le_of_eq rfl) (hb hby at_152) (fun _ _ => ⟨rfl, e7, (by decide : 6 + 0 ≤ _), (by decide : 131078 + 0 ≤ _)⟩)
  dsimp only [Pt.U, Pt.locs, Pt.cells, Pt.slots] at X8 l8 y8 z8 st8 hQ8
  subst l8 y8 z8
  obtain ⟨rfl, N8q, e8⟩ := hQ8
  have N8 := Fr.app N7 N8q
  obtain ⟨fs, hr, hrun, hended, hW, hsame⟩ := X8.leave (v := some (.int (1 : Int32))) (fun h => by rw [Bd.returns] at h; cases h)
  refine ⟨_, _, pre0 _ ?_, hrun, hended, _, _, rfl, ?_, ⟨_, rfl⟩, hW, hsame.mono (by decide) (by decide)⟩
  · show Steps p.tables e below (s₁.setTop (mkF m 0 #[.val (.int p1), .val (.int p2), .val (.int p3), .val (.int p4), .val (.long p5), .second, .val (.long p6), .second, .unset, .unset, .unset, .unset, .unset, .unset, .unset, .unset, .unset] [])) _
    refine XS.iconst X0.here hx rfl (hb hby at_0) ?_
    show Steps p.tables e below (s₁.setTop (mkF m 1 #[.val (.int p1), .val (.int p2), .val (.int p3), .val (.int p4), .val (.long p5), .second, .val (.long p6), .second, .unset, .unset, .unset, .unset, .unset, .unset, .unset, .unset, .unset] [(.int (1 : Int32))])) _
    refine XS.iloadN X0.here hx rfl (hb hby at_1) rfl ?_
    show Steps p.tables e below (s₁.setTop (mkF m 2 #[.val (.int p1), .val (.int p2), .val (.int p3), .val (.int p4), .val (.long p5), .second, .val (.long p6), .second, .unset, .unset, .unset, .unset, .unset, .unset, .unset, .unset, .unset] [(.int p1), (.int (1 : Int32))])) _
    refine X0.ldcInt hx hown (mvT hZ (hw _ (List.mem_of_getElem? (i := 0) rfl))) (g := (mkF m 2 #[.val (.int p1), .val (.int p2), .val (.int p3), .val (.int p4), .val (.long p5), .second, .val (.long p6), .second, .unset, .unset, .unset, .unset, .unset, .unset, .unset, .unset, .unset] [(.int p1), (.int (1 : Int32))])) rfl (hb hby at_2) _ ?_
    show Steps p.tables e below (s₁.setTop (mkF m 4 #[.val (.int p1), .val (.int p2), .val (.int p3), .val (.int p4), .val (.long p5), .second, .val (.long p6), .second, .unset, .unset, .unset, .unset, .unset, .unset, .unset, .unset, .unset] [(.int (131071 : Int32)), (.int p1), (.int (1 : Int32))])) _
    refine XS.iand X0.here hx rfl (hb hby at_4) rfl ?_
    show Steps p.tables e below (s₁.setTop (mkF m 5 #[.val (.int p1), .val (.int p2), .val (.int p3), .val (.int p4), .val (.long p5), .second, .val (.long p6), .second, .unset, .unset, .unset, .unset, .unset, .unset, .unset, .unset, .unset] [(.int (p1 &&& (131071 : Int32))), (.int (1 : Int32))])) _
    refine XS.iadd X0.here hx rfl (hb hby at_5) rfl ?_
    rw [hnn]
    show Steps p.tables e below (s₁.setTop (mkF m 6 #[.val (.int p1), .val (.int p2), .val (.int p3), .val (.int p4), .val (.long p5), .second, .val (.long p6), .second, .unset, .unset, .unset, .unset, .unset, .unset, .unset, .unset, .unset] [(.int nn)])) _
    refine XS.istore X0.here hx rfl (hb hby at_6) rfl (l' := #[.val (.int p1), .val (.int p2), .val (.int p3), .val (.int p4), .val (.long p5), .second, .val (.long p6), .second, .val (.int nn), .unset, .unset, .unset, .unset, .unset, .unset, .unset, .unset]) rfl ?_
    show Steps p.tables e below (s₁.setTop (mkF m 8 #[.val (.int p1), .val (.int p2), .val (.int p3), .val (.int p4), .val (.long p5), .second, .val (.long p6), .second, .val (.int nn), .unset, .unset, .unset, .unset, .unset, .unset, .unset, .unset] [])) _
    refine XS.iloadN X0.here hx rfl (hb hby at_8) rfl ?_
    show Steps p.tables e below (s₁.setTop (mkF m 9 #[.val (.int p1), .val (.int p2), .val (.int p3), .val (.int p4), .val (.long p5), .second, .val (.long p6), .second, .val (.int nn), .unset, .unset, .unset, .unset, .unset, .unset, .unset, .unset] [(.int p2)])) _
    refine X0.ldcInt hx hown (mvT hZ (hw _ (List.mem_of_getElem? (i := 1) rfl))) (g := (mkF m 9 #[.val (.int p1), .val (.int p2), .val (.int p3), .val (.int p4), .val (.long p5), .second, .val (.long p6), .second, .val (.int nn), .unset, .unset, .unset, .unset, .unset, .unset, .unset, .unset] [(.int p2)])) rfl (hb hby at_9) _ ?_
    show Steps p.tables e below (s₁.setTop (mkF m 11 #[.val (.int p1), .val (.int p2), .val (.int p3), .val (.int p4), .val (.long p5), .second, .val (.long p6), .second, .val (.int nn), .unset, .unset, .unset, .unset, .unset, .unset, .unset, .unset] [(.int (2147483647 : Int32)), (.int p2)])) _
    refine XS.iand X0.here hx rfl (hb hby at_11) rfl ?_
    show Steps p.tables e below (s₁.setTop (mkF m 12 #[.val (.int p1), .val (.int p2), .val (.int p3), .val (.int p4), .val (.long p5), .second, .val (.long p6), .second, .val (.int nn), .unset, .unset, .unset, .unset, .unset, .unset, .unset, .unset] [(.int (p2 &&& (2147483647 : Int32)))])) _
    refine XS.iload X0.here hx rfl (hb hby at_12) rfl ?_
    show Steps p.tables e below (s₁.setTop (mkF m 14 #[.val (.int p1), .val (.int p2), .val (.int p3), .val (.int p4), .val (.long p5), .second, .val (.long p6), .second, .val (.int nn), .unset, .unset, .unset, .unset, .unset, .unset, .unset, .unset] [(.int nn), (.int (p2 &&& (2147483647 : Int32)))])) _
    refine Jvm.RoadKit.iremM (g := (mkF m 14 #[.val (.int p1), .val (.int p2), .val (.int p3), .val (.int p4), .val (.long p5), .second, .val (.long p6), .second, .val (.int nn), .unset, .unset, .unset, .unset, .unset, .unset, .unset, .unset] [(.int nn), (.int (p2 &&& (2147483647 : Int32)))])) X0 hx rfl (hb hby at_14) rfl (own_ne0 nn hn1) ?_
    rw [hii]
    show Steps p.tables e below (s₁.setTop (mkF m 15 #[.val (.int p1), .val (.int p2), .val (.int p3), .val (.int p4), .val (.long p5), .second, .val (.long p6), .second, .val (.int nn), .unset, .unset, .unset, .unset, .unset, .unset, .unset, .unset] [(.int ii)])) _
    refine XS.istore X0.here hx rfl (hb hby at_15) rfl (l' := #[.val (.int p1), .val (.int p2), .val (.int p3), .val (.int p4), .val (.long p5), .second, .val (.long p6), .second, .val (.int nn), .val (.int ii), .unset, .unset, .unset, .unset, .unset, .unset, .unset]) rfl ?_
    show Steps p.tables e below (s₁.setTop (mkF m 17 #[.val (.int p1), .val (.int p2), .val (.int p3), .val (.int p4), .val (.long p5), .second, .val (.long p6), .second, .val (.int nn), .val (.int ii), .unset, .unset, .unset, .unset, .unset, .unset, .unset] [])) _
    refine XS.iloadN X0.here hx rfl (hb hby at_17) rfl ?_
    show Steps p.tables e below (s₁.setTop (mkF m 18 #[.val (.int p1), .val (.int p2), .val (.int p3), .val (.int p4), .val (.long p5), .second, .val (.long p6), .second, .val (.int nn), .val (.int ii), .unset, .unset, .unset, .unset, .unset, .unset, .unset] [(.int p3)])) _
    refine X0.ldcInt hx hown (mvT hZ (hw _ (List.mem_of_getElem? (i := 1) rfl))) (g := (mkF m 18 #[.val (.int p1), .val (.int p2), .val (.int p3), .val (.int p4), .val (.long p5), .second, .val (.long p6), .second, .val (.int nn), .val (.int ii), .unset, .unset, .unset, .unset, .unset, .unset, .unset] [(.int p3)])) rfl (hb hby at_18) _ ?_
    show Steps p.tables e below (s₁.setTop (mkF m 20 #[.val (.int p1), .val (.int p2), .val (.int p3), .val (.int p4), .val (.long p5), .second, .val (.long p6), .second, .val (.int nn), .val (.int ii), .unset, .unset, .unset, .unset, .unset, .unset, .unset] [(.int (2147483647 : Int32)), (.int p3)])) _
    refine XS.iand X0.here hx rfl (hb hby at_20) rfl ?_
    show Steps p.tables e below (s₁.setTop (mkF m 21 #[.val (.int p1), .val (.int p2), .val (.int p3), .val (.int p4), .val (.long p5), .second, .val (.long p6), .second, .val (.int nn), .val (.int ii), .unset, .unset, .unset, .unset, .unset, .unset, .unset] [(.int (p3 &&& (2147483647 : Int32)))])) _
    refine XS.iload X0.here hx rfl (hb hby at_21) rfl ?_
    show Steps p.tables e below (s₁.setTop (mkF m 23 #[.val (.int p1), .val (.int p2), .val (.int p3), .val (.int p4), .val (.long p5), .second, .val (.long p6), .second, .val (.int nn), .val (.int ii), .unset, .unset, .unset, .unset, .unset, .unset, .unset] [(.int nn), (.int (p3 &&& (2147483647 : Int32)))])) _
    refine Jvm.RoadKit.iremM (g := (mkF m 23 #[.val (.int p1), .val (.int p2), .val (.int p3), .val (.int p4), .val (.long p5), .second, .val (.long p6), .second, .val (.int nn), .val (.int ii), .unset, .unset, .unset, .unset, .unset, .unset, .unset] [(.int nn), (.int (p3 &&& (2147483647 : Int32)))])) X0 hx rfl (hb hby at_23) rfl (own_ne0 nn hn1) ?_
    rw [hjj]
    show Steps p.tables e below (s₁.setTop (mkF m 24 #[.val (.int p1), .val (.int p2), .val (.int p3), .val (.int p4), .val (.long p5), .second, .val (.long p6), .second, .val (.int nn), .val (.int ii), .unset, .unset, .unset, .unset, .unset, .unset, .unset] [(.int jj)])) _
    refine XS.istore X0.here hx rfl (hb hby at_24) rfl (l' := #[.val (.int p1), .val (.int p2), .val (.int p3), .val (.int p4), .val (.long p5), .second, .val (.long p6), .second, .val (.int nn), .val (.int ii), .val (.int jj), .unset, .unset, .unset, .unset, .unset, .unset]) rfl ?_
    show Steps p.tables e below (s₁.setTop (mkF m 26 #[.val (.int p1), .val (.int p2), .val (.int p3), .val (.int p4), .val (.long p5), .second, .val (.long p6), .second, .val (.int nn), .val (.int ii), .val (.int jj), .unset, .unset, .unset, .unset, .unset, .unset] [])) _
    refine XS.iloadN X0.here hx rfl (hb hby at_26) rfl ?_
    show Steps p.tables e below (s₁.setTop (mkF m 27 #[.val (.int p1), .val (.int p2), .val (.int p3), .val (.int p4), .val (.long p5), .second, .val (.long p6), .second, .val (.int nn), .val (.int ii), .val (.int jj), .unset, .unset, .unset, .unset, .unset, .unset] [(.int p4)])) _
    refine X0.ldcInt hx hown (mvT hZ (hw _ (List.mem_of_getElem? (i := 1) rfl))) (g := (mkF m 27 #[.val (.int p1), .val (.int p2), .val (.int p3), .val (.int p4), .val (.long p5), .second, .val (.long p6), .second, .val (.int nn), .val (.int ii), .val (.int jj), .unset, .unset, .unset, .unset, .unset, .unset] [(.int p4)])) rfl (hb hby at_27) _ ?_
    show Steps p.tables e below (s₁.setTop (mkF m 29 #[.val (.int p1), .val (.int p2), .val (.int p3), .val (.int p4), .val (.long p5), .second, .val (.long p6), .second, .val (.int nn), .val (.int ii), .val (.int jj), .unset, .unset, .unset, .unset, .unset, .unset] [(.int (2147483647 : Int32)), (.int p4)])) _
    refine XS.iand X0.here hx rfl (hb hby at_29) rfl ?_
    show Steps p.tables e below (s₁.setTop (mkF m 30 #[.val (.int p1), .val (.int p2), .val (.int p3), .val (.int p4), .val (.long p5), .second, .val (.long p6), .second, .val (.int nn), .val (.int ii), .val (.int jj), .unset, .unset, .unset, .unset, .unset, .unset] [(.int (p4 &&& (2147483647 : Int32)))])) _
    refine XS.iload X0.here hx rfl (hb hby at_30) rfl ?_
    show Steps p.tables e below (s₁.setTop (mkF m 32 #[.val (.int p1), .val (.int p2), .val (.int p3), .val (.int p4), .val (.long p5), .second, .val (.long p6), .second, .val (.int nn), .val (.int ii), .val (.int jj), .unset, .unset, .unset, .unset, .unset, .unset] [(.int nn), (.int (p4 &&& (2147483647 : Int32)))])) _
    refine Jvm.RoadKit.iremM (g := (mkF m 32 #[.val (.int p1), .val (.int p2), .val (.int p3), .val (.int p4), .val (.long p5), .second, .val (.long p6), .second, .val (.int nn), .val (.int ii), .val (.int jj), .unset, .unset, .unset, .unset, .unset, .unset] [(.int nn), (.int (p4 &&& (2147483647 : Int32)))])) X0 hx rfl (hb hby at_32) rfl (own_ne0 nn hn1) ?_
    rw [hkk]
    show Steps p.tables e below (s₁.setTop (mkF m 33 #[.val (.int p1), .val (.int p2), .val (.int p3), .val (.int p4), .val (.long p5), .second, .val (.long p6), .second, .val (.int nn), .val (.int ii), .val (.int jj), .unset, .unset, .unset, .unset, .unset, .unset] [(.int kk)])) _
    refine XS.istore X0.here hx rfl (hb hby at_33) rfl (l' := #[.val (.int p1), .val (.int p2), .val (.int p3), .val (.int p4), .val (.long p5), .second, .val (.long p6), .second, .val (.int nn), .val (.int ii), .val (.int jj), .val (.int kk), .unset, .unset, .unset, .unset, .unset]) rfl ?_
    show Steps p.tables e below (s₁.setTop (mkF m 35 #[.val (.int p1), .val (.int p2), .val (.int p3), .val (.int p4), .val (.long p5), .second, .val (.long p6), .second, .val (.int nn), .val (.int ii), .val (.int jj), .val (.int kk), .unset, .unset, .unset, .unset, .unset] [])) _
    refine st1 _ ?_
    show Steps p.tables e below (T1.setTop (mkF m 38 #[.val (.int p1), .val (.int p2), .val (.int p3), .val (.int p4), .val (.long p5), .second, .val (.long p6), .second, .val (.int nn), .val (.int ii), .val (.int jj), .val (.int kk), .unset, .unset, .unset, .unset, .unset] [(.ref t)])) _
    refine XS.dup X1.here hx rfl (hb hby at_38) rfl rfl ?_
    show Steps p.tables e below (T1.setTop (mkF m 39 #[.val (.int p1), .val (.int p2), .val (.int p3), .val (.int p4), .val (.long p5), .second, .val (.long p6), .second, .val (.int nn), .val (.int ii), .val (.int jj), .val (.int kk), .unset, .unset, .unset, .unset, .unset] [(.ref t), (.ref t)])) _
    refine XS.iload X1.here hx rfl (hb hby at_39) rfl ?_
    show Steps p.tables e below (T1.setTop (mkF m 41 #[.val (.int p1), .val (.int p2), .val (.int p3), .val (.int p4), .val (.long p5), .second, .val (.long p6), .second, .val (.int nn), .val (.int ii), .val (.int jj), .val (.int kk), .unset, .unset, .unset, .unset, .unset] [(.int nn), (.ref t), (.ref t)])) _
    refine st2.trans ?_
    show Steps p.tables e below (T2.setTop (mkF m 44 #[.val (.int p1), .val (.int p2), .val (.int p3), .val (.int p4), .val (.long p5), .second, .val (.long p6), .second, .val (.int nn), .val (.int ii), .val (.int jj), .val (.int kk), .unset, .unset, .unset, .unset, .unset] [(.ref t)])) _
    refine XS.astore X2.here hx rfl (hb hby at_44) rfl rfl (l' := #[.val (.int p1), .val (.int p2), .val (.int p3), .val (.int p4), .val (.long p5), .second, .val (.long p6), .second, .val (.int nn), .val (.int ii), .val (.int jj), .val (.int kk), .val (.ref t), .unset, .unset, .unset, .unset]) rfl ?_
    show Steps p.tables e below (T2.setTop (mkF m 46 #[.val (.int p1), .val (.int p2), .val (.int p3), .val (.int p4), .val (.long p5), .second, .val (.long p6), .second, .val (.int nn), .val (.int ii), .val (.int jj), .val (.int kk), .val (.ref t), .unset, .unset, .unset, .unset] [])) _
    refine XS.aload X2.here hx rfl (hb hby at_46) rfl rfl ?_
    show Steps p.tables e below (T2.setTop (mkF m 48 #[.val (.int p1), .val (.int p2), .val (.int p3), .val (.int p4), .val (.long p5), .second, .val (.long p6), .second, .val (.int nn), .val (.int ii), .val (.int jj), .val (.int kk), .val (.ref t), .unset, .unset, .unset, .unset] [(.ref t)])) _
    refine XS.iload X2.here hx rfl (hb hby at_48) rfl ?_
    show Steps p.tables e below (T2.setTop (mkF m 50 #[.val (.int p1), .val (.int p2), .val (.int p3), .val (.int p4), .val (.long p5), .second, .val (.long p6), .second, .val (.int nn), .val (.int ii), .val (.int jj), .val (.int kk), .val (.ref t), .unset, .unset, .unset, .unset] [(.int jj), (.ref t)])) _
    refine XS.lload X2.here hx rfl (hb hby at_50) rfl ?_
    show Steps p.tables e below (T2.setTop (mkF m 52 #[.val (.int p1), .val (.int p2), .val (.int p3), .val (.int p4), .val (.long p5), .second, .val (.long p6), .second, .val (.int nn), .val (.int ii), .val (.int jj), .val (.int kk), .val (.ref t), .unset, .unset, .unset, .unset] [(.long p6), (.int jj), (.ref t)])) _
    refine st3.trans ?_
    show Steps p.tables e below (T3.setTop (mkF m 55 #[.val (.int p1), .val (.int p2), .val (.int p3), .val (.int p4), .val (.long p5), .second, .val (.long p6), .second, .val (.int nn), .val (.int ii), .val (.int jj), .val (.int kk), .val (.ref t), .unset, .unset, .unset, .unset] [])) _
    refine XS.aload X3.here hx rfl (hb hby at_55) rfl rfl ?_
    show Steps p.tables e below (T3.setTop (mkF m 57 #[.val (.int p1), .val (.int p2), .val (.int p3), .val (.int p4), .val (.long p5), .second, .val (.long p6), .second, .val (.int nn), .val (.int ii), .val (.int jj), .val (.int kk), .val (.ref t), .unset, .unset, .unset, .unset] [(.ref t)])) _
    refine XS.iload X3.here hx rfl (hb hby at_57) rfl ?_
    show Steps p.tables e below (T3.setTop (mkF m 59 #[.val (.int p1), .val (.int p2), .val (.int p3), .val (.int p4), .val (.long p5), .second, .val (.long p6), .second, .val (.int nn), .val (.int ii), .val (.int jj), .val (.int kk), .val (.ref t), .unset, .unset, .unset, .unset] [(.int ii), (.ref t)])) _
    refine XS.lload X3.here hx rfl (hb hby at_59) rfl ?_
    show Steps p.tables e below (T3.setTop (mkF m 61 #[.val (.int p1), .val (.int p2), .val (.int p3), .val (.int p4), .val (.long p5), .second, .val (.long p6), .second, .val (.int nn), .val (.int ii), .val (.int jj), .val (.int kk), .val (.ref t), .unset, .unset, .unset, .unset] [(.long p5), (.int ii), (.ref t)])) _
    refine st4.trans ?_
    show Steps p.tables e below (T4.setTop (mkF m 64 #[.val (.int p1), .val (.int p2), .val (.int p3), .val (.int p4), .val (.long p5), .second, .val (.long p6), .second, .val (.int nn), .val (.int ii), .val (.int jj), .val (.int kk), .val (.ref t), .unset, .unset, .unset, .unset] [])) _
    refine XS.iload X4.here hx rfl (hb hby at_64) rfl ?_
    show Steps p.tables e below (T4.setTop (mkF m 66 #[.val (.int p1), .val (.int p2), .val (.int p3), .val (.int p4), .val (.long p5), .second, .val (.long p6), .second, .val (.int nn), .val (.int ii), .val (.int jj), .val (.int kk), .val (.ref t), .unset, .unset, .unset, .unset] [(.int jj)])) _
    refine XS.iload X4.here hx rfl (hb hby at_66) rfl ?_
    show Steps p.tables e below (T4.setTop (mkF m 68 #[.val (.int p1), .val (.int p2), .val (.int p3), .val (.int p4), .val (.long p5), .second, .val (.long p6), .second, .val (.int nn), .val (.int ii), .val (.int jj), .val (.int kk), .val (.ref t), .unset, .unset, .unset, .unset] [(.int ii), (.int jj)])) _
    refine XS.icmpNo X4.here hx rfl (hb hby at_68) rfl (teq hji).2 ?_
    show Steps p.tables e below (T4.setTop (mkF m 71 #[.val (.int p1), .val (.int p2), .val (.int p3), .val (.int p4), .val (.long p5), .second, .val (.long p6), .second, .val (.int nn), .val (.int ii), .val (.int jj), .val (.int kk), .val (.ref t), .unset, .unset, .unset, .unset] [])) _
    refine XS.lload X4.here hx rfl (hb hby at_71) rfl ?_
    show Steps p.tables e below (T4.setTop (mkF m 73 #[.val (.int p1), .val (.int p2), .val (.int p3), .val (.int p4), .val (.long p5), .second, .val (.long p6), .second, .val (.int nn), .val (.int ii), .val (.int jj), .val (.int kk), .val (.ref t), .unset, .unset, .unset, .unset] [(.long p5)])) _
    refine XS.goto X4.here hx rfl (pc0 := 73) (pc' := 78) rfl (hb hby at_73) (by decide) (by decide) ?_
    show Steps p.tables e below (T4.setTop (mkF m 78 #[.val (.int p1), .val (.int p2), .val (.int p3), .val (.int p4), .val (.long p5), .second, .val (.long p6), .second, .val (.int nn), .val (.int ii), .val (.int jj), .val (.int kk), .val (.ref t), .unset, .unset, .unset, .unset] [(.long p5)])) _
    refine XS.lstore X4.here hx rfl (hb hby at_78) rfl (l' := #[.val (.int p1), .val (.int p2), .val (.int p3), .val (.int p4), .val (.long p5), .second, .val (.long p6), .second, .val (.int nn), .val (.int ii), .val (.int jj), .val (.int kk), .val (.ref t), .val (.long p5), .second, .unset, .unset]) rfl ?_
    show Steps p.tables e below (T4.setTop (mkF m 80 #[.val (.int p1), .val (.int p2), .val (.int p3), .val (.int p4), .val (.long p5), .second, .val (.long p6), .second, .val (.int nn), .val (.int ii), .val (.int jj), .val (.int kk), .val (.ref t), .val (.long p5), .second, .unset, .unset] [])) _
    refine XS.iload X4.here hx rfl (hb hby at_80) rfl ?_
    show Steps p.tables e below (T4.setTop (mkF m 82 #[.val (.int p1), .val (.int p2), .val (.int p3), .val (.int p4), .val (.long p5), .second, .val (.long p6), .second, .val (.int nn), .val (.int ii), .val (.int jj), .val (.int kk), .val (.ref t), .val (.long p5), .second, .unset, .unset] [(.int kk)])) _
    refine XS.iload X4.here hx rfl (hb hby at_82) rfl ?_
    show Steps p.tables e below (T4.setTop (mkF m 84 #[.val (.int p1), .val (.int p2), .val (.int p3), .val (.int p4), .val (.long p5), .second, .val (.long p6), .second, .val (.int nn), .val (.int ii), .val (.int jj), .val (.int kk), .val (.ref t), .val (.long p5), .second, .unset, .unset] [(.int ii), (.int kk)])) _
    refine XS.icmpNo X4.here hx rfl (hb hby at_84) rfl (teq hki).2 ?_
    show Steps p.tables e below (T4.setTop (mkF m 87 #[.val (.int p1), .val (.int p2), .val (.int p3), .val (.int p4), .val (.long p5), .second, .val (.long p6), .second, .val (.int nn), .val (.int ii), .val (.int jj), .val (.int kk), .val (.ref t), .val (.long p5), .second, .unset, .unset] [])) _
    refine XS.lload X4.here hx rfl (hb hby at_87) rfl ?_
    show Steps p.tables e below (T4.setTop (mkF m 89 #[.val (.int p1), .val (.int p2), .val (.int p3), .val (.int p4), .val (.long p5), .second, .val (.long p6), .second, .val (.int nn), .val (.int ii), .val (.int jj), .val (.int kk), .val (.ref t), .val (.long p5), .second, .unset, .unset] [(.long p5)])) _
    refine XS.lstore X4.here hx rfl (hb hby at_89) rfl (l' := #[.val (.int p1), .val (.int p2), .val (.int p3), .val (.int p4), .val (.long p5), .second, .val (.long p6), .second, .val (.int nn), .val (.int ii), .val (.int jj), .val (.int kk), .val (.ref t), .val (.long p5), .second, .val (.long p5), .second]) rfl ?_
    show Steps p.tables e below (T4.setTop (mkF m 91 #[.val (.int p1), .val (.int p2), .val (.int p3), .val (.int p4), .val (.long p5), .second, .val (.long p6), .second, .val (.int nn), .val (.int ii), .val (.int jj), .val (.int kk), .val (.ref t), .val (.long p5), .second, .val (.long p5), .second] [])) _
    refine XS.goto X4.here hx rfl (pc0 := 91) (pc' := 111) rfl (hb hby at_91) (by decide) (by decide) ?_
    show Steps p.tables e below (T4.setTop (mkF m 111 #[.val (.int p1), .val (.int p2), .val (.int p3), .val (.int p4), .val (.long p5), .second, .val (.long p6), .second, .val (.int nn), .val (.int ii), .val (.int jj), .val (.int kk), .val (.ref t), .val (.long p5), .second, .val (.long p5), .second] [])) _
    refine XS.aload X4.here hx rfl (hb hby at_111) rfl rfl ?_
    show Steps p.tables e below (T4.setTop (mkF m 113 #[.val (.int p1), .val (.int p2), .val (.int p3), .val (.int p4), .val (.long p5), .second, .val (.long p6), .second, .val (.int nn), .val (.int ii), .val (.int jj), .val (.int kk), .val (.ref t), .val (.long p5), .second, .val (.long p5), .second] [(.ref t)])) _
    refine XS.iload X4.here hx rfl (hb hby at_113) rfl ?_
    show Steps p.tables e below (T4.setTop (mkF m 115 #[.val (.int p1), .val (.int p2), .val (.int p3), .val (.int p4), .val (.long p5), .second, .val (.long p6), .second, .val (.int nn), .val (.int ii), .val (.int jj), .val (.int kk), .val (.ref t), .val (.long p5), .second, .val (.long p5), .second] [(.int ii), (.ref t)])) _
    refine st5.trans ?_
    show Steps p.tables e below (T5.setTop (mkF m 118 #[.val (.int p1), .val (.int p2), .val (.int p3), .val (.int p4), .val (.long p5), .second, .val (.long p6), .second, .val (.int nn), .val (.int ii), .val (.int jj), .val (.int kk), .val (.ref t), .val (.long p5), .second, .val (.long p5), .second] [(.long p5)])) _
    refine XS.lload X5.here hx rfl (hb hby at_118) rfl ?_
    show Steps p.tables e below (T5.setTop (mkF m 120 #[.val (.int p1), .val (.int p2), .val (.int p3), .val (.int p4), .val (.long p5), .second, .val (.long p6), .second, .val (.int nn), .val (.int ii), .val (.int jj), .val (.int kk), .val (.ref t), .val (.long p5), .second, .val (.long p5), .second] [(.long p5), (.long p5)])) _
    refine XS.lcmp X5.here hx rfl (hb hby at_120) rfl ?_
    show Steps p.tables e below (T5.setTop (mkF m 121 #[.val (.int p1), .val (.int p2), .val (.int p3), .val (.int p4), .val (.long p5), .second, .val (.long p6), .second, .val (.int nn), .val (.int ii), .val (.int jj), .val (.int kk), .val (.ref t), .val (.long p5), .second, .val (.long p5), .second] [(.int (lcmpW p5 p5))])) _
    refine XS.ifNo X5.here hx rfl (hb hby at_121) rfl ((if0 _ _).trans (teq (own_lc0 p5)).2) ?_
    show Steps p.tables e below (T5.setTop (mkF m 124 #[.val (.int p1), .val (.int p2), .val (.int p3), .val (.int p4), .val (.long p5), .second, .val (.long p6), .second, .val (.int nn), .val (.int ii), .val (.int jj), .val (.int kk), .val (.ref t), .val (.long p5), .second, .val (.long p5), .second] [])) _
    refine XS.aload X5.here hx rfl (hb hby at_124) rfl rfl ?_
    show Steps p.tables e below (T5.setTop (mkF m 126 #[.val (.int p1), .val (.int p2), .val (.int p3), .val (.int p4), .val (.long p5), .second, .val (.long p6), .second, .val (.int nn), .val (.int ii), .val (.int jj), .val (.int kk), .val (.ref t), .val (.long p5), .second, .val (.long p5), .second] [(.ref t)])) _
    refine XS.iload X5.here hx rfl (hb hby at_126) rfl ?_
    show Steps p.tables e below (T5.setTop (mkF m 128 #[.val (.int p1), .val (.int p2), .val (.int p3), .val (.int p4), .val (.long p5), .second, .val (.long p6), .second, .val (.int nn), .val (.int ii), .val (.int jj), .val (.int kk), .val (.ref t), .val (.long p5), .second, .val (.long p5), .second] [(.int jj), (.ref t)])) _
    refine st6.trans ?_
    show Steps p.tables e below (T6.setTop (mkF m 131 #[.val (.int p1), .val (.int p2), .val (.int p3), .val (.int p4), .val (.long p5), .second, .val (.long p6), .second, .val (.int nn), .val (.int ii), .val (.int jj), .val (.int kk), .val (.ref t), .val (.long p5), .second, .val (.long p5), .second] [(.long p5)])) _
    refine XS.lload X6.here hx rfl (hb hby at_131) rfl ?_
    show Steps p.tables e below (T6.setTop (mkF m 133 #[.val (.int p1), .val (.int p2), .val (.int p3), .val (.int p4), .val (.long p5), .second, .val (.long p6), .second, .val (.int nn), .val (.int ii), .val (.int jj), .val (.int kk), .val (.ref t), .val (.long p5), .second, .val (.long p5), .second] [(.long p5), (.long p5)])) _
    refine XS.lcmp X6.here hx rfl (hb hby at_133) rfl ?_
    show Steps p.tables e below (T6.setTop (mkF m 134 #[.val (.int p1), .val (.int p2), .val (.int p3), .val (.int p4), .val (.long p5), .second, .val (.long p6), .second, .val (.int nn), .val (.int ii), .val (.int jj), .val (.int kk), .val (.ref t), .val (.long p5), .second, .val (.long p5), .second] [(.int (lcmpW p5 p5))])) _
    refine XS.ifNo X6.here hx rfl (hb hby at_134) rfl ((if0 _ _).trans (teq (own_lc0 p5)).2) ?_
    show Steps p.tables e below (T6.setTop (mkF m 137 #[.val (.int p1), .val (.int p2), .val (.int p3), .val (.int p4), .val (.long p5), .second, .val (.long p6), .second, .val (.int nn), .val (.int ii), .val (.int jj), .val (.int kk), .val (.ref t), .val (.long p5), .second, .val (.long p5), .second] [])) _
    refine XS.aload X6.here hx rfl (hb hby at_137) rfl rfl ?_
    show Steps p.tables e below (T6.setTop (mkF m 139 #[.val (.int p1), .val (.int p2), .val (.int p3), .val (.int p4), .val (.long p5), .second, .val (.long p6), .second, .val (.int nn), .val (.int ii), .val (.int jj), .val (.int kk), .val (.ref t), .val (.long p5), .second, .val (.long p5), .second] [(.ref t)])) _
    refine XS.iload X6.here hx rfl (hb hby at_139) rfl ?_
    show Steps p.tables e below (T6.setTop (mkF m 141 #[.val (.int p1), .val (.int p2), .val (.int p3), .val (.int p4), .val (.long p5), .second, .val (.long p6), .second, .val (.int nn), .val (.int ii), .val (.int jj), .val (.int kk), .val (.ref t), .val (.long p5), .second, .val (.long p5), .second] [(.int kk), (.ref t)])) _
    refine st7.trans ?_
    show Steps p.tables e below (T7.setTop (mkF m 144 #[.val (.int p1), .val (.int p2), .val (.int p3), .val (.int p4), .val (.long p5), .second, .val (.long p6), .second, .val (.int nn), .val (.int ii), .val (.int jj), .val (.int kk), .val (.ref t), .val (.long p5), .second, .val (.long p5), .second] [(.long p5)])) _
    refine XS.lload X7.here hx rfl (hb hby at_144) rfl ?_
    show Steps p.tables e below (T7.setTop (mkF m 146 #[.val (.int p1), .val (.int p2), .val (.int p3), .val (.int p4), .val (.long p5), .second, .val (.long p6), .second, .val (.int nn), .val (.int ii), .val (.int jj), .val (.int kk), .val (.ref t), .val (.long p5), .second, .val (.long p5), .second] [(.long p5), (.long p5)])) _
    refine XS.lcmp X7.here hx rfl (hb hby at_146) rfl ?_
    show Steps p.tables e below (T7.setTop (mkF m 147 #[.val (.int p1), .val (.int p2), .val (.int p3), .val (.int p4), .val (.long p5), .second, .val (.long p6), .second, .val (.int nn), .val (.int ii), .val (.int jj), .val (.int kk), .val (.ref t), .val (.long p5), .second, .val (.long p5), .second] [(.int (lcmpW p5 p5))])) _
    refine XS.ifNo X7.here hx rfl (hb hby at_147) rfl ((if0 _ _).trans (teq (own_lc0 p5)).2) ?_
    show Steps p.tables e below (T7.setTop (mkF m 150 #[.val (.int p1), .val (.int p2), .val (.int p3), .val (.int p4), .val (.long p5), .second, .val (.long p6), .second, .val (.int nn), .val (.int ii), .val (.int jj), .val (.int kk), .val (.ref t), .val (.long p5), .second, .val (.long p5), .second] [])) _
    refine XS.aload X7.here hx rfl (hb hby at_150) rfl rfl ?_
    show Steps p.tables e below (T7.setTop (mkF m 152 #[.val (.int p1), .val (.int p2), .val (.int p3), .val (.int p4), .val (.long p5), .second, .val (.long p6), .second, .val (.int nn), .val (.int ii), .val (.int jj), .val (.int kk), .val (.ref t), .val (.long p5), .second, .val (.long p5), .second] [(.ref t)])) _
    refine st8.trans ?_
    show Steps p.tables e below (T8.setTop (mkF m 155 #[.val (.int p1), .val (.int p2), .val (.int p3), .val (.int p4), .val (.long p5), .second, .val (.long p6), .second, .val (.int nn), .val (.int ii), .val (.int jj), .val (.int kk), .val (.ref t), .val (.long p5), .second, .val (.long p5), .second] [(.int nn)])) _
    refine XS.iload X8.here hx rfl (hb hby at_155) rfl ?_
    show Steps p.tables e below (T8.setTop (mkF m 157 #[.val (.int p1), .val (.int p2), .val (.int p3), .val (.int p4), .val (.long p5), .second, .val (.long p6), .second, .val (.int nn), .val (.int ii), .val (.int jj), .val (.int kk), .val (.ref t), .val (.long p5), .second, .val (.long p5), .second] [(.int nn), (.int nn)])) _
    refine XS.icmpNo X8.here hx rfl (hb hby at_157) rfl (teq (rfl : nn = nn)).2 ?_
    show Steps p.tables e below (T8.setTop (mkF m 160 #[.val (.int p1), .val (.int p2), .val (.int p3), .val (.int p4), .val (.long p5), .second, .val (.long p6), .second, .val (.int nn), .val (.int ii), .val (.int jj), .val (.int kk), .val (.ref t), .val (.long p5), .second, .val (.long p5), .second] [])) _
    refine XS.iconst X8.here hx rfl (hb hby at_160) ?_
    show Steps p.tables e below (T8.setTop (mkF m 161 #[.val (.int p1), .val (.int p2), .val (.int p3), .val (.int p4), .val (.long p5), .second, .val (.long p6), .second, .val (.int nn), .val (.int ii), .val (.int jj), .val (.int kk), .val (.ref t), .val (.long p5), .second, .val (.long p5), .second] [(.int (1 : Int32))])) _
    refine XS.goto X8.here hx rfl (pc0 := 161) (pc' := 165) rfl (hb hby at_161) (by decide) (by decide) ?_
    show Steps p.tables e below (T8.setTop (mkF m 165 #[.val (.int p1), .val (.int p2), .val (.int p3), .val (.int p4), .val (.long p5), .second, .val (.long p6), .second, .val (.int nn), .val (.int ii), .val (.int jj), .val (.int kk), .val (.ref t), .val (.long p5), .second, .val (.long p5), .second] [(.int (1 : Int32))])) _
    exact retN X8 hx (t := .boolean) Bd.returns (by simp) (hb hby at_165) hr
  · exact ⟨rfl, N8⟩
set_option maxRecDepth 65536 in
set_option maxHeartbeats 40000000 in
theorem rmLaw1 (l : Launch) (Z : State) (a0 : Array Value) (hw : ∀ d ∈ tables_1, d.before a0 Z = true) (ws : List Jvm.Cond) (p1 : Int32) (p2 : Int32) (p3 : Int32) (p4 : Int32) (p5 : Int64) (p6 : Int64) (nn : Int32) (ii : Int32) (jj : Int32) (kk : Int32) (h0 : Heap) (n0 : Nat) (Z0 : n0 ≤ h0.size) (hS : WdL Z h0 p1 p2 p3 p4 p5 p6 nn ii jj kk) (hnn : ((1 : Int32) + (p1 &&& (131071 : Int32))) = nn) (hii : ((p2 &&& (2147483647 : Int32)) % nn) = ii) (hjj : ((p3 &&& (2147483647 : Int32)) % nn) = jj) (hkk : ((p4 &&& (2147483647 : Int32)) % nn) = kk) (hn1 : 1 ≤ nn.toInt) (hn2 : nn.toInt ≤ 131072) (hii0 : 0 ≤ ii.toInt) (hiin : ii.toInt < nn.toInt) (hjj0 : 0 ≤ jj.toInt) (hjjn : jj.toInt < nn.toInt) (hkk0 : 0 ≤ kk.toInt) (hkkn : kk.toInt < nn.toInt) (hji : jj = ii) (hki : ¬ (kk = ii)) (hkj : ¬ (kk = jj)) :
    MetFree l x (head1 (Jvm.Cond.code x code maxLocals ret :: ws) room_1) (fun a U => a = #[(.int p1), (.int p2), (.int p3), (.int p4), (.long p5), (.long p6)] ∧ Z.Warmed39 U.vm ∧ U.heap = h0) (fun _ _ _ _ _ => True) (fun _ U o U' => ∃ v L, o = .returned v ∧ Q0 n0 v L ∧ FrameEnd U o U' L room_1.cells room_1.slots) := by
  refine MetFree.of_bodySF (plainFor_of_name pn_com_example_reachmark_reachmark_label_IntervalsSetPinLaw) hisR ?_
  intro p e s m args below meth c s₁ Bd hml0 hP hK
  obtain ⟨rfl, hZ, hh⟩ := hP
  have hx := Bd.exec
  have hby := Bd.bytes
  have hml : c.maxLocals = 17 := hml0
  have hown : s.vm.findClass "com/example/reachmark/reachmark/label/IntervalsSetPinLaw" = some m.cls := findClass_of_methodNamed Bd.named
  have X0 : Stand p l e room_1 s m #[(.int p1), (.int p2), (.int p3), (.int p4), (.long p5), (.long p6)] below meth c s₁ [] 0 0 := Stand.of_body Bd
  have e0 : s₁.heap = h0 := by rw [← hh, Bd.state]; rfl
  have N0 := Fr.nil n0
  have pre0 : ∀ t, Steps p.tables e below (s₁.setTop (mkF m 0 #[.val (.int p1), .val (.int p2), .val (.int p3), .val (.int p4), .val (.long p5), .second, .val (.long p6), .second, .unset, .unset, .unset, .unset, .unset, .unset, .unset, .unset, .unset] [])) t → Steps p.tables e below (s₁.setTop (entryFrame m #[(.int p1), (.int p2), (.int p3), (.int p4), (.long p5), (.long p6)] maxLocals)) t := fun t k => castTop (by first | (simp [entryFrame, mkF, argsToLocals, Value.category, maxLocals]; done) | rfl) k
  obtain ⟨T1, h1, X1, e1, E1, A1, D1, -, st1⟩ := newO X0 hx hZ hown (hw _ (List.mem_of_getElem? (i := 2) rfl)) (hw _ (List.mem_of_getElem? (i := 3) rfl)) (hw _ (List.mem_of_getElem? (i := 4) rfl)) e0 (g := (mkF m 35 #[.val (.int p1), .val (.int p2), .val (.int p3), .val (.int p4), .val (.long p5), .second, .val (.long p6), .second, .val (.int nn), .val (.int ii), .val (.int jj), .val (.int kk), .unset, .unset, .unset, .unset, .unset] [])) rfl (hb hby at_35) (by decide) (by decide)
  obtain ⟨t, gt⟩ : ∃ z, z = h0.size := ⟨_, rfl⟩
  rw [← gt] at A1 D1 st1
  have F_ch : Fld Z h1 t "com/example/reachmark/reachmark/label/Intervals" "chunks" "[[J" .null := D1 (Or.inl (hw _ (List.mem_of_getElem? (i := 19) rfl))) (ty := (.array (.array .long))) (by decide)
  have F_sz : Fld Z h1 t "com/example/reachmark/reachmark/label/Intervals" "size" "I" (.int (0 : Int32)) := D1 (Or.inl (hw _ (List.mem_of_getElem? (i := 27) rfl))) (ty := .int) (by decide)
  have Z1 : n0 ≤ h1.size := Nat.le_trans Z0 E1.1
  have g_t : n0 ≤ t := Nat.le_trans Z0 (Nat.le_of_eq gt.symm)
  obtain ⟨_, _, ⟨T2, L2, k2, n2⟩, -, X2, ⟨Lc2, hQ2, l2, y2, z2⟩, st2⟩ := X1.specialBack hx (y := (⟨"com/example/reachmark/reachmark/label/Intervals", "<init>", "(I)V"⟩ : MethodName)) rfl hown (mvT hZ (hw _ (List.mem_of_getElem? (i := 5) rfl))) (mvT hZ (hw _ (List.mem_of_getElem? (i := 6) rfl))) (mvT hZ (hw _ (List.mem_of_getElem? (i := 7) rfl))) (by decide) (backOf (W := 1) (rmInit l Z a0 hw [] t nn h1 n0 Z1 A1 F_ch F_sz g_t hn1 hn2) hZ (hw _ (List.mem_of_getElem? (i := 7) rfl)) (hw _ (List.mem_of_getElem? (i := 4) rfl)) (by decide) (by decide)) (g := (mkF m 41 #[.val (.int p1), .val (.int p2), .val (.int p3), .val (.int p4), .val (.long p5), .second, .val (.long p6), .second, .val (.int nn), .val (.int ii), .val (.int jj), .val (.int kk), .unset, .unset, .unset, .unset, .unset] [(.int nn), (.ref t), (.ref t)])) rfl (by rw [hml]; rfl) (Steps.refl _) (a := t) (argsL := [(.int nn)]) (rest := [(.ref t)]) (lenOf pd_1 rfl) rfl (by show 2 * 0 + _ ≤ _; exact Nat.le_of_eq rfl) (hb hby at_41) (fun _ _ => ⟨rfl, e1, (by decide : 1 + 5 ≤ _), (by decide : 2 + 131076 ≤ _)⟩)
  dsimp only [Pt.U, Pt.locs, Pt.cells, Pt.slots] at X2 l2 y2 z2 st2 hQ2
  subst l2 y2 z2
  obtain ⟨rfl, N2q, -, ch, cs, I2⟩ := hQ2
  have N2 := Fr.app N0 N2q
  obtain ⟨cq3, kq3, q3a, q3b, q3c⟩ := isOf hZ rfl I2.1
  obtain ⟨_, _, ⟨T3, L3, k3, n3⟩, -, X3, ⟨Lc3, hQ3, l3, y3, z3⟩, st3⟩ := X2.virtualBack hx (y := (⟨"com/example/reachmark/reachmark/label/Intervals", "set", "(IJ)V"⟩ : MethodName)) (z := (⟨"com/example/reachmark/reachmark/label/Intervals", "set", "(IJ)V"⟩ : MethodName)) hown (mvT hZ (hw _ (List.mem_of_getElem? (i := 28) rfl))) (mvT hZ (hw _ (List.mem_of_getElem? (i := 29) rfl))) (notFace_of_selects (args := #[]) (mvT hZ (hw _ (List.mem_of_getElem? (i := 31) rfl)))) (mvT hZ (hw _ (List.mem_of_getElem? (i := 31) rfl))) (mvT hZ (hw _ (List.mem_of_getElem? (i := 30) rfl))) (by decide) (backOf (W := 0) (rm_set l Z a0 hw [] t ch nn cs (fun _ => 0) jj p6 T2.heap n0 I2 hjj0 hjjn) hZ (hw _ (List.mem_of_getElem? (i := 32) rfl)) (hw _ (List.mem_of_getElem? (i := 4) rfl)) (by decide) (by decide)) q3a q3c (g := (mkF m 52 #[.val (.int p1), .val (.int p2), .val (.int p3), .val (.int p4), .val (.long p5), .second, .val (.long p6), .second, .val (.int nn), .val (.int ii), .val (.int jj), .val (.int kk), .val (.ref t), .unset, .unset, .unset, .unset] [(.long p6), (.int jj), (.ref t)])) rfl (by rw [hml]; rfl) (Steps.refl _) (argsL := [(.int jj), (.long p6)]) (rest := []) (lenOf pd_2 rfl) rfl (by show 2 * 0 + _ ≤ _; exact Nat.le_of_eq rfl) (hb hby at_52) (fun _ _ => ⟨rfl, rfl, (by decide : 6 + 0 ≤ _), (by decide : 131078 + 0 ≤ _)⟩)
  dsimp only [Pt.U, Pt.locs, Pt.cells, Pt.slots] at X3 l3 y3 z3 st3 hQ3
  subst l3 y3 z3
  obtain ⟨rfl, N3q, I3⟩ := hQ3
  have N3 := Fr.app N2 N3q
  obtain ⟨cq4, kq4, q4a, q4b, q4c⟩ := isOf hZ rfl I3.1
  obtain ⟨_, _, ⟨T4, L4, k4, n4⟩, -, X4, ⟨Lc4, hQ4, l4, y4, z4⟩, st4⟩ := X3.virtualBack hx (y := (⟨"com/example/reachmark/reachmark/label/Intervals", "set", "(IJ)V"⟩ : MethodName)) (z := (⟨"com/example/reachmark/reachmark/label/Intervals", "set", "(IJ)V"⟩ : MethodName)) hown (mvT hZ (hw _ (List.mem_of_getElem? (i := 28) rfl))) (mvT hZ (hw _ (List.mem_of_getElem? (i := 29) rfl))) (notFace_of_selects (args := #[]) (mvT hZ (hw _ (List.mem_of_getElem? (i := 31) rfl)))) (mvT hZ (hw _ (List.mem_of_getElem? (i := 31) rfl))) (mvT hZ (hw _ (List.mem_of_getElem? (i := 30) rfl))) (by decide) (backOf (W := 0) (rm_set l Z a0 hw [] t ch nn cs (own_upd (fun _ => 0) jj p6) ii p5 T3.heap n0 I3 hii0 hiin) hZ (hw _ (List.mem_of_getElem? (i := 32) rfl)) (hw _ (List.mem_of_getElem? (i := 4) rfl)) (by decide) (by decide)) q4a q4c (g := (mkF m 61 #[.val (.int p1), .val (.int p2), .val (.int p3), .val (.int p4), .val (.long p5), .second, .val (.long p6), .second, .val (.int nn), .val (.int ii), .val (.int jj), .val (.int kk), .val (.ref t), .unset, .unset, .unset, .unset] [(.long p5), (.int ii), (.ref t)])) rfl (by rw [hml]; rfl) (Steps.refl _) (argsL := [(.int ii), (.long p5)]) (rest := []) (lenOf pd_2 rfl) rfl (by show 2 * 0 + _ ≤ _; exact Nat.le_of_eq rfl) (hb hby at_61) (fun _ _ => ⟨rfl, rfl, (by decide : 6 + 0 ≤ _), (by decide : 131078 + 0 ≤ _)⟩)
  dsimp only [Pt.U, Pt.locs, Pt.cells, Pt.slots] at X4 l4 y4 z4 st4 hQ4
  subst l4 y4 z4
  obtain ⟨rfl, N4q, I4⟩ := hQ4
  have N4 := Fr.app N3 N4q
  obtain ⟨cq5, kq5, q5a, q5b, q5c⟩ := isOf hZ rfl I4.1
  obtain ⟨_, _, ⟨T5, L5, k5, n5⟩, -, X5, ⟨Lc5, hQ5, l5, y5, z5⟩, st5⟩ := X4.virtualBack hx (y := (⟨"com/example/reachmark/reachmark/label/Intervals", "get", "(I)J"⟩ : MethodName)) (z := (⟨"com/example/reachmark/reachmark/label/Intervals", "get", "(I)J"⟩ : MethodName)) hown (mvT hZ (hw _ (List.mem_of_getElem? (i := 33) rfl))) (mvT hZ (hw _ (List.mem_of_getElem? (i := 34) rfl))) (notFace_of_selects (args := #[]) (mvT hZ (hw _ (List.mem_of_getElem? (i := 36) rfl)))) (mvT hZ (hw _ (List.mem_of_getElem? (i := 36) rfl))) (mvT hZ (hw _ (List.mem_of_getElem? (i := 35) rfl))) (by decide) (backOf (W := 0) (rm_get l Z a0 hw [] t ch nn cs (own_upd (own_upd (fun _ => 0) jj p6) ii p5) ii p5 T4.heap n0 I4 hii0 hiin (by rw [own_upd_at _ _ _ _ hii0 hii0, own_upd_at _ _ _ _ hjj0 hii0]; simp [])) hZ (hw _ (List.mem_of_getElem? (i := 37) rfl)) (hw _ (List.mem_of_getElem? (i := 4) rfl)) (by decide) (by decide)) q5a q5c (g := (mkF m 115 #[.val (.int p1), .val (.int p2), .val (.int p3), .val (.int p4), .val (.long p5), .second, .val (.long p6), .second, .val (.int nn), .val (.int ii), .val (.int jj), .val (.int kk), .val (.ref t), .val (.long p5), .second, .val (.long (0 : Int64)), .second] [(.int ii), (.ref t)])) rfl (by rw [hml]; rfl) (Steps.refl _) (argsL := [(.int ii)]) (rest := []) (lenOf pd_3 rfl) rfl (by show 2 * 0 + _ ≤ _; exact Nat.le_of_eq rfl) (hb hby at_115) (fun _ _ => ⟨rfl, rfl, (by decide : 6 + 0 ≤ _), (by decide : 131078 + 0 ≤ _)⟩)
  dsimp only [Pt.U, Pt.locs, Pt.cells, Pt.slots] at X5 l5 y5 z5 st5 hQ5
  subst l5 y5 z5
  obtain ⟨rfl, N5q, e5⟩ := hQ5
  have N5 := Fr.app N4 N5q
  obtain ⟨cq6, kq6, q6a, q6b, q6c⟩ := isOf hZ e5 I4.1
  obtain ⟨_, _, ⟨T6, L6, k6, n6⟩, -, X6, ⟨Lc6, hQ6, l6, y6, z6⟩, st6⟩ := X5.virtualBack hx (y := (⟨"com/example/reachmark/reachmark/label/Intervals", "get", "(I)J"⟩ : MethodName)) (z := (⟨"com/example/reachmark/reachmark/label/Intervals", "get", "(I)J"⟩ : MethodName)) hown (mvT hZ (hw _ (List.mem_of_getElem? (i := 33) rfl))) (mvT hZ (hw _ (List.mem_of_getElem? (i := 34) rfl))) (notFace_of_selects (args := #[]) (mvT hZ (hw _ (List.mem_of_getElem? (i := 36) rfl)))) (mvT hZ (hw _ (List.mem_of_getElem? (i := 36) rfl))) (mvT hZ (hw _ (List.mem_of_getElem? (i := 35) rfl))) (by decide) (backOf (W := 0) (rm_get l Z a0 hw [] t ch nn cs (own_upd (own_upd (fun _ => 0) jj p6) ii p5) jj p5 T4.heap n0 I4 hjj0 hjjn (by rw [own_upd_at _ _ _ _ hii0 hjj0, own_upd_at _ _ _ _ hjj0 hjj0]; simp [hji])) hZ (hw _ (List.mem_of_getElem? (i := 37) rfl)) (hw _ (List.mem_of_getElem? (i := 4) rfl)) (by decide) (by decide)) q6a q6c (g := (mkF m 128 #[.val (.int p1), .val (.int p2), .val (.int p3), .val (.int p4), .val (.long p5), .second, .val (.long p6), .second, .val (.int nn), .val (.int ii), .val (.int jj), .val (.int kk), .val (.ref t), .val (.long p5), .second, .val (.long (0 : Int64)), .second] [(.int jj), (.ref t)])) rfl (by rw [hml]; rfl) (Steps.refl _) (argsL := [(.int jj)]) (rest := []) (lenOf pd_3 rfl) rfl (by show 2 * 0 + _ ≤ _; exact Nat.le_of_eq rfl) (hb hby at_128) (fun _ _ => ⟨rfl, e5, (by decide : 6 + 0 ≤ _), (by decide : 131078 + 0 ≤ _)⟩)
  dsimp only [Pt.U, Pt.locs, Pt.cells, Pt.slots] at X6 l6 y6 z6 st6 hQ6
  subst l6 y6 z6
  obtain ⟨rfl, N6q, e6⟩ := hQ6
  have N6 := Fr.app N5 N6q
  obtain ⟨cq7, kq7, q7a, q7b, q7c⟩ := isOf hZ e6 I4.1
  obtain ⟨_, _, ⟨T7, L7, k7, n7⟩, -, X7, ⟨Lc7, hQ7, l7, y7, z7⟩, st7⟩ := X6.virtualBack hx (y := (⟨"com/example/reachmark/reachmark/label/Intervals", "get", "(I)J"⟩ : MethodName)) (z := (⟨"com/example/reachmark/reachmark/label/Intervals", "get", "(I)J"⟩ : MethodName)) hown (mvT hZ (hw _ (List.mem_of_getElem? (i := 33) rfl))) (mvT hZ (hw _ (List.mem_of_getElem? (i := 34) rfl))) (notFace_of_selects (args := #[]) (mvT hZ (hw _ (List.mem_of_getElem? (i := 36) rfl)))) (mvT hZ (hw _ (List.mem_of_getElem? (i := 36) rfl))) (mvT hZ (hw _ (List.mem_of_getElem? (i := 35) rfl))) (by decide) (backOf (W := 0) (rm_get l Z a0 hw [] t ch nn cs (own_upd (own_upd (fun _ => 0) jj p6) ii p5) kk (0 : Int64) T4.heap n0 I4 hkk0 hkkn (by rw [own_upd_at _ _ _ _ hii0 hkk0, own_upd_at _ _ _ _ hjj0 hkk0]; simp [hji, hki, hkj])) hZ (hw _ (List.mem_of_getElem? (i := 37) rfl)) (hw _ (List.mem_of_getElem? (i := 4) rfl)) (by decide) (by decide)) q7a q7c (g := (mkF m 141 #[.val (.int p1), .val (.int p2), .val (.int p3), .val (.int p4), .val (.long p5), .second, .val (.long p6), .second, .val (.int nn), .val (.int ii), .val (.int jj), .val (.int kk), .val (.ref t), .val (.long p5), .second, .val (.long (0 : Int64)), .second] [(.int kk), (.ref t)])) rfl (by rw [hml]; rfl) (Steps.refl _) (argsL := [(.int kk)]) (rest := []) (lenOf pd_3 rfl) rfl (by show 2 * 0 + _ ≤ _; exact Nat.le_of_eq rfl) (hb hby at_141) (fun _ _ => ⟨rfl, e6, (by decide : 6 + 0 ≤ _), (by decide : 131078 + 0 ≤ _)⟩)
  dsimp only [Pt.U, Pt.locs, Pt.cells, Pt.slots] at X7 l7 y7 z7 st7 hQ7
  subst l7 y7 z7
  obtain ⟨rfl, N7q, e7⟩ := hQ7
  have N7 := Fr.app N6 N7q
  obtain ⟨cq8, kq8, q8a, q8b, q8c⟩ := isOf hZ e7 I4.1
  obtain ⟨_, _, ⟨T8, L8, k8, n8⟩, -, X8, ⟨Lc8, hQ8, l8, y8, z8⟩, st8⟩ := X7.virtualBack hx (y := (⟨"com/example/reachmark/reachmark/label/Intervals", "size", "()I"⟩ : MethodName)) (z := (⟨"com/example/reachmark/reachmark/label/Intervals", "size", "()I"⟩ : MethodName)) hown (mvT hZ (hw _ (List.mem_of_getElem? (i := 38) rfl))) (mvT hZ (hw _ (List.mem_of_getElem? (i := 39) rfl))) (notFace_of_selects (args := #[]) (mvT hZ (hw _ (List.mem_of_getElem? (i := 41) rfl)))) (mvT hZ (hw _ (List.mem_of_getElem? (i := 41) rfl))) (mvT hZ (hw _ (List.mem_of_getElem? (i := 40) rfl))) (by decide) (backOf (W := 0) (rm_size l Z a0 hw [] t ch nn cs (own_upd (own_upd (fun _ => 0) jj p6) ii p5) T4.heap n0 I4) hZ (hw _ (List.mem_of_getElem? (i := 42) rfl)) (hw _ (List.mem_of_getElem? (i := 4) rfl)) (by decide) (by decide)) q8a q8c (g := (mkF m 152 #[.val (.int p1), .val (.int p2), .val (.int p3), .val (.int p4), .val (.long p5), .second, .val (.long p6), .second, .val (.int nn), .val (.int ii), .val (.int jj), .val (.int kk), .val (.ref t), .val (.long p5), .second, .val (.long (0 : Int64)), .second] [(.ref t)])) rfl (by rw [hml]; rfl) (Steps.refl _) (argsL := []) (rest := []) (lenOf pd_4 rfl) rfl (by show 2 * 0 + _ ≤ _; exact Nat.le_of_eq rfl) (hb hby at_152) (fun _ _ => ⟨rfl, e7, (by decide : 6 + 0 ≤ _), (by decide : 131078 + 0 ≤ _)⟩)
  dsimp only [Pt.U, Pt.locs, Pt.cells, Pt.slots] at X8 l8 y8 z8 st8 hQ8
  subst l8 y8 z8
  obtain ⟨rfl, N8q, e8⟩ := hQ8
  have N8 := Fr.app N7 N8q
  obtain ⟨fs, hr, hrun, hended, hW, hsame⟩ := X8.leave (v := some (.int (1 : Int32))) (fun h => by rw [Bd.returns] at h; cases h)
  refine ⟨_, _, pre0 _ ?_, hrun, hended, _, _, rfl, ?_, ⟨_, rfl⟩, hW, hsame.mono (by decide) (by decide)⟩
  · show Steps p.tables e below (s₁.setTop (mkF m 0 #[.val (.int p1), .val (.int p2), .val (.int p3), .val (.int p4), .val (.long p5), .second, .val (.long p6), .second, .unset, .unset, .unset, .unset, .unset, .unset, .unset, .unset, .unset] [])) _
    refine XS.iconst X0.here hx rfl (hb hby at_0) ?_
    show Steps p.tables e below (s₁.setTop (mkF m 1 #[.val (.int p1), .val (.int p2), .val (.int p3), .val (.int p4), .val (.long p5), .second, .val (.long p6), .second, .unset, .unset, .unset, .unset, .unset, .unset, .unset, .unset, .unset] [(.int (1 : Int32))])) _
    refine XS.iloadN X0.here hx rfl (hb hby at_1) rfl ?_
    show Steps p.tables e below (s₁.setTop (mkF m 2 #[.val (.int p1), .val (.int p2), .val (.int p3), .val (.int p4), .val (.long p5), .second, .val (.long p6), .second, .unset, .unset, .unset, .unset, .unset, .unset, .unset, .unset, .unset] [(.int p1), (.int (1 : Int32))])) _
    refine X0.ldcInt hx hown (mvT hZ (hw _ (List.mem_of_getElem? (i := 0) rfl))) (g := (mkF m 2 #[.val (.int p1), .val (.int p2), .val (.int p3), .val (.int p4), .val (.long p5), .second, .val (.long p6), .second, .unset, .unset, .unset, .unset, .unset, .unset, .unset, .unset, .unset] [(.int p1), (.int (1 : Int32))])) rfl (hb hby at_2) _ ?_
    show Steps p.tables e below (s₁.setTop (mkF m 4 #[.val (.int p1), .val (.int p2), .val (.int p3), .val (.int p4), .val (.long p5), .second, .val (.long p6), .second, .unset, .unset, .unset, .unset, .unset, .unset, .unset, .unset, .unset] [(.int (131071 : Int32)), (.int p1), (.int (1 : Int32))])) _
    refine XS.iand X0.here hx rfl (hb hby at_4) rfl ?_
    show Steps p.tables e below (s₁.setTop (mkF m 5 #[.val (.int p1), .val (.int p2), .val (.int p3), .val (.int p4), .val (.long p5), .second, .val (.long p6), .second, .unset, .unset, .unset, .unset, .unset, .unset, .unset, .unset, .unset] [(.int (p1 &&& (131071 : Int32))), (.int (1 : Int32))])) _
    refine XS.iadd X0.here hx rfl (hb hby at_5) rfl ?_
    rw [hnn]
    show Steps p.tables e below (s₁.setTop (mkF m 6 #[.val (.int p1), .val (.int p2), .val (.int p3), .val (.int p4), .val (.long p5), .second, .val (.long p6), .second, .unset, .unset, .unset, .unset, .unset, .unset, .unset, .unset, .unset] [(.int nn)])) _
    refine XS.istore X0.here hx rfl (hb hby at_6) rfl (l' := #[.val (.int p1), .val (.int p2), .val (.int p3), .val (.int p4), .val (.long p5), .second, .val (.long p6), .second, .val (.int nn), .unset, .unset, .unset, .unset, .unset, .unset, .unset, .unset]) rfl ?_
    show Steps p.tables e below (s₁.setTop (mkF m 8 #[.val (.int p1), .val (.int p2), .val (.int p3), .val (.int p4), .val (.long p5), .second, .val (.long p6), .second, .val (.int nn), .unset, .unset, .unset, .unset, .unset, .unset, .unset, .unset] [])) _
    refine XS.iloadN X0.here hx rfl (hb hby at_8) rfl ?_
    show Steps p.tables e below (s₁.setTop (mkF m 9 #[.val (.int p1), .val (.int p2), .val (.int p3), .val (.int p4), .val (.long p5), .second, .val (.long p6), .second, .val (.int nn), .unset, .unset, .unset, .unset, .unset, .unset, .unset, .unset] [(.int p2)])) _
    refine X0.ldcInt hx hown (mvT hZ (hw _ (List.mem_of_getElem? (i := 1) rfl))) (g := (mkF m 9 #[.val (.int p1), .val (.int p2), .val (.int p3), .val (.int p4), .val (.long p5), .second, .val (.long p6), .second, .val (.int nn), .unset, .unset, .unset, .unset, .unset, .unset, .unset, .unset] [(.int p2)])) rfl (hb hby at_9) _ ?_
    show Steps p.tables e below (s₁.setTop (mkF m 11 #[.val (.int p1), .val (.int p2), .val (.int p3), .val (.int p4), .val (.long p5), .second, .val (.long p6), .second, .val (.int nn), .unset, .unset, .unset, .unset, .unset, .unset, .unset, .unset] [(.int (2147483647 : Int32)), (.int p2)])) _
    refine XS.iand X0.here hx rfl (hb hby at_11) rfl ?_
    show Steps p.tables e below (s₁.setTop (mkF m 12 #[.val (.int p1), .val (.int p2), .val (.int p3), .val (.int p4), .val (.long p5), .second, .val (.long p6), .second, .val (.int nn), .unset, .unset, .unset, .unset, .unset, .unset, .unset, .unset] [(.int (p2 &&& (2147483647 : Int32)))])) _
    refine XS.iload X0.here hx rfl (hb hby at_12) rfl ?_
    show Steps p.tables e below (s₁.setTop (mkF m 14 #[.val (.int p1), .val (.int p2), .val (.int p3), .val (.int p4), .val (.long p5), .second, .val (.long p6), .second, .val (.int nn), .unset, .unset, .unset, .unset, .unset, .unset, .unset, .unset] [(.int nn), (.int (p2 &&& (2147483647 : Int32)))])) _
    refine Jvm.RoadKit.iremM (g := (mkF m 14 #[.val (.int p1), .val (.int p2), .val (.int p3), .val (.int p4), .val (.long p5), .second, .val (.long p6), .second, .val (.int nn), .unset, .unset, .unset, .unset, .unset, .unset, .unset, .unset] [(.int nn), (.int (p2 &&& (2147483647 : Int32)))])) X0 hx rfl (hb hby at_14) rfl (own_ne0 nn hn1) ?_
    rw [hii]
    show Steps p.tables e below (s₁.setTop (mkF m 15 #[.val (.int p1), .val (.int p2), .val (.int p3), .val (.int p4), .val (.long p5), .second, .val (.long p6), .second, .val (.int nn), .unset, .unset, .unset, .unset, .unset, .unset, .unset, .unset] [(.int ii)])) _
    refine XS.istore X0.here hx rfl (hb hby at_15) rfl (l' := #[.val (.int p1), .val (.int p2), .val (.int p3), .val (.int p4), .val (.long p5), .second, .val (.long p6), .second, .val (.int nn), .val (.int ii), .unset, .unset, .unset, .unset, .unset, .unset, .unset]) rfl ?_
    show Steps p.tables e below (s₁.setTop (mkF m 17 #[.val (.int p1), .val (.int p2), .val (.int p3), .val (.int p4), .val (.long p5), .second, .val (.long p6), .second, .val (.int nn), .val (.int ii), .unset, .unset, .unset, .unset, .unset, .unset, .unset] [])) _
    refine XS.iloadN X0.here hx rfl (hb hby at_17) rfl ?_
    show Steps p.tables e below (s₁.setTop (mkF m 18 #[.val (.int p1), .val (.int p2), .val (.int p3), .val (.int p4), .val (.long p5), .second, .val (.long p6), .second, .val (.int nn), .val (.int ii), .unset, .unset, .unset, .unset, .unset, .unset, .unset] [(.int p3)])) _
    refine X0.ldcInt hx hown (mvT hZ (hw _ (List.mem_of_getElem? (i := 1) rfl))) (g := (mkF m 18 #[.val (.int p1), .val (.int p2), .val (.int p3), .val (.int p4), .val (.long p5), .second, .val (.long p6), .second, .val (.int nn), .val (.int ii), .unset, .unset, .unset, .unset, .unset, .unset, .unset] [(.int p3)])) rfl (hb hby at_18) _ ?_
    show Steps p.tables e below (s₁.setTop (mkF m 20 #[.val (.int p1), .val (.int p2), .val (.int p3), .val (.int p4), .val (.long p5), .second, .val (.long p6), .second, .val (.int nn), .val (.int ii), .unset, .unset, .unset, .unset, .unset, .unset, .unset] [(.int (2147483647 : Int32)), (.int p3)])) _
    refine XS.iand X0.here hx rfl (hb hby at_20) rfl ?_
    show Steps p.tables e below (s₁.setTop (mkF m 21 #[.val (.int p1), .val (.int p2), .val (.int p3), .val (.int p4), .val (.long p5), .second, .val (.long p6), .second, .val (.int nn), .val (.int ii), .unset, .unset, .unset, .unset, .unset, .unset, .unset] [(.int (p3 &&& (2147483647 : Int32)))])) _
    refine XS.iload X0.here hx rfl (hb hby at_21) rfl ?_
    show Steps p.tables e below (s₁.setTop (mkF m 23 #[.val (.int p1), .val (.int p2), .val (.int p3), .val (.int p4), .val (.long p5), .second, .val (.long p6), .second, .val (.int nn), .val (.int ii), .unset, .unset, .unset, .unset, .unset, .unset, .unset] [(.int nn), (.int (p3 &&& (2147483647 : Int32)))])) _
    refine Jvm.RoadKit.iremM (g := (mkF m 23 #[.val (.int p1), .val (.int p2), .val (.int p3), .val (.int p4), .val (.long p5), .second, .val (.long p6), .second, .val (.int nn), .val (.int ii), .unset, .unset, .unset, .unset, .unset, .unset, .unset] [(.int nn), (.int (p3 &&& (2147483647 : Int32)))])) X0 hx rfl (hb hby at_23) rfl (own_ne0 nn hn1) ?_
    rw [hjj]
    show Steps p.tables e below (s₁.setTop (mkF m 24 #[.val (.int p1), .val (.int p2), .val (.int p3), .val (.int p4), .val (.long p5), .second, .val (.long p6), .second, .val (.int nn), .val (.int ii), .unset, .unset, .unset, .unset, .unset, .unset, .unset] [(.int jj)])) _
    refine XS.istore X0.here hx rfl (hb hby at_24) rfl (l' := #[.val (.int p1), .val (.int p2), .val (.int p3), .val (.int p4), .val (.long p5), .second, .val (.long p6), .second, .val (.int nn), .val (.int ii), .val (.int jj), .unset, .unset, .unset, .unset, .unset, .unset]) rfl ?_
    show Steps p.tables e below (s₁.setTop (mkF m 26 #[.val (.int p1), .val (.int p2), .val (.int p3), .val (.int p4), .val (.long p5), .second, .val (.long p6), .second, .val (.int nn), .val (.int ii), .val (.int jj), .unset, .unset, .unset, .unset, .unset, .unset] [])) _
    refine XS.iloadN X0.here hx rfl (hb hby at_26) rfl ?_
    show Steps p.tables e below (s₁.setTop (mkF m 27 #[.val (.int p1), .val (.int p2), .val (.int p3), .val (.int p4), .val (.long p5), .second, .val (.long p6), .second, .val (.int nn), .val (.int ii), .val (.int jj), .unset, .unset, .unset, .unset, .unset, .unset] [(.int p4)])) _
    refine X0.ldcInt hx hown (mvT hZ (hw _ (List.mem_of_getElem? (i := 1) rfl))) (g := (mkF m 27 #[.val (.int p1), .val (.int p2), .val (.int p3), .val (.int p4), .val (.long p5), .second, .val (.long p6), .second, .val (.int nn), .val (.int ii), .val (.int jj), .unset, .unset, .unset, .unset, .unset, .unset] [(.int p4)])) rfl (hb hby at_27) _ ?_
    show Steps p.tables e below (s₁.setTop (mkF m 29 #[.val (.int p1), .val (.int p2), .val (.int p3), .val (.int p4), .val (.long p5), .second, .val (.long p6), .second, .val (.int nn), .val (.int ii), .val (.int jj), .unset, .unset, .unset, .unset, .unset, .unset] [(.int (2147483647 : Int32)), (.int p4)])) _
    refine XS.iand X0.here hx rfl (hb hby at_29) rfl ?_
    show Steps p.tables e below (s₁.setTop (mkF m 30 #[.val (.int p1), .val (.int p2), .val (.int p3), .val (.int p4), .val (.long p5), .second, .val (.long p6), .second, .val (.int nn), .val (.int ii), .val (.int jj), .unset, .unset, .unset, .unset, .unset, .unset] [(.int (p4 &&& (2147483647 : Int32)))])) _
    refine XS.iload X0.here hx rfl (hb hby at_30) rfl ?_
    show Steps p.tables e below (s₁.setTop (mkF m 32 #[.val (.int p1), .val (.int p2), .val (.int p3), .val (.int p4), .val (.long p5), .second, .val (.long p6), .second, .val (.int nn), .val (.int ii), .val (.int jj), .unset, .unset, .unset, .unset, .unset, .unset] [(.int nn), (.int (p4 &&& (2147483647 : Int32)))])) _
    refine Jvm.RoadKit.iremM (g := (mkF m 32 #[.val (.int p1), .val (.int p2), .val (.int p3), .val (.int p4), .val (.long p5), .second, .val (.long p6), .second, .val (.int nn), .val (.int ii), .val (.int jj), .unset, .unset, .unset, .unset, .unset, .unset] [(.int nn), (.int (p4 &&& (2147483647 : Int32)))])) X0 hx rfl (hb hby at_32) rfl (own_ne0 nn hn1) ?_
    rw [hkk]
    show Steps p.tables e below (s₁.setTop (mkF m 33 #[.val (.int p1), .val (.int p2), .val (.int p3), .val (.int p4), .val (.long p5), .second, .val (.long p6), .second, .val (.int nn), .val (.int ii), .val (.int jj), .unset, .unset, .unset, .unset, .unset, .unset] [(.int kk)])) _
    refine XS.istore X0.here hx rfl (hb hby at_33) rfl (l' := #[.val (.int p1), .val (.int p2), .val (.int p3), .val (.int p4), .val (.long p5), .second, .val (.long p6), .second, .val (.int nn), .val (.int ii), .val (.int jj), .val (.int kk), .unset, .unset, .unset, .unset, .unset]) rfl ?_
    show Steps p.tables e below (s₁.setTop (mkF m 35 #[.val (.int p1), .val (.int p2), .val (.int p3), .val (.int p4), .val (.long p5), .second, .val (.long p6), .second, .val (.int nn), .val (.int ii), .val (.int jj), .val (.int kk), .unset, .unset, .unset, .unset, .unset] [])) _
    refine st1 _ ?_
    show Steps p.tables e below (T1.setTop (mkF m 38 #[.val (.int p1), .val (.int p2), .val (.int p3), .val (.int p4), .val (.long p5), .second, .val (.long p6), .second, .val (.int nn), .val (.int ii), .val (.int jj), .val (.int kk), .unset, .unset, .unset, .unset, .unset] [(.ref t)])) _
    refine XS.dup X1.here hx rfl (hb hby at_38) rfl rfl ?_
    show Steps p.tables e below (T1.setTop (mkF m 39 #[.val (.int p1), .val (.int p2), .val (.int p3), .val (.int p4), .val (.long p5), .second, .val (.long p6), .second, .val (.int nn), .val (.int ii), .val (.int jj), .val (.int kk), .unset, .unset, .unset, .unset, .unset] [(.ref t), (.ref t)])) _
    refine XS.iload X1.here hx rfl (hb hby at_39) rfl ?_
    show Steps p.tables e below (T1.setTop (mkF m 41 #[.val (.int p1), .val (.int p2), .val (.int p3), .val (.int p4), .val (.long p5), .second, .val (.long p6), .second, .val (.int nn), .val (.int ii), .val (.int jj), .val (.int kk), .unset, .unset, .unset, .unset, .unset] [(.int nn), (.ref t), (.ref t)])) _
    refine st2.trans ?_
    show Steps p.tables e below (T2.setTop (mkF m 44 #[.val (.int p1), .val (.int p2), .val (.int p3), .val (.int p4), .val (.long p5), .second, .val (.long p6), .second, .val (.int nn), .val (.int ii), .val (.int jj), .val (.int kk), .unset, .unset, .unset, .unset, .unset] [(.ref t)])) _
    refine XS.astore X2.here hx rfl (hb hby at_44) rfl rfl (l' := #[.val (.int p1), .val (.int p2), .val (.int p3), .val (.int p4), .val (.long p5), .second, .val (.long p6), .second, .val (.int nn), .val (.int ii), .val (.int jj), .val (.int kk), .val (.ref t), .unset, .unset, .unset, .unset]) rfl ?_
    show Steps p.tables e below (T2.setTop (mkF m 46 #[.val (.int p1), .val (.int p2), .val (.int p3), .val (.int p4), .val (.long p5), .second, .val (.long p6), .second, .val (.int nn), .val (.int ii), .val (.int jj), .val (.int kk), .val (.ref t), .unset, .unset, .unset, .unset] [])) _
    refine XS.aload X2.here hx rfl (hb hby at_46) rfl rfl ?_
    show Steps p.tables e below (T2.setTop (mkF m 48 #[.val (.int p1), .val (.int p2), .val (.int p3), .val (.int p4), .val (.long p5), .second, .val (.long p6), .second, .val (.int nn), .val (.int ii), .val (.int jj), .val (.int kk), .val (.ref t), .unset, .unset, .unset, .unset] [(.ref t)])) _
    refine XS.iload X2.here hx rfl (hb hby at_48) rfl ?_
    show Steps p.tables e below (T2.setTop (mkF m 50 #[.val (.int p1), .val (.int p2), .val (.int p3), .val (.int p4), .val (.long p5), .second, .val (.long p6), .second, .val (.int nn), .val (.int ii), .val (.int jj), .val (.int kk), .val (.ref t), .unset, .unset, .unset, .unset] [(.int jj), (.ref t)])) _
    refine XS.lload X2.here hx rfl (hb hby at_50) rfl ?_
    show Steps p.tables e below (T2.setTop (mkF m 52 #[.val (.int p1), .val (.int p2), .val (.int p3), .val (.int p4), .val (.long p5), .second, .val (.long p6), .second, .val (.int nn), .val (.int ii), .val (.int jj), .val (.int kk), .val (.ref t), .unset, .unset, .unset, .unset] [(.long p6), (.int jj), (.ref t)])) _
    refine st3.trans ?_
    show Steps p.tables e below (T3.setTop (mkF m 55 #[.val (.int p1), .val (.int p2), .val (.int p3), .val (.int p4), .val (.long p5), .second, .val (.long p6), .second, .val (.int nn), .val (.int ii), .val (.int jj), .val (.int kk), .val (.ref t), .unset, .unset, .unset, .unset] [])) _
    refine XS.aload X3.here hx rfl (hb hby at_55) rfl rfl ?_
    show Steps p.tables e below (T3.setTop (mkF m 57 #[.val (.int p1), .val (.int p2), .val (.int p3), .val (.int p4), .val (.long p5), .second, .val (.long p6), .second, .val (.int nn), .val (.int ii), .val (.int jj), .val (.int kk), .val (.ref t), .unset, .unset, .unset, .unset] [(.ref t)])) _
    refine XS.iload X3.here hx rfl (hb hby at_57) rfl ?_
    show Steps p.tables e below (T3.setTop (mkF m 59 #[.val (.int p1), .val (.int p2), .val (.int p3), .val (.int p4), .val (.long p5), .second, .val (.long p6), .second, .val (.int nn), .val (.int ii), .val (.int jj), .val (.int kk), .val (.ref t), .unset, .unset, .unset, .unset] [(.int ii), (.ref t)])) _
    refine XS.lload X3.here hx rfl (hb hby at_59) rfl ?_
    show Steps p.tables e below (T3.setTop (mkF m 61 #[.val (.int p1), .val (.int p2), .val (.int p3), .val (.int p4), .val (.long p5), .second, .val (.long p6), .second, .val (.int nn), .val (.int ii), .val (.int jj), .val (.int kk), .val (.ref t), .unset, .unset, .unset, .unset] [(.long p5), (.int ii), (.ref t)])) _
    refine st4.trans ?_
    show Steps p.tables e below (T4.setTop (mkF m 64 #[.val (.int p1), .val (.int p2), .val (.int p3), .val (.int p4), .val (.long p5), .second, .val (.long p6), .second, .val (.int nn), .val (.int ii), .val (.int jj), .val (.int kk), .val (.ref t), .unset, .unset, .unset, .unset] [])) _
    refine XS.iload X4.here hx rfl (hb hby at_64) rfl ?_
    show Steps p.tables e below (T4.setTop (mkF m 66 #[.val (.int p1), .val (.int p2), .val (.int p3), .val (.int p4), .val (.long p5), .second, .val (.long p6), .second, .val (.int nn), .val (.int ii), .val (.int jj), .val (.int kk), .val (.ref t), .unset, .unset, .unset, .unset] [(.int jj)])) _
    refine XS.iload X4.here hx rfl (hb hby at_66) rfl ?_
    show Steps p.tables e below (T4.setTop (mkF m 68 #[.val (.int p1), .val (.int p2), .val (.int p3), .val (.int p4), .val (.long p5), .second, .val (.long p6), .second, .val (.int nn), .val (.int ii), .val (.int jj), .val (.int kk), .val (.ref t), .unset, .unset, .unset, .unset] [(.int ii), (.int jj)])) _
    refine XS.icmpNo X4.here hx rfl (hb hby at_68) rfl (teq hji).2 ?_
    show Steps p.tables e below (T4.setTop (mkF m 71 #[.val (.int p1), .val (.int p2), .val (.int p3), .val (.int p4), .val (.long p5), .second, .val (.long p6), .second, .val (.int nn), .val (.int ii), .val (.int jj), .val (.int kk), .val (.ref t), .unset, .unset, .unset, .unset] [])) _
    refine XS.lload X4.here hx rfl (hb hby at_71) rfl ?_
    show Steps p.tables e below (T4.setTop (mkF m 73 #[.val (.int p1), .val (.int p2), .val (.int p3), .val (.int p4), .val (.long p5), .second, .val (.long p6), .second, .val (.int nn), .val (.int ii), .val (.int jj), .val (.int kk), .val (.ref t), .unset, .unset, .unset, .unset] [(.long p5)])) _
    refine XS.goto X4.here hx rfl (pc0 := 73) (pc' := 78) rfl (hb hby at_73) (by decide) (by decide) ?_
    show Steps p.tables e below (T4.setTop (mkF m 78 #[.val (.int p1), .val (.int p2), .val (.int p3), .val (.int p4), .val (.long p5), .second, .val (.long p6), .second, .val (.int nn), .val (.int ii), .val (.int jj), .val (.int kk), .val (.ref t), .unset, .unset, .unset, .unset] [(.long p5)])) _
    refine XS.lstore X4.here hx rfl (hb hby at_78) rfl (l' := #[.val (.int p1), .val (.int p2), .val (.int p3), .val (.int p4), .val (.long p5), .second, .val (.long p6), .second, .val (.int nn), .val (.int ii), .val (.int jj), .val (.int kk), .val (.ref t), .val (.long p5), .second, .unset, .unset]) rfl ?_
    show Steps p.tables e below (T4.setTop (mkF m 80 #[.val (.int p1), .val (.int p2), .val (.int p3), .val (.int p4), .val (.long p5), .second, .val (.long p6), .second, .val (.int nn), .val (.int ii), .val (.int jj), .val (.int kk), .val (.ref t), .val (.long p5), .second, .unset, .unset] [])) _
    refine XS.iload X4.here hx rfl (hb hby at_80) rfl ?_
    show Steps p.tables e below (T4.setTop (mkF m 82 #[.val (.int p1), .val (.int p2), .val (.int p3), .val (.int p4), .val (.long p5), .second, .val (.long p6), .second, .val (.int nn), .val (.int ii), .val (.int jj), .val (.int kk), .val (.ref t), .val (.long p5), .second, .unset, .unset] [(.int kk)])) _
    refine XS.iload X4.here hx rfl (hb hby at_82) rfl ?_
    show Steps p.tables e below (T4.setTop (mkF m 84 #[.val (.int p1), .val (.int p2), .val (.int p3), .val (.int p4), .val (.long p5), .second, .val (.long p6), .second, .val (.int nn), .val (.int ii), .val (.int jj), .val (.int kk), .val (.ref t), .val (.long p5), .second, .unset, .unset] [(.int ii), (.int kk)])) _
    refine XS.icmpYes X4.here hx rfl (pc0 := 84) (pc' := 94) rfl (hb hby at_84) rfl (feq hki).2 (by decide) (by decide) ?_
    show Steps p.tables e below (T4.setTop (mkF m 94 #[.val (.int p1), .val (.int p2), .val (.int p3), .val (.int p4), .val (.long p5), .second, .val (.long p6), .second, .val (.int nn), .val (.int ii), .val (.int jj), .val (.int kk), .val (.ref t), .val (.long p5), .second, .unset, .unset] [])) _
    refine XS.iload X4.here hx rfl (hb hby at_94) rfl ?_
    show Steps p.tables e below (T4.setTop (mkF m 96 #[.val (.int p1), .val (.int p2), .val (.int p3), .val (.int p4), .val (.long p5), .second, .val (.long p6), .second, .val (.int nn), .val (.int ii), .val (.int jj), .val (.int kk), .val (.ref t), .val (.long p5), .second, .unset, .unset] [(.int kk)])) _
    refine XS.iload X4.here hx rfl (hb hby at_96) rfl ?_
    show Steps p.tables e below (T4.setTop (mkF m 98 #[.val (.int p1), .val (.int p2), .val (.int p3), .val (.int p4), .val (.long p5), .second, .val (.long p6), .second, .val (.int nn), .val (.int ii), .val (.int jj), .val (.int kk), .val (.ref t), .val (.long p5), .second, .unset, .unset] [(.int jj), (.int kk)])) _
    refine XS.icmpYes X4.here hx rfl (pc0 := 98) (pc' := 108) rfl (hb hby at_98) rfl (feq hkj).2 (by decide) (by decide) ?_
    show Steps p.tables e below (T4.setTop (mkF m 108 #[.val (.int p1), .val (.int p2), .val (.int p3), .val (.int p4), .val (.long p5), .second, .val (.long p6), .second, .val (.int nn), .val (.int ii), .val (.int jj), .val (.int kk), .val (.ref t), .val (.long p5), .second, .unset, .unset] [])) _
    refine XS.lconst X4.here hx rfl (hb hby at_108) ?_
    show Steps p.tables e below (T4.setTop (mkF m 109 #[.val (.int p1), .val (.int p2), .val (.int p3), .val (.int p4), .val (.long p5), .second, .val (.long p6), .second, .val (.int nn), .val (.int ii), .val (.int jj), .val (.int kk), .val (.ref t), .val (.long p5), .second, .unset, .unset] [(.long (0 : Int64))])) _
    refine XS.lstore X4.here hx rfl (hb hby at_109) rfl (l' := #[.val (.int p1), .val (.int p2), .val (.int p3), .val (.int p4), .val (.long p5), .second, .val (.long p6), .second, .val (.int nn), .val (.int ii), .val (.int jj), .val (.int kk), .val (.ref t), .val (.long p5), .second, .val (.long (0 : Int64)), .second]) rfl ?_
    show Steps p.tables e below (T4.setTop (mkF m 111 #[.val (.int p1), .val (.int p2), .val (.int p3), .val (.int p4), .val (.long p5), .second, .val (.long p6), .second, .val (.int nn), .val (.int ii), .val (.int jj), .val (.int kk), .val (.ref t), .val (.long p5), .second, .val (.long (0 : Int64)), .second] [])) _
    refine XS.aload X4.here hx rfl (hb hby at_111) rfl rfl ?_
    show Steps p.tables e below (T4.setTop (mkF m 113 #[.val (.int p1), .val (.int p2), .val (.int p3), .val (.int p4), .val (.long p5), .second, .val (.long p6), .second, .val (.int nn), .val (.int ii), .val (.int jj), .val (.int kk), .val (.ref t), .val (.long p5), .second, .val (.long (0 : Int64)), .second] [(.ref t)])) _
    refine XS.iload X4.here hx rfl (hb hby at_113) rfl ?_
    show Steps p.tables e below (T4.setTop (mkF m 115 #[.val (.int p1), .val (.int p2), .val (.int p3), .val (.int p4), .val (.long p5), .second, .val (.long p6), .second, .val (.int nn), .val (.int ii), .val (.int jj), .val (.int kk), .val (.ref t), .val (.long p5), .second, .val (.long (0 : Int64)), .second] [(.int ii), (.ref t)])) _
    refine st5.trans ?_
    show Steps p.tables e below (T5.setTop (mkF m 118 #[.val (.int p1), .val (.int p2), .val (.int p3), .val (.int p4), .val (.long p5), .second, .val (.long p6), .second, .val (.int nn), .val (.int ii), .val (.int jj), .val (.int kk), .val (.ref t), .val (.long p5), .second, .val (.long (0 : Int64)), .second] [(.long p5)])) _
    refine XS.lload X5.here hx rfl (hb hby at_118) rfl ?_
    show Steps p.tables e below (T5.setTop (mkF m 120 #[.val (.int p1), .val (.int p2), .val (.int p3), .val (.int p4), .val (.long p5), .second, .val (.long p6), .second, .val (.int nn), .val (.int ii), .val (.int jj), .val (.int kk), .val (.ref t), .val (.long p5), .second, .val (.long (0 : Int64)), .second] [(.long p5), (.long p5)])) _
    refine XS.lcmp X5.here hx rfl (hb hby at_120) rfl ?_
    show Steps p.tables e below (T5.setTop (mkF m 121 #[.val (.int p1), .val (.int p2), .val (.int p3), .val (.int p4), .val (.long p5), .second, .val (.long p6), .second, .val (.int nn), .val (.int ii), .val (.int jj), .val (.int kk), .val (.ref t), .val (.long p5), .second, .val (.long (0 : Int64)), .second] [(.int (lcmpW p5 p5))])) _
    refine XS.ifNo X5.here hx rfl (hb hby at_121) rfl ((if0 _ _).trans (teq (own_lc0 p5)).2) ?_
    show Steps p.tables e below (T5.setTop (mkF m 124 #[.val (.int p1), .val (.int p2), .val (.int p3), .val (.int p4), .val (.long p5), .second, .val (.long p6), .second, .val (.int nn), .val (.int ii), .val (.int jj), .val (.int kk), .val (.ref t), .val (.long p5), .second, .val (.long (0 : Int64)), .second] [])) _
    refine XS.aload X5.here hx rfl (hb hby at_124) rfl rfl ?_
    show Steps p.tables e below (T5.setTop (mkF m 126 #[.val (.int p1), .val (.int p2), .val (.int p3), .val (.int p4), .val (.long p5), .second, .val (.long p6), .second, .val (.int nn), .val (.int ii), .val (.int jj), .val (.int kk), .val (.ref t), .val (.long p5), .second, .val (.long (0 : Int64)), .second] [(.ref t)])) _
    refine XS.iload X5.here hx rfl (hb hby at_126) rfl ?_
    show Steps p.tables e below (T5.setTop (mkF m 128 #[.val (.int p1), .val (.int p2), .val (.int p3), .val (.int p4), .val (.long p5), .second, .val (.long p6), .second, .val (.int nn), .val (.int ii), .val (.int jj), .val (.int kk), .val (.ref t), .val (.long p5), .second, .val (.long (0 : Int64)), .second] [(.int jj), (.ref t)])) _
    refine st6.trans ?_
    show Steps p.tables e below (T6.setTop (mkF m 131 #[.val (.int p1), .val (.int p2), .val (.int p3), .val (.int p4), .val (.long p5), .second, .val (.long p6), .second, .val (.int nn), .val (.int ii), .val (.int jj), .val (.int kk), .val (.ref t), .val (.long p5), .second, .val (.long (0 : Int64)), .second] [(.long p5)])) _
    refine XS.lload X6.here hx rfl (hb hby at_131) rfl ?_
    show Steps p.tables e below (T6.setTop (mkF m 133 #[.val (.int p1), .val (.int p2), .val (.int p3), .val (.int p4), .val (.long p5), .second, .val (.long p6), .second, .val (.int nn), .val (.int ii), .val (.int jj), .val (.int kk), .val (.ref t), .val (.long p5), .second, .val (.long (0 : Int64)), .second] [(.long p5), (.long p5)])) _
    refine XS.lcmp X6.here hx rfl (hb hby at_133) rfl ?_
    show Steps p.tables e below (T6.setTop (mkF m 134 #[.val (.int p1), .val (.int p2), .val (.int p3), .val (.int p4), .val (.long p5), .second, .val (.long p6), .second, .val (.int nn), .val (.int ii), .val (.int jj), .val (.int kk), .val (.ref t), .val (.long p5), .second, .val (.long (0 : Int64)), .second] [(.int (lcmpW p5 p5))])) _
    refine XS.ifNo X6.here hx rfl (hb hby at_134) rfl ((if0 _ _).trans (teq (own_lc0 p5)).2) ?_
    show Steps p.tables e below (T6.setTop (mkF m 137 #[.val (.int p1), .val (.int p2), .val (.int p3), .val (.int p4), .val (.long p5), .second, .val (.long p6), .second, .val (.int nn), .val (.int ii), .val (.int jj), .val (.int kk), .val (.ref t), .val (.long p5), .second, .val (.long (0 : Int64)), .second] [])) _
    refine XS.aload X6.here hx rfl (hb hby at_137) rfl rfl ?_
    show Steps p.tables e below (T6.setTop (mkF m 139 #[.val (.int p1), .val (.int p2), .val (.int p3), .val (.int p4), .val (.long p5), .second, .val (.long p6), .second, .val (.int nn), .val (.int ii), .val (.int jj), .val (.int kk), .val (.ref t), .val (.long p5), .second, .val (.long (0 : Int64)), .second] [(.ref t)])) _
    refine XS.iload X6.here hx rfl (hb hby at_139) rfl ?_
    show Steps p.tables e below (T6.setTop (mkF m 141 #[.val (.int p1), .val (.int p2), .val (.int p3), .val (.int p4), .val (.long p5), .second, .val (.long p6), .second, .val (.int nn), .val (.int ii), .val (.int jj), .val (.int kk), .val (.ref t), .val (.long p5), .second, .val (.long (0 : Int64)), .second] [(.int kk), (.ref t)])) _
    refine st7.trans ?_
    show Steps p.tables e below (T7.setTop (mkF m 144 #[.val (.int p1), .val (.int p2), .val (.int p3), .val (.int p4), .val (.long p5), .second, .val (.long p6), .second, .val (.int nn), .val (.int ii), .val (.int jj), .val (.int kk), .val (.ref t), .val (.long p5), .second, .val (.long (0 : Int64)), .second] [(.long (0 : Int64))])) _
    refine XS.lload X7.here hx rfl (hb hby at_144) rfl ?_
    show Steps p.tables e below (T7.setTop (mkF m 146 #[.val (.int p1), .val (.int p2), .val (.int p3), .val (.int p4), .val (.long p5), .second, .val (.long p6), .second, .val (.int nn), .val (.int ii), .val (.int jj), .val (.int kk), .val (.ref t), .val (.long p5), .second, .val (.long (0 : Int64)), .second] [(.long (0 : Int64)), (.long (0 : Int64))])) _
    refine XS.lcmp X7.here hx rfl (hb hby at_146) rfl ?_
    show Steps p.tables e below (T7.setTop (mkF m 147 #[.val (.int p1), .val (.int p2), .val (.int p3), .val (.int p4), .val (.long p5), .second, .val (.long p6), .second, .val (.int nn), .val (.int ii), .val (.int jj), .val (.int kk), .val (.ref t), .val (.long p5), .second, .val (.long (0 : Int64)), .second] [(.int (lcmpW (0 : Int64) (0 : Int64)))])) _
    refine XS.ifNo X7.here hx rfl (hb hby at_147) rfl ((if0 _ _).trans (teq (own_lc0 (0 : Int64))).2) ?_
    show Steps p.tables e below (T7.setTop (mkF m 150 #[.val (.int p1), .val (.int p2), .val (.int p3), .val (.int p4), .val (.long p5), .second, .val (.long p6), .second, .val (.int nn), .val (.int ii), .val (.int jj), .val (.int kk), .val (.ref t), .val (.long p5), .second, .val (.long (0 : Int64)), .second] [])) _
    refine XS.aload X7.here hx rfl (hb hby at_150) rfl rfl ?_
    show Steps p.tables e below (T7.setTop (mkF m 152 #[.val (.int p1), .val (.int p2), .val (.int p3), .val (.int p4), .val (.long p5), .second, .val (.long p6), .second, .val (.int nn), .val (.int ii), .val (.int jj), .val (.int kk), .val (.ref t), .val (.long p5), .second, .val (.long (0 : Int64)), .second] [(.ref t)])) _
    refine st8.trans ?_
    show Steps p.tables e below (T8.setTop (mkF m 155 #[.val (.int p1), .val (.int p2), .val (.int p3), .val (.int p4), .val (.long p5), .second, .val (.long p6), .second, .val (.int nn), .val (.int ii), .val (.int jj), .val (.int kk), .val (.ref t), .val (.long p5), .second, .val (.long (0 : Int64)), .second] [(.int nn)])) _
    refine XS.iload X8.here hx rfl (hb hby at_155) rfl ?_
    show Steps p.tables e below (T8.setTop (mkF m 157 #[.val (.int p1), .val (.int p2), .val (.int p3), .val (.int p4), .val (.long p5), .second, .val (.long p6), .second, .val (.int nn), .val (.int ii), .val (.int jj), .val (.int kk), .val (.ref t), .val (.long p5), .second, .val (.long (0 : Int64)), .second] [(.int nn), (.int nn)])) _
    refine XS.icmpNo X8.here hx rfl (hb hby at_157) rfl (teq (rfl : nn = nn)).2 ?_
    show Steps p.tables e below (T8.setTop (mkF m 160 #[.val (.int p1), .val (.int p2), .val (.int p3), .val (.int p4), .val (.long p5), .second, .val (.long p6), .second, .val (.int nn), .val (.int ii), .val (.int jj), .val (.int kk), .val (.ref t), .val (.long p5), .second, .val (.long (0 : Int64)), .second] [])) _
    refine XS.iconst X8.here hx rfl (hb hby at_160) ?_
    show Steps p.tables e below (T8.setTop (mkF m 161 #[.val (.int p1), .val (.int p2), .val (.int p3), .val (.int p4), .val (.long p5), .second, .val (.long p6), .second, .val (.int nn), .val (.int ii), .val (.int jj), .val (.int kk), .val (.ref t), .val (.long p5), .second, .val (.long (0 : Int64)), .second] [(.int (1 : Int32))])) _
    refine XS.goto X8.here hx rfl (pc0 := 161) (pc' := 165) rfl (hb hby at_161) (by decide) (by decide) ?_
    show Steps p.tables e below (T8.setTop (mkF m 165 #[.val (.int p1), .val (.int p2), .val (.int p3), .val (.int p4), .val (.long p5), .second, .val (.long p6), .second, .val (.int nn), .val (.int ii), .val (.int jj), .val (.int kk), .val (.ref t), .val (.long p5), .second, .val (.long (0 : Int64)), .second] [(.int (1 : Int32))])) _
    exact retN X8 hx (t := .boolean) Bd.returns (by simp) (hb hby at_165) hr
  · exact ⟨rfl, N8⟩
set_option maxRecDepth 65536 in
set_option maxHeartbeats 40000000 in
theorem rmLaw2 (l : Launch) (Z : State) (a0 : Array Value) (hw : ∀ d ∈ tables_1, d.before a0 Z = true) (ws : List Jvm.Cond) (p1 : Int32) (p2 : Int32) (p3 : Int32) (p4 : Int32) (p5 : Int64) (p6 : Int64) (nn : Int32) (ii : Int32) (jj : Int32) (kk : Int32) (h0 : Heap) (n0 : Nat) (Z0 : n0 ≤ h0.size) (hS : WdL Z h0 p1 p2 p3 p4 p5 p6 nn ii jj kk) (hnn : ((1 : Int32) + (p1 &&& (131071 : Int32))) = nn) (hii : ((p2 &&& (2147483647 : Int32)) % nn) = ii) (hjj : ((p3 &&& (2147483647 : Int32)) % nn) = jj) (hkk : ((p4 &&& (2147483647 : Int32)) % nn) = kk) (hn1 : 1 ≤ nn.toInt) (hn2 : nn.toInt ≤ 131072) (hii0 : 0 ≤ ii.toInt) (hiin : ii.toInt < nn.toInt) (hjj0 : 0 ≤ jj.toInt) (hjjn : jj.toInt < nn.toInt) (hkk0 : 0 ≤ kk.toInt) (hkkn : kk.toInt < nn.toInt) (hji : ¬ (jj = ii)) (hki : kk = ii) :
    MetFree l x (head1 (Jvm.Cond.code x code maxLocals ret :: ws) room_1) (fun a U => a = #[(.int p1), (.int p2), (.int p3), (.int p4), (.long p5), (.long p6)] ∧ Z.Warmed39 U.vm ∧ U.heap = h0) (fun _ _ _ _ _ => True) (fun _ U o U' => ∃ v L, o = .returned v ∧ Q0 n0 v L ∧ FrameEnd U o U' L room_1.cells room_1.slots) := by
  refine MetFree.of_bodySF (plainFor_of_name pn_com_example_reachmark_reachmark_label_IntervalsSetPinLaw) hisR ?_
  intro p e s m args below meth c s₁ Bd hml0 hP hK
  obtain ⟨rfl, hZ, hh⟩ := hP
  have hx := Bd.exec
  have hby := Bd.bytes
  have hml : c.maxLocals = 17 := hml0
  have hown : s.vm.findClass "com/example/reachmark/reachmark/label/IntervalsSetPinLaw" = some m.cls := findClass_of_methodNamed Bd.named
  have X0 : Stand p l e room_1 s m #[(.int p1), (.int p2), (.int p3), (.int p4), (.long p5), (.long p6)] below meth c s₁ [] 0 0 := Stand.of_body Bd
  have e0 : s₁.heap = h0 := by rw [← hh, Bd.state]; rfl
  have N0 := Fr.nil n0
  have pre0 : ∀ t, Steps p.tables e below (s₁.setTop (mkF m 0 #[.val (.int p1), .val (.int p2), .val (.int p3), .val (.int p4), .val (.long p5), .second, .val (.long p6), .second, .unset, .unset, .unset, .unset, .unset, .unset, .unset, .unset, .unset] [])) t → Steps p.tables e below (s₁.setTop (entryFrame m #[(.int p1), (.int p2), (.int p3), (.int p4), (.long p5), (.long p6)] maxLocals)) t := fun t k => castTop (by first | (simp [entryFrame, mkF, argsToLocals, Value.category, maxLocals]; done) | rfl) k
  obtain ⟨T1, h1, X1, e1, E1, A1, D1, -, st1⟩ := newO X0 hx hZ hown (hw _ (List.mem_of_getElem? (i := 2) rfl)) (hw _ (List.mem_of_getElem? (i := 3) rfl)) (hw _ (List.mem_of_getElem? (i := 4) rfl)) e0 (g := (mkF m 35 #[.val (.int p1), .val (.int p2), .val (.int p3), .val (.int p4), .val (.long p5), .second, .val (.long p6), .second, .val (.int nn), .val (.int ii), .val (.int jj), .val (.int kk), .unset, .unset, .unset, .unset, .unset] [])) rfl (hb hby at_35) (by decide) (by decide)
  obtain ⟨t, gt⟩ : ∃ z, z = h0.size := ⟨_, rfl⟩
  rw [← gt] at A1 D1 st1
  have F_ch : Fld Z h1 t "com/example/reachmark/reachmark/label/Intervals" "chunks" "[[J" .null := D1 (Or.inl (hw _ (List.mem_of_getElem? (i := 19) rfl))) (ty := (.array (.array .long))) (by decide)
  have F_sz : Fld Z h1 t "com/example/reachmark/reachmark/label/Intervals" "size" "I" (.int (0 : Int32)) := D1 (Or.inl (hw _ (List.mem_of_getElem? (i := 27) rfl))) (ty := .int) (by decide)
  have Z1 : n0 ≤ h1.size := Nat.le_trans Z0 E1.1
  have g_t : n0 ≤ t := Nat.le_trans Z0 (Nat.le_of_eq gt.symm)
  obtain ⟨_, _, ⟨T2, L2, k2, n2⟩, -, X2, ⟨Lc2, hQ2, l2, y2, z2⟩, st2⟩ := X1.specialBack hx (y := (⟨"com/example/reachmark/reachmark/label/Intervals", "<init>", "(I)V"⟩ : MethodName)) rfl hown (mvT hZ (hw _ (List.mem_of_getElem? (i := 5) rfl))) (mvT hZ (hw _ (List.mem_of_getElem? (i := 6) rfl))) (mvT hZ (hw _ (List.mem_of_getElem? (i := 7) rfl))) (by decide) (backOf (W := 1) (rmInit l Z a0 hw [] t nn h1 n0 Z1 A1 F_ch F_sz g_t hn1 hn2) hZ (hw _ (List.mem_of_getElem? (i := 7) rfl)) (hw _ (List.mem_of_getElem? (i := 4) rfl)) (by decide) (by decide)) (g := (mkF m 41 #[.val (.int p1), .val (.int p2), .val (.int p3), .val (.int p4), .val (.long p5), .second, .val (.long p6), .second, .val (.int nn), .val (.int ii), .val (.int jj), .val (.int kk), .unset, .unset, .unset, .unset, .unset] [(.int nn), (.ref t), (.ref t)])) rfl (by rw [hml]; rfl) (Steps.refl _) (a := t) (argsL := [(.int nn)]) (rest := [(.ref t)]) (lenOf pd_1 rfl) rfl (by show 2 * 0 + _ ≤ _; exact Nat.le_of_eq rfl) (hb hby at_41) (fun _ _ => ⟨rfl, e1, (by decide : 1 + 5 ≤ _), (by decide : 2 + 131076 ≤ _)⟩)
  dsimp only [Pt.U, Pt.locs, Pt.cells, Pt.slots] at X2 l2 y2 z2 st2 hQ2
  subst l2 y2 z2
  obtain ⟨rfl, N2q, -, ch, cs, I2⟩ := hQ2
  have N2 := Fr.app N0 N2q
  obtain ⟨cq3, kq3, q3a, q3b, q3c⟩ := isOf hZ rfl I2.1
  obtain ⟨_, _, ⟨T3, L3, k3, n3⟩, -, X3, ⟨Lc3, hQ3, l3, y3, z3⟩, st3⟩ := X2.virtualBack hx (y := (⟨"com/example/reachmark/reachmark/label/Intervals", "set", "(IJ)V"⟩ : MethodName)) (z := (⟨"com/example/reachmark/reachmark/label/Intervals", "set", "(IJ)V"⟩ : MethodName)) hown (mvT hZ (hw _ (List.mem_of_getElem? (i := 28) rfl))) (mvT hZ (hw _ (List.mem_of_getElem? (i := 29) rfl))) (notFace_of_selects (args := #[]) (mvT hZ (hw _ (List.mem_of_getElem? (i := 31) rfl)))) (mvT hZ (hw _ (List.mem_of_getElem? (i := 31) rfl))) (mvT hZ (hw _ (List.mem_of_getElem? (i := 30) rfl))) (by decide) (backOf (W := 0) (rm_set l Z a0 hw [] t ch nn cs (fun _ => 0) jj p6 T2.heap n0 I2 hjj0 hjjn) hZ (hw _ (List.mem_of_getElem? (i := 32) rfl)) (hw _ (List.mem_of_getElem? (i := 4) rfl)) (by decide) (by decide)) q3a q3c (g := (mkF m 52 #[.val (.int p1), .val (.int p2), .val (.int p3), .val (.int p4), .val (.long p5), .second, .val (.long p6), .second, .val (.int nn), .val (.int ii), .val (.int jj), .val (.int kk), .val (.ref t), .unset, .unset, .unset, .unset] [(.long p6), (.int jj), (.ref t)])) rfl (by rw [hml]; rfl) (Steps.refl _) (argsL := [(.int jj), (.long p6)]) (rest := []) (lenOf pd_2 rfl) rfl (by show 2 * 0 + _ ≤ _; exact Nat.le_of_eq rfl) (hb hby at_52) (fun _ _ => ⟨rfl, rfl, (by decide : 6 + 0 ≤ _), (by decide : 131078 + 0 ≤ _)⟩)
  dsimp only [Pt.U, Pt.locs, Pt.cells, Pt.slots] at X3 l3 y3 z3 st3 hQ3
  subst l3 y3 z3
  obtain ⟨rfl, N3q, I3⟩ := hQ3
  have N3 := Fr.app N2 N3q
  obtain ⟨cq4, kq4, q4a, q4b, q4c⟩ := isOf hZ rfl I3.1
  obtain ⟨_, _, ⟨T4, L4, k4, n4⟩, -, X4, ⟨Lc4, hQ4, l4, y4, z4⟩, st4⟩ := X3.virtualBack hx (y := (⟨"com/example/reachmark/reachmark/label/Intervals", "set", "(IJ)V"⟩ : MethodName)) (z := (⟨"com/example/reachmark/reachmark/label/Intervals", "set", "(IJ)V"⟩ : MethodName)) hown (mvT hZ (hw _ (List.mem_of_getElem? (i := 28) rfl))) (mvT hZ (hw _ (List.mem_of_getElem? (i := 29) rfl))) (notFace_of_selects (args := #[]) (mvT hZ (hw _ (List.mem_of_getElem? (i := 31) rfl)))) (mvT hZ (hw _ (List.mem_of_getElem? (i := 31) rfl))) (mvT hZ (hw _ (List.mem_of_getElem? (i := 30) rfl))) (by decide) (backOf (W := 0) (rm_set l Z a0 hw [] t ch nn cs (own_upd (fun _ => 0) jj p6) ii p5 T3.heap n0 I3 hii0 hiin) hZ (hw _ (List.mem_of_getElem? (i := 32) rfl)) (hw _ (List.mem_of_getElem? (i := 4) rfl)) (by decide) (by decide)) q4a q4c (g := (mkF m 61 #[.val (.int p1), .val (.int p2), .val (.int p3), .val (.int p4), .val (.long p5), .second, .val (.long p6), .second, .val (.int nn), .val (.int ii), .val (.int jj), .val (.int kk), .val (.ref t), .unset, .unset, .unset, .unset] [(.long p5), (.int ii), (.ref t)])) rfl (by rw [hml]; rfl) (Steps.refl _) (argsL := [(.int ii), (.long p5)]) (rest := []) (lenOf pd_2 rfl) rfl (by show 2 * 0 + _ ≤ _; exact Nat.le_of_eq rfl) (hb hby at_61) (fun _ _ => ⟨rfl, rfl, (by decide : 6 + 0 ≤ _), (by decide : 131078 + 0 ≤ _)⟩)
  dsimp only [Pt.U, Pt.locs, Pt.cells, Pt.slots] at X4 l4 y4 z4 st4 hQ4
  subst l4 y4 z4
  obtain ⟨rfl, N4q, I4⟩ := hQ4
  have N4 := Fr.app N3 N4q
  obtain ⟨cq5, kq5, q5a, q5b, q5c⟩ := isOf hZ rfl I4.1
  obtain ⟨_, _, ⟨T5, L5, k5, n5⟩, -, X5, ⟨Lc5, hQ5, l5, y5, z5⟩, st5⟩ := X4.virtualBack hx (y := (⟨"com/example/reachmark/reachmark/label/Intervals", "get", "(I)J"⟩ : MethodName)) (z := (⟨"com/example/reachmark/reachmark/label/Intervals", "get", "(I)J"⟩ : MethodName)) hown (mvT hZ (hw _ (List.mem_of_getElem? (i := 33) rfl))) (mvT hZ (hw _ (List.mem_of_getElem? (i := 34) rfl))) (notFace_of_selects (args := #[]) (mvT hZ (hw _ (List.mem_of_getElem? (i := 36) rfl)))) (mvT hZ (hw _ (List.mem_of_getElem? (i := 36) rfl))) (mvT hZ (hw _ (List.mem_of_getElem? (i := 35) rfl))) (by decide) (backOf (W := 0) (rm_get l Z a0 hw [] t ch nn cs (own_upd (own_upd (fun _ => 0) jj p6) ii p5) ii p5 T4.heap n0 I4 hii0 hiin (by rw [own_upd_at _ _ _ _ hii0 hii0, own_upd_at _ _ _ _ hjj0 hii0]; simp [])) hZ (hw _ (List.mem_of_getElem? (i := 37) rfl)) (hw _ (List.mem_of_getElem? (i := 4) rfl)) (by decide) (by decide)) q5a q5c (g := (mkF m 115 #[.val (.int p1), .val (.int p2), .val (.int p3), .val (.int p4), .val (.long p5), .second, .val (.long p6), .second, .val (.int nn), .val (.int ii), .val (.int jj), .val (.int kk), .val (.ref t), .val (.long p6), .second, .val (.long p5), .second] [(.int ii), (.ref t)])) rfl (by rw [hml]; rfl) (Steps.refl _) (argsL := [(.int ii)]) (rest := []) (lenOf pd_3 rfl) rfl (by show 2 * 0 + _ ≤ _; exact Nat.le_of_eq rfl) (hb hby at_115) (fun _ _ => ⟨rfl, rfl, (by decide : 6 + 0 ≤ _), (by decide : 131078 + 0 ≤ _)⟩)
  dsimp only [Pt.U, Pt.locs, Pt.cells, Pt.slots] at X5 l5 y5 z5 st5 hQ5
  subst l5 y5 z5
  obtain ⟨rfl, N5q, e5⟩ := hQ5
  have N5 := Fr.app N4 N5q
  obtain ⟨cq6, kq6, q6a, q6b, q6c⟩ := isOf hZ e5 I4.1
  obtain ⟨_, _, ⟨T6, L6, k6, n6⟩, -, X6, ⟨Lc6, hQ6, l6, y6, z6⟩, st6⟩ := X5.virtualBack hx (y := (⟨"com/example/reachmark/reachmark/label/Intervals", "get", "(I)J"⟩ : MethodName)) (z := (⟨"com/example/reachmark/reachmark/label/Intervals", "get", "(I)J"⟩ : MethodName)) hown (mvT hZ (hw _ (List.mem_of_getElem? (i := 33) rfl))) (mvT hZ (hw _ (List.mem_of_getElem? (i := 34) rfl))) (notFace_of_selects (args := #[]) (mvT hZ (hw _ (List.mem_of_getElem? (i := 36) rfl)))) (mvT hZ (hw _ (List.mem_of_getElem? (i := 36) rfl))) (mvT hZ (hw _ (List.mem_of_getElem? (i := 35) rfl))) (by decide) (backOf (W := 0) (rm_get l Z a0 hw [] t ch nn cs (own_upd (own_upd (fun _ => 0) jj p6) ii p5) jj p6 T4.heap n0 I4 hjj0 hjjn (by rw [own_upd_at _ _ _ _ hii0 hjj0, own_upd_at _ _ _ _ hjj0 hjj0]; simp [hji])) hZ (hw _ (List.mem_of_getElem? (i := 37) rfl)) (hw _ (List.mem_of_getElem? (i := 4) rfl)) (by decide) (by decide)) q6a q6c (g := (mkF m 128 #[.val (.int p1), .val (.int p2), .val (.int p3), .val (.int p4), .val (.long p5), .second, .val (.long p6), .second, .val (.int nn), .val (.int ii), .val (.int jj), .val (.int kk), .val (.ref t), .val (.long p6), .second, .val (.long p5), .second] [(.int jj), (.ref t)])) rfl (by rw [hml]; rfl) (Steps.refl _) (argsL := [(.int jj)]) (rest := []) (lenOf pd_3 rfl) rfl (by show 2 * 0 + _ ≤ _; exact Nat.le_of_eq rfl) (hb hby at_128) (fun _ _ => ⟨rfl, e5, (by decide : 6 + 0 ≤ _), (by decide : 131078 + 0 ≤ _)⟩)
  dsimp only [Pt.U, Pt.locs, Pt.cells, Pt.slots] at X6 l6 y6 z6 st6 hQ6
  subst l6 y6 z6
  obtain ⟨rfl, N6q, e6⟩ := hQ6
  have N6 := Fr.app N5 N6q
  obtain ⟨cq7, kq7, q7a, q7b, q7c⟩ := isOf hZ e6 I4.1
  obtain ⟨_, _, ⟨T7, L7, k7, n7⟩, -, X7, ⟨Lc7, hQ7, l7, y7, z7⟩, st7⟩ := X6.virtualBack hx (y := (⟨"com/example/reachmark/reachmark/label/Intervals", "get", "(I)J"⟩ : MethodName)) (z := (⟨"com/example/reachmark/reachmark/label/Intervals", "get", "(I)J"⟩ : MethodName)) hown (mvT hZ (hw _ (List.mem_of_getElem? (i := 33) rfl))) (mvT hZ (hw _ (List.mem_of_getElem? (i := 34) rfl))) (notFace_of_selects (args := #[]) (mvT hZ (hw _ (List.mem_of_getElem? (i := 36) rfl)))) (mvT hZ (hw _ (List.mem_of_getElem? (i := 36) rfl))) (mvT hZ (hw _ (List.mem_of_getElem? (i := 35) rfl))) (by decide) (backOf (W := 0) (rm_get l Z a0 hw [] t ch nn cs (own_upd (own_upd (fun _ => 0) jj p6) ii p5) kk p5 T4.heap n0 I4 hkk0 hkkn (by rw [own_upd_at _ _ _ _ hii0 hkk0, own_upd_at _ _ _ _ hjj0 hkk0]; simp [hji, hki])) hZ (hw _ (List.mem_of_getElem? (i := 37) rfl)) (hw _ (List.mem_of_getElem? (i := 4) rfl)) (by decide) (by decide)) q7a q7c (g := (mkF m 141 #[.val (.int p1), .val (.int p2), .val (.int p3), .val (.int p4), .val (.long p5), .second, .val (.long p6), .second, .val (.int nn), .val (.int ii), .val (.int jj), .val (.int kk), .val (.ref t), .val (.long p6), .second, .val (.long p5), .second] [(.int kk), (.ref t)])) rfl (by rw [hml]; rfl) (Steps.refl _) (argsL := [(.int kk)]) (rest := []) (lenOf pd_3 rfl) rfl (by show 2 * 0 + _ ≤ _; exact Nat.le_of_eq rfl) (hb hby at_141) (fun _ _ => ⟨rfl, e6, (by decide : 6 + 0 ≤ _), (by decide : 131078 + 0 ≤ _)⟩)
  dsimp only [Pt.U, Pt.locs, Pt.cells, Pt.slots] at X7 l7 y7 z7 st7 hQ7
  subst l7 y7 z7
  obtain ⟨rfl, N7q, e7⟩ := hQ7
  have N7 := Fr.app N6 N7q
  obtain ⟨cq8, kq8, q8a, q8b, q8c⟩ := isOf hZ e7 I4.1
  obtain ⟨_, _, ⟨T8, L8, k8, n8⟩, -, X8, ⟨Lc8, hQ8, l8, y8, z8⟩, st8⟩ := X7.virtualBack hx (y := (⟨"com/example/reachmark/reachmark/label/Intervals", "size", "()I"⟩ : MethodName)) (z := (⟨"com/example/reachmark/reachmark/label/Intervals", "size", "()I"⟩ : MethodName)) hown (mvT hZ (hw _ (List.mem_of_getElem? (i := 38) rfl))) (mvT hZ (hw _ (List.mem_of_getElem? (i := 39) rfl))) (notFace_of_selects (args := #[]) (mvT hZ (hw _ (List.mem_of_getElem? (i := 41) rfl)))) (mvT hZ (hw _ (List.mem_of_getElem? (i := 41) rfl))) (mvT hZ (hw _ (List.mem_of_getElem? (i := 40) rfl))) (by decide) (backOf (W := 0) (rm_size l Z a0 hw [] t ch nn cs (own_upd (own_upd (fun _ => 0) jj p6) ii p5) T4.heap n0 I4) hZ (hw _ (List.mem_of_getElem? (i := 42) rfl)) (hw _ (List.mem_of_getElem? (i := 4) rfl)) (by decide) (by decide)) q8a q8c (g := (mkF m 152 #[.val (.int p1), .val (.int p2), .val (.int p3), .val (.int p4), .val (.long p5), .second, .val (.long p6), .second, .val (.int nn), .val (.int ii), .val (.int jj), .val (.int kk), .val (.ref t), .val (.long p6), .second, .val (.long p5), .second] [(.ref t)])) rfl (by rw [hml]; rfl) (Steps.refl _) (argsL := []) (rest := []) (lenOf pd_4 rfl) rfl (by show 2 * 0 + _ ≤ _; exact Nat.le_of_eq rfl) (hb hby at_152) (fun _ _ => ⟨rfl, e7, (by decide : 6 + 0 ≤ _), (by decide : 131078 + 0 ≤ _)⟩)
  dsimp only [Pt.U, Pt.locs, Pt.cells, Pt.slots] at X8 l8 y8 z8 st8 hQ8
  subst l8 y8 z8
  obtain ⟨rfl, N8q, e8⟩ := hQ8
  have N8 := Fr.app N7 N8q
  obtain ⟨fs, hr, hrun, hended, hW, hsame⟩ := X8.leave (v := some (.int (1 : Int32))) (fun h => by rw [Bd.returns] at h; cases h)
  refine ⟨_, _, pre0 _ ?_, hrun, hended, _, _, rfl, ?_, ⟨_, rfl⟩, hW, hsame.mono (by decide) (by decide)⟩
  · show Steps p.tables e below (s₁.setTop (mkF m 0 #[.val (.int p1), .val (.int p2), .val (.int p3), .val (.int p4), .val (.long p5), .second, .val (.long p6), .second, .unset, .unset, .unset, .unset, .unset, .unset, .unset, .unset, .unset] [])) _
    refine XS.iconst X0.here hx rfl (hb hby at_0) ?_
    show Steps p.tables e below (s₁.setTop (mkF m 1 #[.val (.int p1), .val (.int p2), .val (.int p3), .val (.int p4), .val (.long p5), .second, .val (.long p6), .second, .unset, .unset, .unset, .unset, .unset, .unset, .unset, .unset, .unset] [(.int (1 : Int32))])) _
    refine XS.iloadN X0.here hx rfl (hb hby at_1) rfl ?_
    show Steps p.tables e below (s₁.setTop (mkF m 2 #[.val (.int p1), .val (.int p2), .val (.int p3), .val (.int p4), .val (.long p5), .second, .val (.long p6), .second, .unset, .unset, .unset, .unset, .unset, .unset, .unset, .unset, .unset] [(.int p1), (.int (1 : Int32))])) _
    refine X0.ldcInt hx hown (mvT hZ (hw _ (List.mem_of_getElem? (i := 0) rfl))) (g := (mkF m 2 #[.val (.int p1), .val (.int p2), .val (.int p3), .val (.int p4), .val (.long p5), .second, .val (.long p6), .second, .unset, .unset, .unset, .unset, .unset, .unset, .unset, .unset, .unset] [(.int p1), (.int (1 : Int32))])) rfl (hb hby at_2) _ ?_
    show Steps p.tables e below (s₁.setTop (mkF m 4 #[.val (.int p1), .val (.int p2), .val (.int p3), .val (.int p4), .val (.long p5), .second, .val (.long p6), .second, .unset, .unset, .unset, .unset, .unset, .unset, .unset, .unset, .unset] [(.int (131071 : Int32)), (.int p1), (.int (1 : Int32))])) _
    refine XS.iand X0.here hx rfl (hb hby at_4) rfl ?_
    show Steps p.tables e below (s₁.setTop (mkF m 5 #[.val (.int p1), .val (.int p2), .val (.int p3), .val (.int p4), .val (.long p5), .second, .val (.long p6), .second, .unset, .unset, .unset, .unset, .unset, .unset, .unset, .unset, .unset] [(.int (p1 &&& (131071 : Int32))), (.int (1 : Int32))])) _
    refine XS.iadd X0.here hx rfl (hb hby at_5) rfl ?_
    rw [hnn]
    show Steps p.tables e below (s₁.setTop (mkF m 6 #[.val (.int p1), .val (.int p2), .val (.int p3), .val (.int p4), .val (.long p5), .second, .val (.long p6), .second, .unset, .unset, .unset, .unset, .unset, .unset, .unset, .unset, .unset] [(.int nn)])) _
    refine XS.istore X0.here hx rfl (hb hby at_6) rfl (l' := #[.val (.int p1), .val (.int p2), .val (.int p3), .val (.int p4), .val (.long p5), .second, .val (.long p6), .second, .val (.int nn), .unset, .unset, .unset, .unset, .unset, .unset, .unset, .unset]) rfl ?_
    show Steps p.tables e below (s₁.setTop (mkF m 8 #[.val (.int p1), .val (.int p2), .val (.int p3), .val (.int p4), .val (.long p5), .second, .val (.long p6), .second, .val (.int nn), .unset, .unset, .unset, .unset, .unset, .unset, .unset, .unset] [])) _
    refine XS.iloadN X0.here hx rfl (hb hby at_8) rfl ?_
    show Steps p.tables e below (s₁.setTop (mkF m 9 #[.val (.int p1), .val (.int p2), .val (.int p3), .val (.int p4), .val (.long p5), .second, .val (.long p6), .second, .val (.int nn), .unset, .unset, .unset, .unset, .unset, .unset, .unset, .unset] [(.int p2)])) _
    refine X0.ldcInt hx hown (mvT hZ (hw _ (List.mem_of_getElem? (i := 1) rfl))) (g := (mkF m 9 #[.val (.int p1), .val (.int p2), .val (.int p3), .val (.int p4), .val (.long p5), .second, .val (.long p6), .second, .val (.int nn), .unset, .unset, .unset, .unset, .unset, .unset, .unset, .unset] [(.int p2)])) rfl (hb hby at_9) _ ?_
    show Steps p.tables e below (s₁.setTop (mkF m 11 #[.val (.int p1), .val (.int p2), .val (.int p3), .val (.int p4), .val (.long p5), .second, .val (.long p6), .second, .val (.int nn), .unset, .unset, .unset, .unset, .unset, .unset, .unset, .unset] [(.int (2147483647 : Int32)), (.int p2)])) _
    refine XS.iand X0.here hx rfl (hb hby at_11) rfl ?_
    show Steps p.tables e below (s₁.setTop (mkF m 12 #[.val (.int p1), .val (.int p2), .val (.int p3), .val (.int p4), .val (.long p5), .second, .val (.long p6), .second, .val (.int nn), .unset, .unset, .unset, .unset, .unset, .unset, .unset, .unset] [(.int (p2 &&& (2147483647 : Int32)))])) _
    refine XS.iload X0.here hx rfl (hb hby at_12) rfl ?_
    show Steps p.tables e below (s₁.setTop (mkF m 14 #[.val (.int p1), .val (.int p2), .val (.int p3), .val (.int p4), .val (.long p5), .second, .val (.long p6), .second, .val (.int nn), .unset, .unset, .unset, .unset, .unset, .unset, .unset, .unset] [(.int nn), (.int (p2 &&& (2147483647 : Int32)))])) _
    refine Jvm.RoadKit.iremM (g := (mkF m 14 #[.val (.int p1), .val (.int p2), .val (.int p3), .val (.int p4), .val (.long p5), .second, .val (.long p6), .second, .val (.int nn), .unset, .unset, .unset, .unset, .unset, .unset, .unset, .unset] [(.int nn), (.int (p2 &&& (2147483647 : Int32)))])) X0 hx rfl (hb hby at_14) rfl (own_ne0 nn hn1) ?_
    rw [hii]
    show Steps p.tables e below (s₁.setTop (mkF m 15 #[.val (.int p1), .val (.int p2), .val (.int p3), .val (.int p4), .val (.long p5), .second, .val (.long p6), .second, .val (.int nn), .unset, .unset, .unset, .unset, .unset, .unset, .unset, .unset] [(.int ii)])) _
    refine XS.istore X0.here hx rfl (hb hby at_15) rfl (l' := #[.val (.int p1), .val (.int p2), .val (.int p3), .val (.int p4), .val (.long p5), .second, .val (.long p6), .second, .val (.int nn), .val (.int ii), .unset, .unset, .unset, .unset, .unset, .unset, .unset]) rfl ?_
    show Steps p.tables e below (s₁.setTop (mkF m 17 #[.val (.int p1), .val (.int p2), .val (.int p3), .val (.int p4), .val (.long p5), .second, .val (.long p6), .second, .val (.int nn), .val (.int ii), .unset, .unset, .unset, .unset, .unset, .unset, .unset] [])) _
    refine XS.iloadN X0.here hx rfl (hb hby at_17) rfl ?_
    show Steps p.tables e below (s₁.setTop (mkF m 18 #[.val (.int p1), .val (.int p2), .val (.int p3), .val (.int p4), .val (.long p5), .second, .val (.long p6), .second, .val (.int nn), .val (.int ii), .unset, .unset, .unset, .unset, .unset, .unset, .unset] [(.int p3)])) _
    refine X0.ldcInt hx hown (mvT hZ (hw _ (List.mem_of_getElem? (i := 1) rfl))) (g := (mkF m 18 #[.val (.int p1), .val (.int p2), .val (.int p3), .val (.int p4), .val (.long p5), .second, .val (.long p6), .second, .val (.int nn), .val (.int ii), .unset, .unset, .unset, .unset, .unset, .unset, .unset] [(.int p3)])) rfl (hb hby at_18) _ ?_
    show Steps p.tables e below (s₁.setTop (mkF m 20 #[.val (.int p1), .val (.int p2), .val (.int p3), .val (.int p4), .val (.long p5), .second, .val (.long p6), .second, .val (.int nn), .val (.int ii), .unset, .unset, .unset, .unset, .unset, .unset, .unset] [(.int (2147483647 : Int32)), (.int p3)])) _
    refine XS.iand X0.here hx rfl (hb hby at_20) rfl ?_
    show Steps p.tables e below (s₁.setTop (mkF m 21 #[.val (.int p1), .val (.int p2), .val (.int p3), .val (.int p4), .val (.long p5), .second, .val (.long p6), .second, .val (.int nn), .val (.int ii), .unset, .unset, .unset, .unset, .unset, .unset, .unset] [(.int (p3 &&& (2147483647 : Int32)))])) _
    refine XS.iload X0.here hx rfl (hb hby at_21) rfl ?_
    show Steps p.tables e below (s₁.setTop (mkF m 23 #[.val (.int p1), .val (.int p2), .val (.int p3), .val (.int p4), .val (.long p5), .second, .val (.long p6), .second, .val (.int nn), .val (.int ii), .unset, .unset, .unset, .unset, .unset, .unset, .unset] [(.int nn), (.int (p3 &&& (2147483647 : Int32)))])) _
    refine Jvm.RoadKit.iremM (g := (mkF m 23 #[.val (.int p1), .val (.int p2), .val (.int p3), .val (.int p4), .val (.long p5), .second, .val (.long p6), .second, .val (.int nn), .val (.int ii), .unset, .unset, .unset, .unset, .unset, .unset, .unset] [(.int nn), (.int (p3 &&& (2147483647 : Int32)))])) X0 hx rfl (hb hby at_23) rfl (own_ne0 nn hn1) ?_
    rw [hjj]
    show Steps p.tables e below (s₁.setTop (mkF m 24 #[.val (.int p1), .val (.int p2), .val (.int p3), .val (.int p4), .val (.long p5), .second, .val (.long p6), .second, .val (.int nn), .val (.int ii), .unset, .unset, .unset, .unset, .unset, .unset, .unset] [(.int jj)])) _
    refine XS.istore X0.here hx rfl (hb hby at_24) rfl (l' := #[.val (.int p1), .val (.int p2), .val (.int p3), .val (.int p4), .val (.long p5), .second, .val (.long p6), .second, .val (.int nn), .val (.int ii), .val (.int jj), .unset, .unset, .unset, .unset, .unset, .unset]) rfl ?_
    show Steps p.tables e below (s₁.setTop (mkF m 26 #[.val (.int p1), .val (.int p2), .val (.int p3), .val (.int p4), .val (.long p5), .second, .val (.long p6), .second, .val (.int nn), .val (.int ii), .val (.int jj), .unset, .unset, .unset, .unset, .unset, .unset] [])) _
    refine XS.iloadN X0.here hx rfl (hb hby at_26) rfl ?_
    show Steps p.tables e below (s₁.setTop (mkF m 27 #[.val (.int p1), .val (.int p2), .val (.int p3), .val (.int p4), .val (.long p5), .second, .val (.long p6), .second, .val (.int nn), .val (.int ii), .val (.int jj), .unset, .unset, .unset, .unset, .unset, .unset] [(.int p4)])) _
    refine X0.ldcInt hx hown (mvT hZ (hw _ (List.mem_of_getElem? (i := 1) rfl))) (g := (mkF m 27 #[.val (.int p1), .val (.int p2), .val (.int p3), .val (.int p4), .val (.long p5), .second, .val (.long p6), .second, .val (.int nn), .val (.int ii), .val (.int jj), .unset, .unset, .unset, .unset, .unset, .unset] [(.int p4)])) rfl (hb hby at_27) _ ?_
    show Steps p.tables e below (s₁.setTop (mkF m 29 #[.val (.int p1), .val (.int p2), .val (.int p3), .val (.int p4), .val (.long p5), .second, .val (.long p6), .second, .val (.int nn), .val (.int ii), .val (.int jj), .unset, .unset, .unset, .unset, .unset, .unset] [(.int (2147483647 : Int32)), (.int p4)])) _
    refine XS.iand X0.here hx rfl (hb hby at_29) rfl ?_
    show Steps p.tables e below (s₁.setTop (mkF m 30 #[.val (.int p1), .val (.int p2), .val (.int p3), .val (.int p4), .val (.long p5), .second, .val (.long p6), .second, .val (.int nn), .val (.int ii), .val (.int jj), .unset, .unset, .unset, .unset, .unset, .unset] [(.int (p4 &&& (2147483647 : Int32)))])) _
    refine XS.iload X0.here hx rfl (hb hby at_30) rfl ?_
    show Steps p.tables e below (s₁.setTop (mkF m 32 #[.val (.int p1), .val (.int p2), .val (.int p3), .val (.int p4), .val (.long p5), .second, .val (.long p6), .second, .val (.int nn), .val (.int ii), .val (.int jj), .unset, .unset, .unset, .unset, .unset, .unset] [(.int nn), (.int (p4 &&& (2147483647 : Int32)))])) _
    refine Jvm.RoadKit.iremM (g := (mkF m 32 #[.val (.int p1), .val (.int p2), .val (.int p3), .val (.int p4), .val (.long p5), .second, .val (.long p6), .second, .val (.int nn), .val (.int ii), .val (.int jj), .unset, .unset, .unset, .unset, .unset, .unset] [(.int nn), (.int (p4 &&& (2147483647 : Int32)))])) X0 hx rfl (hb hby at_32) rfl (own_ne0 nn hn1) ?_
    rw [hkk]
    show Steps p.tables e below (s₁.setTop (mkF m 33 #[.val (.int p1), .val (.int p2), .val (.int p3), .val (.int p4), .val (.long p5), .second, .val (.long p6), .second, .val (.int nn), .val (.int ii), .val (.int jj), .unset, .unset, .unset, .unset, .unset, .unset] [(.int kk)])) _
    refine XS.istore X0.here hx rfl (hb hby at_33) rfl (l' := #[.val (.int p1), .val (.int p2), .val (.int p3), .val (.int p4), .val (.long p5), .second, .val (.long p6), .second, .val (.int nn), .val (.int ii), .val (.int jj), .val (.int kk), .unset, .unset, .unset, .unset, .unset]) rfl ?_
    show Steps p.tables e below (s₁.setTop (mkF m 35 #[.val (.int p1), .val (.int p2), .val (.int p3), .val (.int p4), .val (.long p5), .second, .val (.long p6), .second, .val (.int nn), .val (.int ii), .val (.int jj), .val (.int kk), .unset, .unset, .unset, .unset, .unset] [])) _
    refine st1 _ ?_
    show Steps p.tables e below (T1.setTop (mkF m 38 #[.val (.int p1), .val (.int p2), .val (.int p3), .val (.int p4), .val (.long p5), .second, .val (.long p6), .second, .val (.int nn), .val (.int ii), .val (.int jj), .val (.int kk), .unset, .unset, .unset, .unset, .unset] [(.ref t)])) _
    refine XS.dup X1.here hx rfl (hb hby at_38) rfl rfl ?_
    show Steps p.tables e below (T1.setTop (mkF m 39 #[.val (.int p1), .val (.int p2), .val (.int p3), .val (.int p4), .val (.long p5), .second, .val (.long p6), .second, .val (.int nn), .val (.int ii), .val (.int jj), .val (.int kk), .unset, .unset, .unset, .unset, .unset] [(.ref t), (.ref t)])) _
    refine XS.iload X1.here hx rfl (hb hby at_39) rfl ?_
    show Steps p.tables e below (T1.setTop (mkF m 41 #[.val (.int p1), .val (.int p2), .val (.int p3), .val (.int p4), .val (.long p5), .second, .val (.long p6), .second, .val (.int nn), .val (.int ii), .val (.int jj), .val (.int kk), .unset, .unset, .unset, .unset, .unset] [(.int nn), (.ref t), (.ref t)])) _
    refine st2.trans ?_
    show Steps p.tables e below (T2.setTop (mkF m 44 #[.val (.int p1), .val (.int p2), .val (.int p3), .val (.int p4), .val (.long p5), .second, .val (.long p6), .second, .val (.int nn), .val (.int ii), .val (.int jj), .val (.int kk), .unset, .unset, .unset, .unset, .unset] [(.ref t)])) _
    refine XS.astore X2.here hx rfl (hb hby at_44) rfl rfl (l' := #[.val (.int p1), .val (.int p2), .val (.int p3), .val (.int p4), .val (.long p5), .second, .val (.long p6), .second, .val (.int nn), .val (.int ii), .val (.int jj), .val (.int kk), .val (.ref t), .unset, .unset, .unset, .unset]) rfl ?_
    show Steps p.tables e below (T2.setTop (mkF m 46 #[.val (.int p1), .val (.int p2), .val (.int p3), .val (.int p4), .val (.long p5), .second, .val (.long p6), .second, .val (.int nn), .val (.int ii), .val (.int jj), .val (.int kk), .val (.ref t), .unset, .unset, .unset, .unset] [])) _
    refine XS.aload X2.here hx rfl (hb hby at_46) rfl rfl ?_
    show Steps p.tables e below (T2.setTop (mkF m 48 #[.val (.int p1), .val (.int p2), .val (.int p3), .val (.int p4), .val (.long p5), .second, .val (.long p6), .second, .val (.int nn), .val (.int ii), .val (.int jj), .val (.int kk), .val (.ref t), .unset, .unset, .unset, .unset] [(.ref t)])) _
    refine XS.iload X2.here hx rfl (hb hby at_48) rfl ?_
    show Steps p.tables e below (T2.setTop (mkF m 50 #[.val (.int p1), .val (.int p2), .val (.int p3), .val (.int p4), .val (.long p5), .second, .val (.long p6), .second, .val (.int nn), .val (.int ii), .val (.int jj), .val (.int kk), .val (.ref t), .unset, .unset, .unset, .unset] [(.int jj), (.ref t)])) _
    refine XS.lload X2.here hx rfl (hb hby at_50) rfl ?_
    show Steps p.tables e below (T2.setTop (mkF m 52 #[.val (.int p1), .val (.int p2), .val (.int p3), .val (.int p4), .val (.long p5), .second, .val (.long p6), .second, .val (.int nn), .val (.int ii), .val (.int jj), .val (.int kk), .val (.ref t), .unset, .unset, .unset, .unset] [(.long p6), (.int jj), (.ref t)])) _
    refine st3.trans ?_
    show Steps p.tables e below (T3.setTop (mkF m 55 #[.val (.int p1), .val (.int p2), .val (.int p3), .val (.int p4), .val (.long p5), .second, .val (.long p6), .second, .val (.int nn), .val (.int ii), .val (.int jj), .val (.int kk), .val (.ref t), .unset, .unset, .unset, .unset] [])) _
    refine XS.aload X3.here hx rfl (hb hby at_55) rfl rfl ?_
    show Steps p.tables e below (T3.setTop (mkF m 57 #[.val (.int p1), .val (.int p2), .val (.int p3), .val (.int p4), .val (.long p5), .second, .val (.long p6), .second, .val (.int nn), .val (.int ii), .val (.int jj), .val (.int kk), .val (.ref t), .unset, .unset, .unset, .unset] [(.ref t)])) _
    refine XS.iload X3.here hx rfl (hb hby at_57) rfl ?_
    show Steps p.tables e below (T3.setTop (mkF m 59 #[.val (.int p1), .val (.int p2), .val (.int p3), .val (.int p4), .val (.long p5), .second, .val (.long p6), .second, .val (.int nn), .val (.int ii), .val (.int jj), .val (.int kk), .val (.ref t), .unset, .unset, .unset, .unset] [(.int ii), (.ref t)])) _
    refine XS.lload X3.here hx rfl (hb hby at_59) rfl ?_
    show Steps p.tables e below (T3.setTop (mkF m 61 #[.val (.int p1), .val (.int p2), .val (.int p3), .val (.int p4), .val (.long p5), .second, .val (.long p6), .second, .val (.int nn), .val (.int ii), .val (.int jj), .val (.int kk), .val (.ref t), .unset, .unset, .unset, .unset] [(.long p5), (.int ii), (.ref t)])) _
    refine st4.trans ?_
    show Steps p.tables e below (T4.setTop (mkF m 64 #[.val (.int p1), .val (.int p2), .val (.int p3), .val (.int p4), .val (.long p5), .second, .val (.long p6), .second, .val (.int nn), .val (.int ii), .val (.int jj), .val (.int kk), .val (.ref t), .unset, .unset, .unset, .unset] [])) _
    refine XS.iload X4.here hx rfl (hb hby at_64) rfl ?_
    show Steps p.tables e below (T4.setTop (mkF m 66 #[.val (.int p1), .val (.int p2), .val (.int p3), .val (.int p4), .val (.long p5), .second, .val (.long p6), .second, .val (.int nn), .val (.int ii), .val (.int jj), .val (.int kk), .val (.ref t), .unset, .unset, .unset, .unset] [(.int jj)])) _
    refine XS.iload X4.here hx rfl (hb hby at_66) rfl ?_
    show Steps p.tables e below (T4.setTop (mkF m 68 #[.val (.int p1), .val (.int p2), .val (.int p3), .val (.int p4), .val (.long p5), .second, .val (.long p6), .second, .val (.int nn), .val (.int ii), .val (.int jj), .val (.int kk), .val (.ref t), .unset, .unset, .unset, .unset] [(.int ii), (.int jj)])) _
    refine XS.icmpYes X4.here hx rfl (pc0 := 68) (pc' := 76) rfl (hb hby at_68) rfl (feq hji).2 (by decide) (by decide) ?_
    show Steps p.tables e below (T4.setTop (mkF m 76 #[.val (.int p1), .val (.int p2), .val (.int p3), .val (.int p4), .val (.long p5), .second, .val (.long p6), .second, .val (.int nn), .val (.int ii), .val (.int jj), .val (.int kk), .val (.ref t), .unset, .unset, .unset, .unset] [])) _
    refine XS.lload X4.here hx rfl (hb hby at_76) rfl ?_
    show Steps p.tables e below (T4.setTop (mkF m 78 #[.val (.int p1), .val (.int p2), .val (.int p3), .val (.int p4), .val (.long p5), .second, .val (.long p6), .second, .val (.int nn), .val (.int ii), .val (.int jj), .val (.int kk), .val (.ref t), .unset, .unset, .unset, .unset] [(.long p6)])) _
    refine XS.lstore X4.here hx rfl (hb hby at_78) rfl (l' := #[.val (.int p1), .val (.int p2), .val (.int p3), .val (.int p4), .val (.long p5), .second, .val (.long p6), .second, .val (.int nn), .val (.int ii), .val (.int jj), .val (.int kk), .val (.ref t), .val (.long p6), .second, .unset, .unset]) rfl ?_
    show Steps p.tables e below (T4.setTop (mkF m 80 #[.val (.int p1), .val (.int p2), .val (.int p3), .val (.int p4), .val (.long p5), .second, .val (.long p6), .second, .val (.int nn), .val (.int ii), .val (.int jj), .val (.int kk), .val (.ref t), .val (.long p6), .second, .unset, .unset] [])) _
    refine XS.iload X4.here hx rfl (hb hby at_80) rfl ?_
    show Steps p.tables e below (T4.setTop (mkF m 82 #[.val (.int p1), .val (.int p2), .val (.int p3), .val (.int p4), .val (.long p5), .second, .val (.long p6), .second, .val (.int nn), .val (.int ii), .val (.int jj), .val (.int kk), .val (.ref t), .val (.long p6), .second, .unset, .unset] [(.int kk)])) _
    refine XS.iload X4.here hx rfl (hb hby at_82) rfl ?_
    show Steps p.tables e below (T4.setTop (mkF m 84 #[.val (.int p1), .val (.int p2), .val (.int p3), .val (.int p4), .val (.long p5), .second, .val (.long p6), .second, .val (.int nn), .val (.int ii), .val (.int jj), .val (.int kk), .val (.ref t), .val (.long p6), .second, .unset, .unset] [(.int ii), (.int kk)])) _
    refine XS.icmpNo X4.here hx rfl (hb hby at_84) rfl (teq hki).2 ?_
    show Steps p.tables e below (T4.setTop (mkF m 87 #[.val (.int p1), .val (.int p2), .val (.int p3), .val (.int p4), .val (.long p5), .second, .val (.long p6), .second, .val (.int nn), .val (.int ii), .val (.int jj), .val (.int kk), .val (.ref t), .val (.long p6), .second, .unset, .unset] [])) _
    refine XS.lload X4.here hx rfl (hb hby at_87) rfl ?_
    show Steps p.tables e below (T4.setTop (mkF m 89 #[.val (.int p1), .val (.int p2), .val (.int p3), .val (.int p4), .val (.long p5), .second, .val (.long p6), .second, .val (.int nn), .val (.int ii), .val (.int jj), .val (.int kk), .val (.ref t), .val (.long p6), .second, .unset, .unset] [(.long p5)])) _
    refine XS.lstore X4.here hx rfl (hb hby at_89) rfl (l' := #[.val (.int p1), .val (.int p2), .val (.int p3), .val (.int p4), .val (.long p5), .second, .val (.long p6), .second, .val (.int nn), .val (.int ii), .val (.int jj), .val (.int kk), .val (.ref t), .val (.long p6), .second, .val (.long p5), .second]) rfl ?_
    show Steps p.tables e below (T4.setTop (mkF m 91 #[.val (.int p1), .val (.int p2), .val (.int p3), .val (.int p4), .val (.long p5), .second, .val (.long p6), .second, .val (.int nn), .val (.int ii), .val (.int jj), .val (.int kk), .val (.ref t), .val (.long p6), .second, .val (.long p5), .second] [])) _
    refine XS.goto X4.here hx rfl (pc0 := 91) (pc' := 111) rfl (hb hby at_91) (by decide) (by decide) ?_
    show Steps p.tables e below (T4.setTop (mkF m 111 #[.val (.int p1), .val (.int p2), .val (.int p3), .val (.int p4), .val (.long p5), .second, .val (.long p6), .second, .val (.int nn), .val (.int ii), .val (.int jj), .val (.int kk), .val (.ref t), .val (.long p6), .second, .val (.long p5), .second] [])) _
    refine XS.aload X4.here hx rfl (hb hby at_111) rfl rfl ?_
    show Steps p.tables e below (T4.setTop (mkF m 113 #[.val (.int p1), .val (.int p2), .val (.int p3), .val (.int p4), .val (.long p5), .second, .val (.long p6), .second, .val (.int nn), .val (.int ii), .val (.int jj), .val (.int kk), .val (.ref t), .val (.long p6), .second, .val (.long p5), .second] [(.ref t)])) _
    refine XS.iload X4.here hx rfl (hb hby at_113) rfl ?_
    show Steps p.tables e below (T4.setTop (mkF m 115 #[.val (.int p1), .val (.int p2), .val (.int p3), .val (.int p4), .val (.long p5), .second, .val (.long p6), .second, .val (.int nn), .val (.int ii), .val (.int jj), .val (.int kk), .val (.ref t), .val (.long p6), .second, .val (.long p5), .second] [(.int ii), (.ref t)])) _
    refine st5.trans ?_
    show Steps p.tables e below (T5.setTop (mkF m 118 #[.val (.int p1), .val (.int p2), .val (.int p3), .val (.int p4), .val (.long p5), .second, .val (.long p6), .second, .val (.int nn), .val (.int ii), .val (.int jj), .val (.int kk), .val (.ref t), .val (.long p6), .second, .val (.long p5), .second] [(.long p5)])) _
    refine XS.lload X5.here hx rfl (hb hby at_118) rfl ?_
    show Steps p.tables e below (T5.setTop (mkF m 120 #[.val (.int p1), .val (.int p2), .val (.int p3), .val (.int p4), .val (.long p5), .second, .val (.long p6), .second, .val (.int nn), .val (.int ii), .val (.int jj), .val (.int kk), .val (.ref t), .val (.long p6), .second, .val (.long p5), .second] [(.long p5), (.long p5)])) _
    refine XS.lcmp X5.here hx rfl (hb hby at_120) rfl ?_
    show Steps p.tables e below (T5.setTop (mkF m 121 #[.val (.int p1), .val (.int p2), .val (.int p3), .val (.int p4), .val (.long p5), .second, .val (.long p6), .second, .val (.int nn), .val (.int ii), .val (.int jj), .val (.int kk), .val (.ref t), .val (.long p6), .second, .val (.long p5), .second] [(.int (lcmpW p5 p5))])) _
    refine XS.ifNo X5.here hx rfl (hb hby at_121) rfl ((if0 _ _).trans (teq (own_lc0 p5)).2) ?_
    show Steps p.tables e below (T5.setTop (mkF m 124 #[.val (.int p1), .val (.int p2), .val (.int p3), .val (.int p4), .val (.long p5), .second, .val (.long p6), .second, .val (.int nn), .val (.int ii), .val (.int jj), .val (.int kk), .val (.ref t), .val (.long p6), .second, .val (.long p5), .second] [])) _
    refine XS.aload X5.here hx rfl (hb hby at_124) rfl rfl ?_
    show Steps p.tables e below (T5.setTop (mkF m 126 #[.val (.int p1), .val (.int p2), .val (.int p3), .val (.int p4), .val (.long p5), .second, .val (.long p6), .second, .val (.int nn), .val (.int ii), .val (.int jj), .val (.int kk), .val (.ref t), .val (.long p6), .second, .val (.long p5), .second] [(.ref t)])) _
    refine XS.iload X5.here hx rfl (hb hby at_126) rfl ?_
    show Steps p.tables e below (T5.setTop (mkF m 128 #[.val (.int p1), .val (.int p2), .val (.int p3), .val (.int p4), .val (.long p5), .second, .val (.long p6), .second, .val (.int nn), .val (.int ii), .val (.int jj), .val (.int kk), .val (.ref t), .val (.long p6), .second, .val (.long p5), .second] [(.int jj), (.ref t)])) _
    refine st6.trans ?_
    show Steps p.tables e below (T6.setTop (mkF m 131 #[.val (.int p1), .val (.int p2), .val (.int p3), .val (.int p4), .val (.long p5), .second, .val (.long p6), .second, .val (.int nn), .val (.int ii), .val (.int jj), .val (.int kk), .val (.ref t), .val (.long p6), .second, .val (.long p5), .second] [(.long p6)])) _
    refine XS.lload X6.here hx rfl (hb hby at_131) rfl ?_
    show Steps p.tables e below (T6.setTop (mkF m 133 #[.val (.int p1), .val (.int p2), .val (.int p3), .val (.int p4), .val (.long p5), .second, .val (.long p6), .second, .val (.int nn), .val (.int ii), .val (.int jj), .val (.int kk), .val (.ref t), .val (.long p6), .second, .val (.long p5), .second] [(.long p6), (.long p6)])) _
    refine XS.lcmp X6.here hx rfl (hb hby at_133) rfl ?_
    show Steps p.tables e below (T6.setTop (mkF m 134 #[.val (.int p1), .val (.int p2), .val (.int p3), .val (.int p4), .val (.long p5), .second, .val (.long p6), .second, .val (.int nn), .val (.int ii), .val (.int jj), .val (.int kk), .val (.ref t), .val (.long p6), .second, .val (.long p5), .second] [(.int (lcmpW p6 p6))])) _
    refine XS.ifNo X6.here hx rfl (hb hby at_134) rfl ((if0 _ _).trans (teq (own_lc0 p6)).2) ?_
    show Steps p.tables e below (T6.setTop (mkF m 137 #[.val (.int p1), .val (.int p2), .val (.int p3), .val (.int p4), .val (.long p5), .second, .val (.long p6), .second, .val (.int nn), .val (.int ii), .val (.int jj), .val (.int kk), .val (.ref t), .val (.long p6), .second, .val (.long p5), .second] [])) _
    refine XS.aload X6.here hx rfl (hb hby at_137) rfl rfl ?_
    show Steps p.tables e below (T6.setTop (mkF m 139 #[.val (.int p1), .val (.int p2), .val (.int p3), .val (.int p4), .val (.long p5), .second, .val (.long p6), .second, .val (.int nn), .val (.int ii), .val (.int jj), .val (.int kk), .val (.ref t), .val (.long p6), .second, .val (.long p5), .second] [(.ref t)])) _
    refine XS.iload X6.here hx rfl (hb hby at_139) rfl ?_
    show Steps p.tables e below (T6.setTop (mkF m 141 #[.val (.int p1), .val (.int p2), .val (.int p3), .val (.int p4), .val (.long p5), .second, .val (.long p6), .second, .val (.int nn), .val (.int ii), .val (.int jj), .val (.int kk), .val (.ref t), .val (.long p6), .second, .val (.long p5), .second] [(.int kk), (.ref t)])) _
    refine st7.trans ?_
    show Steps p.tables e below (T7.setTop (mkF m 144 #[.val (.int p1), .val (.int p2), .val (.int p3), .val (.int p4), .val (.long p5), .second, .val (.long p6), .second, .val (.int nn), .val (.int ii), .val (.int jj), .val (.int kk), .val (.ref t), .val (.long p6), .second, .val (.long p5), .second] [(.long p5)])) _
    refine XS.lload X7.here hx rfl (hb hby at_144) rfl ?_
    show Steps p.tables e below (T7.setTop (mkF m 146 #[.val (.int p1), .val (.int p2), .val (.int p3), .val (.int p4), .val (.long p5), .second, .val (.long p6), .second, .val (.int nn), .val (.int ii), .val (.int jj), .val (.int kk), .val (.ref t), .val (.long p6), .second, .val (.long p5), .second] [(.long p5), (.long p5)])) _
    refine XS.lcmp X7.here hx rfl (hb hby at_146) rfl ?_
    show Steps p.tables e below (T7.setTop (mkF m 147 #[.val (.int p1), .val (.int p2), .val (.int p3), .val (.int p4), .val (.long p5), .second, .val (.long p6), .second, .val (.int nn), .val (.int ii), .val (.int jj), .val (.int kk), .val (.ref t), .val (.long p6), .second, .val (.long p5), .second] [(.int (lcmpW p5 p5))])) _
    refine XS.ifNo X7.here hx rfl (hb hby at_147) rfl ((if0 _ _).trans (teq (own_lc0 p5)).2) ?_
    show Steps p.tables e below (T7.setTop (mkF m 150 #[.val (.int p1), .val (.int p2), .val (.int p3), .val (.int p4), .val (.long p5), .second, .val (.long p6), .second, .val (.int nn), .val (.int ii), .val (.int jj), .val (.int kk), .val (.ref t), .val (.long p6), .second, .val (.long p5), .second] [])) _
    refine XS.aload X7.here hx rfl (hb hby at_150) rfl rfl ?_
    show Steps p.tables e below (T7.setTop (mkF m 152 #[.val (.int p1), .val (.int p2), .val (.int p3), .val (.int p4), .val (.long p5), .second, .val (.long p6), .second, .val (.int nn), .val (.int ii), .val (.int jj), .val (.int kk), .val (.ref t), .val (.long p6), .second, .val (.long p5), .second] [(.ref t)])) _
    refine st8.trans ?_
    show Steps p.tables e below (T8.setTop (mkF m 155 #[.val (.int p1), .val (.int p2), .val (.int p3), .val (.int p4), .val (.long p5), .second, .val (.long p6), .second, .val (.int nn), .val (.int ii), .val (.int jj), .val (.int kk), .val (.ref t), .val (.long p6), .second, .val (.long p5), .second] [(.int nn)])) _
    refine XS.iload X8.here hx rfl (hb hby at_155) rfl ?_
    show Steps p.tables e below (T8.setTop (mkF m 157 #[.val (.int p1), .val (.int p2), .val (.int p3), .val (.int p4), .val (.long p5), .second, .val (.long p6), .second, .val (.int nn), .val (.int ii), .val (.int jj), .val (.int kk), .val (.ref t), .val (.long p6), .second, .val (.long p5), .second] [(.int nn), (.int nn)])) _
    refine XS.icmpNo X8.here hx rfl (hb hby at_157) rfl (teq (rfl : nn = nn)).2 ?_
    show Steps p.tables e below (T8.setTop (mkF m 160 #[.val (.int p1), .val (.int p2), .val (.int p3), .val (.int p4), .val (.long p5), .second, .val (.long p6), .second, .val (.int nn), .val (.int ii), .val (.int jj), .val (.int kk), .val (.ref t), .val (.long p6), .second, .val (.long p5), .second] [])) _
    refine XS.iconst X8.here hx rfl (hb hby at_160) ?_
    show Steps p.tables e below (T8.setTop (mkF m 161 #[.val (.int p1), .val (.int p2), .val (.int p3), .val (.int p4), .val (.long p5), .second, .val (.long p6), .second, .val (.int nn), .val (.int ii), .val (.int jj), .val (.int kk), .val (.ref t), .val (.long p6), .second, .val (.long p5), .second] [(.int (1 : Int32))])) _
    refine XS.goto X8.here hx rfl (pc0 := 161) (pc' := 165) rfl (hb hby at_161) (by decide) (by decide) ?_
    show Steps p.tables e below (T8.setTop (mkF m 165 #[.val (.int p1), .val (.int p2), .val (.int p3), .val (.int p4), .val (.long p5), .second, .val (.long p6), .second, .val (.int nn), .val (.int ii), .val (.int jj), .val (.int kk), .val (.ref t), .val (.long p6), .second, .val (.long p5), .second] [(.int (1 : Int32))])) _
    exact retN X8 hx (t := .boolean) Bd.returns (by simp) (hb hby at_165) hr
  · exact ⟨rfl, N8⟩
set_option maxRecDepth 65536 in
set_option maxHeartbeats 40000000 in
theorem rmLaw3 (l : Launch) (Z : State) (a0 : Array Value) (hw : ∀ d ∈ tables_1, d.before a0 Z = true) (ws : List Jvm.Cond) (p1 : Int32) (p2 : Int32) (p3 : Int32) (p4 : Int32) (p5 : Int64) (p6 : Int64) (nn : Int32) (ii : Int32) (jj : Int32) (kk : Int32) (h0 : Heap) (n0 : Nat) (Z0 : n0 ≤ h0.size) (hS : WdL Z h0 p1 p2 p3 p4 p5 p6 nn ii jj kk) (hnn : ((1 : Int32) + (p1 &&& (131071 : Int32))) = nn) (hii : ((p2 &&& (2147483647 : Int32)) % nn) = ii) (hjj : ((p3 &&& (2147483647 : Int32)) % nn) = jj) (hkk : ((p4 &&& (2147483647 : Int32)) % nn) = kk) (hn1 : 1 ≤ nn.toInt) (hn2 : nn.toInt ≤ 131072) (hii0 : 0 ≤ ii.toInt) (hiin : ii.toInt < nn.toInt) (hjj0 : 0 ≤ jj.toInt) (hjjn : jj.toInt < nn.toInt) (hkk0 : 0 ≤ kk.toInt) (hkkn : kk.toInt < nn.toInt) (hji : ¬ (jj = ii)) (hki : ¬ (kk = ii)) (hkj : kk = jj) :
    MetFree l x (head1 (Jvm.Cond.code x code maxLocals ret :: ws) room_1) (fun a U => a = #[(.int p1), (.int p2), (.int p3), (.int p4), (.long p5), (.long p6)] ∧ Z.Warmed39 U.vm ∧ U.heap = h0) (fun _ _ _ _ _ => True) (fun _ U o U' => ∃ v L, o = .returned v ∧ Q0 n0 v L ∧ FrameEnd U o U' L room_1.cells room_1.slots) := by
  refine MetFree.of_bodySF (plainFor_of_name pn_com_example_reachmark_reachmark_label_IntervalsSetPinLaw) hisR ?_
  intro p e s m args below meth c s₁ Bd hml0 hP hK
  obtain ⟨rfl, hZ, hh⟩ := hP
  have hx := Bd.exec
  have hby := Bd.bytes
  have hml : c.maxLocals = 17 := hml0
  have hown : s.vm.findClass "com/example/reachmark/reachmark/label/IntervalsSetPinLaw" = some m.cls := findClass_of_methodNamed Bd.named
  have X0 : Stand p l e room_1 s m #[(.int p1), (.int p2), (.int p3), (.int p4), (.long p5), (.long p6)] below meth c s₁ [] 0 0 := Stand.of_body Bd
  have e0 : s₁.heap = h0 := by rw [← hh, Bd.state]; rfl
  have N0 := Fr.nil n0
  have pre0 : ∀ t, Steps p.tables e below (s₁.setTop (mkF m 0 #[.val (.int p1), .val (.int p2), .val (.int p3), .val (.int p4), .val (.long p5), .second, .val (.long p6), .second, .unset, .unset, .unset, .unset, .unset, .unset, .unset, .unset, .unset] [])) t → Steps p.tables e below (s₁.setTop (entryFrame m #[(.int p1), (.int p2), (.int p3), (.int p4), (.long p5), (.long p6)] maxLocals)) t := fun t k => castTop (by first | (simp [entryFrame, mkF, argsToLocals, Value.category, maxLocals]; done) | rfl) k
  obtain ⟨T1, h1, X1, e1, E1, A1, D1, -, st1⟩ := newO X0 hx hZ hown (hw _ (List.mem_of_getElem? (i := 2) rfl)) (hw _ (List.mem_of_getElem? (i := 3) rfl)) (hw _ (List.mem_of_getElem? (i := 4) rfl)) e0 (g := (mkF m 35 #[.val (.int p1), .val (.int p2), .val (.int p3), .val (.int p4), .val (.long p5), .second, .val (.long p6), .second, .val (.int nn), .val (.int ii), .val (.int jj), .val (.int kk), .unset, .unset, .unset, .unset, .unset] [])) rfl (hb hby at_35) (by decide) (by decide)
  obtain ⟨t, gt⟩ : ∃ z, z = h0.size := ⟨_, rfl⟩
  rw [← gt] at A1 D1 st1
  have F_ch : Fld Z h1 t "com/example/reachmark/reachmark/label/Intervals" "chunks" "[[J" .null := D1 (Or.inl (hw _ (List.mem_of_getElem? (i := 19) rfl))) (ty := (.array (.array .long))) (by decide)
  have F_sz : Fld Z h1 t "com/example/reachmark/reachmark/label/Intervals" "size" "I" (.int (0 : Int32)) := D1 (Or.inl (hw _ (List.mem_of_getElem? (i := 27) rfl))) (ty := .int) (by decide)
  have Z1 : n0 ≤ h1.size := Nat.le_trans Z0 E1.1
  have g_t : n0 ≤ t := Nat.le_trans Z0 (Nat.le_of_eq gt.symm)
  obtain ⟨_, _, ⟨T2, L2, k2, n2⟩, -, X2, ⟨Lc2, hQ2, l2, y2, z2⟩, st2⟩ := X1.specialBack hx (y := (⟨"com/example/reachmark/reachmark/label/Intervals", "<init>", "(I)V"⟩ : MethodName)) rfl hown (mvT hZ (hw _ (List.mem_of_getElem? (i := 5) rfl))) (mvT hZ (hw _ (List.mem_of_getElem? (i := 6) rfl))) (mvT hZ (hw _ (List.mem_of_getElem? (i := 7) rfl))) (by decide) (backOf (W := 1) (rmInit l Z a0 hw [] t nn h1 n0 Z1 A1 F_ch F_sz g_t hn1 hn2) hZ (hw _ (List.mem_of_getElem? (i := 7) rfl)) (hw _ (List.mem_of_getElem? (i := 4) rfl)) (by decide) (by decide)) (g := (mkF m 41 #[.val (.int p1), .val (.int p2), .val (.int p3), .val (.int p4), .val (.long p5), .second, .val (.long p6), .second, .val (.int nn), .val (.int ii), .val (.int jj), .val (.int kk), .unset, .unset, .unset, .unset, .unset] [(.int nn), (.ref t), (.ref t)])) rfl (by rw [hml]; rfl) (Steps.refl _) (a := t) (argsL := [(.int nn)]) (rest := [(.ref t)]) (lenOf pd_1 rfl) rfl (by show 2 * 0 + _ ≤ _; exact Nat.le_of_eq rfl) (hb hby at_41) (fun _ _ => ⟨rfl, e1, (by decide : 1 + 5 ≤ _), (by decide : 2 + 131076 ≤ _)⟩)
  dsimp only [Pt.U, Pt.locs, Pt.cells, Pt.slots] at X2 l2 y2 z2 st2 hQ2
  subst l2 y2 z2
  obtain ⟨rfl, N2q, -, ch, cs, I2⟩ := hQ2
  have N2 := Fr.app N0 N2q
  obtain ⟨cq3, kq3, q3a, q3b, q3c⟩ := isOf hZ rfl I2.1
  obtain ⟨_, _, ⟨T3, L3, k3, n3⟩, -, X3, ⟨Lc3, hQ3, l3, y3, z3⟩, st3⟩ := X2.virtualBack hx (y := (⟨"com/example/reachmark/reachmark/label/Intervals", "set", "(IJ)V"⟩ : MethodName)) (z := (⟨"com/example/reachmark/reachmark/label/Intervals", "set", "(IJ)V"⟩ : MethodName)) hown (mvT hZ (hw _ (List.mem_of_getElem? (i := 28) rfl))) (mvT hZ (hw _ (List.mem_of_getElem? (i := 29) rfl))) (notFace_of_selects (args := #[]) (mvT hZ (hw _ (List.mem_of_getElem? (i := 31) rfl)))) (mvT hZ (hw _ (List.mem_of_getElem? (i := 31) rfl))) (mvT hZ (hw _ (List.mem_of_getElem? (i := 30) rfl))) (by decide) (backOf (W := 0) (rm_set l Z a0 hw [] t ch nn cs (fun _ => 0) jj p6 T2.heap n0 I2 hjj0 hjjn) hZ (hw _ (List.mem_of_getElem? (i := 32) rfl)) (hw _ (List.mem_of_getElem? (i := 4) rfl)) (by decide) (by decide)) q3a q3c (g := (mkF m 52 #[.val (.int p1), .val (.int p2), .val (.int p3), .val (.int p4), .val (.long p5), .second, .val (.long p6), .second, .val (.int nn), .val (.int ii), .val (.int jj), .val (.int kk), .val (.ref t), .unset, .unset, .unset, .unset] [(.long p6), (.int jj), (.ref t)])) rfl (by rw [hml]; rfl) (Steps.refl _) (argsL := [(.int jj), (.long p6)]) (rest := []) (lenOf pd_2 rfl) rfl (by show 2 * 0 + _ ≤ _; exact Nat.le_of_eq rfl) (hb hby at_52) (fun _ _ => ⟨rfl, rfl, (by decide : 6 + 0 ≤ _), (by decide : 131078 + 0 ≤ _)⟩)
  dsimp only [Pt.U, Pt.locs, Pt.cells, Pt.slots] at X3 l3 y3 z3 st3 hQ3
  subst l3 y3 z3
  obtain ⟨rfl, N3q, I3⟩ := hQ3
  have N3 := Fr.app N2 N3q
  obtain ⟨cq4, kq4, q4a, q4b, q4c⟩ := isOf hZ rfl I3.1
  obtain ⟨_, _, ⟨T4, L4, k4, n4⟩, -, X4, ⟨Lc4, hQ4, l4, y4, z4⟩, st4⟩ := X3.virtualBack hx (y := (⟨"com/example/reachmark/reachmark/label/Intervals", "set", "(IJ)V"⟩ : MethodName)) (z := (⟨"com/example/reachmark/reachmark/label/Intervals", "set", "(IJ)V"⟩ : MethodName)) hown (mvT hZ (hw _ (List.mem_of_getElem? (i := 28) rfl))) (mvT hZ (hw _ (List.mem_of_getElem? (i := 29) rfl))) (notFace_of_selects (args := #[]) (mvT hZ (hw _ (List.mem_of_getElem? (i := 31) rfl)))) (mvT hZ (hw _ (List.mem_of_getElem? (i := 31) rfl))) (mvT hZ (hw _ (List.mem_of_getElem? (i := 30) rfl))) (by decide) (backOf (W := 0) (rm_set l Z a0 hw [] t ch nn cs (own_upd (fun _ => 0) jj p6) ii p5 T3.heap n0 I3 hii0 hiin) hZ (hw _ (List.mem_of_getElem? (i := 32) rfl)) (hw _ (List.mem_of_getElem? (i := 4) rfl)) (by decide) (by decide)) q4a q4c (g := (mkF m 61 #[.val (.int p1), .val (.int p2), .val (.int p3), .val (.int p4), .val (.long p5), .second, .val (.long p6), .second, .val (.int nn), .val (.int ii), .val (.int jj), .val (.int kk), .val (.ref t), .unset, .unset, .unset, .unset] [(.long p5), (.int ii), (.ref t)])) rfl (by rw [hml]; rfl) (Steps.refl _) (argsL := [(.int ii), (.long p5)]) (rest := []) (lenOf pd_2 rfl) rfl (by show 2 * 0 + _ ≤ _; exact Nat.le_of_eq rfl) (hb hby at_61) (fun _ _ => ⟨rfl, rfl, (by decide : 6 + 0 ≤ _), (by decide : 131078 + 0 ≤ _)⟩)
  dsimp only [Pt.U, Pt.locs, Pt.cells, Pt.slots] at X4 l4 y4 z4 st4 hQ4
  subst l4 y4 z4
  obtain ⟨rfl, N4q, I4⟩ := hQ4
  have N4 := Fr.app N3 N4q
  obtain ⟨cq5, kq5, q5a, q5b, q5c⟩ := isOf hZ rfl I4.1
  obtain ⟨_, _, ⟨T5, L5, k5, n5⟩, -, X5, ⟨Lc5, hQ5, l5, y5, z5⟩, st5⟩ := X4.virtualBack hx (y := (⟨"com/example/reachmark/reachmark/label/Intervals", "get", "(I)J"⟩ : MethodName)) (z := (⟨"com/example/reachmark/reachmark/label/Intervals", "get", "(I)J"⟩ : MethodName)) hown (mvT hZ (hw _ (List.mem_of_getElem? (i := 33) rfl))) (mvT hZ (hw _ (List.mem_of_getElem? (i := 34) rfl))) (notFace_of_selects (args := #[]) (mvT hZ (hw _ (List.mem_of_getElem? (i := 36) rfl)))) (mvT hZ (hw _ (List.mem_of_getElem? (i := 36) rfl))) (mvT hZ (hw _ (List.mem_of_getElem? (i := 35) rfl))) (by decide) (backOf (W := 0) (rm_get l Z a0 hw [] t ch nn cs (own_upd (own_upd (fun _ => 0) jj p6) ii p5) ii p5 T4.heap n0 I4 hii0 hiin (by rw [own_upd_at _ _ _ _ hii0 hii0, own_upd_at _ _ _ _ hjj0 hii0]; simp [])) hZ (hw _ (List.mem_of_getElem? (i := 37) rfl)) (hw _ (List.mem_of_getElem? (i := 4) rfl)) (by decide) (by decide)) q5a q5c (g := (mkF m 115 #[.val (.int p1), .val (.int p2), .val (.int p3), .val (.int p4), .val (.long p5), .second, .val (.long p6), .second, .val (.int nn), .val (.int ii), .val (.int jj), .val (.int kk), .val (.ref t), .val (.long p6), .second, .val (.long p6), .second] [(.int ii), (.ref t)])) rfl (by rw [hml]; rfl) (Steps.refl _) (argsL := [(.int ii)]) (rest := []) (lenOf pd_3 rfl) rfl (by show 2 * 0 + _ ≤ _; exact Nat.le_of_eq rfl) (hb hby at_115) (fun _ _ => ⟨rfl, rfl, (by decide : 6 + 0 ≤ _), (by decide : 131078 + 0 ≤ _)⟩)
  dsimp only [Pt.U, Pt.locs, Pt.cells, Pt.slots] at X5 l5 y5 z5 st5 hQ5
  subst l5 y5 z5
  obtain ⟨rfl, N5q, e5⟩ := hQ5
  have N5 := Fr.app N4 N5q
  obtain ⟨cq6, kq6, q6a, q6b, q6c⟩ := isOf hZ e5 I4.1
  obtain ⟨_, _, ⟨T6, L6, k6, n6⟩, -, X6, ⟨Lc6, hQ6, l6, y6, z6⟩, st6⟩ := X5.virtualBack hx (y := (⟨"com/example/reachmark/reachmark/label/Intervals", "get", "(I)J"⟩ : MethodName)) (z := (⟨"com/example/reachmark/reachmark/label/Intervals", "get", "(I)J"⟩ : MethodName)) hown (mvT hZ (hw _ (List.mem_of_getElem? (i := 33) rfl))) (mvT hZ (hw _ (List.mem_of_getElem? (i := 34) rfl))) (notFace_of_selects (args := #[]) (mvT hZ (hw _ (List.mem_of_getElem? (i := 36) rfl)))) (mvT hZ (hw _ (List.mem_of_getElem? (i := 36) rfl))) (mvT hZ (hw _ (List.mem_of_getElem? (i := 35) rfl))) (by decide) (backOf (W := 0) (rm_get l Z a0 hw [] t ch nn cs (own_upd (own_upd (fun _ => 0) jj p6) ii p5) jj p6 T4.heap n0 I4 hjj0 hjjn (by rw [own_upd_at _ _ _ _ hii0 hjj0, own_upd_at _ _ _ _ hjj0 hjj0]; simp [hji])) hZ (hw _ (List.mem_of_getElem? (i := 37) rfl)) (hw _ (List.mem_of_getElem? (i := 4) rfl)) (by decide) (by decide)) q6a q6c (g := (mkF m 128 #[.val (.int p1), .val (.int p2), .val (.int p3), .val (.int p4), .val (.long p5), .second, .val (.long p6), .second, .val (.int nn), .val (.int ii), .val (.int jj), .val (.int kk), .val (.ref t), .val (.long p6), .second, .val (.long p6), .second] [(.int jj), (.ref t)])) rfl (by rw [hml]; rfl) (Steps.refl _) (argsL := [(.int jj)]) (rest := []) (lenOf pd_3 rfl) rfl (by show 2 * 0 + _ ≤ _; exact Nat.le_of_eq rfl) (hb hby at_128) (fun _ _ => ⟨rfl, e5, (by decide : 6 + 0 ≤ _), (by decide : 131078 + 0 ≤ _)⟩)
  dsimp only [Pt.U, Pt.locs, Pt.cells, Pt.slots] at X6 l6 y6 z6 st6 hQ6
  subst l6 y6 z6
  obtain ⟨rfl, N6q, e6⟩ := hQ6
  have N6 := Fr.app N5 N6q
  obtain ⟨cq7, kq7, q7a, q7b, q7c⟩ := isOf hZ e6 I4.1
  obtain ⟨_, _, ⟨T7, L7, k7, n7⟩, -, X7, ⟨Lc7, hQ7, l7, y7, z7⟩, st7⟩ := X6.virtualBack hx (y := (⟨"com/example/reachmark/reachmark/label/Intervals", "get", "(I)J"⟩ : MethodName)) (z := (⟨"com/example/reachmark/reachmark/label/Intervals", "get", "(I)J"⟩ : MethodName)) hown (mvT hZ (hw _ (List.mem_of_getElem? (i := 33) rfl))) (mvT hZ (hw _ (List.mem_of_getElem? (i := 34) rfl))) (notFace_of_selects (args := #[]) (mvT hZ (hw _ (List.mem_of_getElem? (i := 36) rfl)))) (mvT hZ (hw _ (List.mem_of_getElem? (i := 36) rfl))) (mvT hZ (hw _ (List.mem_of_getElem? (i := 35) rfl))) (by decide) (backOf (W := 0) (rm_get l Z a0 hw [] t ch nn cs (own_upd (own_upd (fun _ => 0) jj p6) ii p5) kk p6 T4.heap n0 I4 hkk0 hkkn (by rw [own_upd_at _ _ _ _ hii0 hkk0, own_upd_at _ _ _ _ hjj0 hkk0]; simp [hji, hki, hkj])) hZ (hw _ (List.mem_of_getElem? (i := 37) rfl)) (hw _ (List.mem_of_getElem? (i := 4) rfl)) (by decide) (by decide)) q7a q7c (g := (mkF m 141 #[.val (.int p1), .val (.int p2), .val (.int p3), .val (.int p4), .val (.long p5), .second, .val (.long p6), .second, .val (.int nn), .val (.int ii), .val (.int jj), .val (.int kk), .val (.ref t), .val (.long p6), .second, .val (.long p6), .second] [(.int kk), (.ref t)])) rfl (by rw [hml]; rfl) (Steps.refl _) (argsL := [(.int kk)]) (rest := []) (lenOf pd_3 rfl) rfl (by show 2 * 0 + _ ≤ _; exact Nat.le_of_eq rfl) (hb hby at_141) (fun _ _ => ⟨rfl, e6, (by decide : 6 + 0 ≤ _), (by decide : 131078 + 0 ≤ _)⟩)
  dsimp only [Pt.U, Pt.locs, Pt.cells, Pt.slots] at X7 l7 y7 z7 st7 hQ7
  subst l7 y7 z7
  obtain ⟨rfl, N7q, e7⟩ := hQ7
  have N7 := Fr.app N6 N7q
  obtain ⟨cq8, kq8, q8a, q8b, q8c⟩ := isOf hZ e7 I4.1
  obtain ⟨_, _, ⟨T8, L8, k8, n8⟩, -, X8, ⟨Lc8, hQ8, l8, y8, z8⟩, st8⟩ := X7.virtualBack hx (y := (⟨"com/example/reachmark/reachmark/label/Intervals", "size", "()I"⟩ : MethodName)) (z := (⟨"com/example/reachmark/reachmark/label/Intervals", "size", "()I"⟩ : MethodName)) hown (mvT hZ (hw _ (List.mem_of_getElem? (i := 38) rfl))) (mvT hZ (hw _ (List.mem_of_getElem? (i := 39) rfl))) (notFace_of_selects (args := #[]) (mvT hZ (hw _ (List.mem_of_getElem? (i := 41) rfl)))) (mvT hZ (hw _ (List.mem_of_getElem? (i := 41) rfl))) (mvT hZ (hw _ (List.mem_of_getElem? (i := 40) rfl))) (by decide) (backOf (W := 0) (rm_size l Z a0 hw [] t ch nn cs (own_upd (own_upd (fun _ => 0) jj p6) ii p5) T4.heap n0 I4) hZ (hw _ (List.mem_of_getElem? (i := 42) rfl)) (hw _ (List.mem_of_getElem? (i := 4) rfl)) (by decide) (by decide)) q8a q8c (g := (mkF m 152 #[.val (.int p1), .val (.int p2), .val (.int p3), .val (.int p4), .val (.long p5), .second, .val (.long p6), .second, .val (.int nn), .val (.int ii), .val (.int jj), .val (.int kk), .val (.ref t), .val (.long p6), .second, .val (.long p6), .second] [(.ref t)])) rfl (by rw [hml]; rfl) (Steps.refl _) (argsL := []) (rest := []) (lenOf pd_4 rfl) rfl (by show 2 * 0 + _ ≤ _; exact Nat.le_of_eq rfl) (hb hby at_152) (fun _ _ => ⟨rfl, e7, (by decide : 6 + 0 ≤ _), (by decide : 131078 + 0 ≤ _)⟩)
  dsimp only [Pt.U, Pt.locs, Pt.cells, Pt.slots] at X8 l8 y8 z8 st8 hQ8
  subst l8 y8 z8
  obtain ⟨rfl, N8q, e8⟩ := hQ8
  have N8 := Fr.app N7 N8q
  obtain ⟨fs, hr, hrun, hended, hW, hsame⟩ := X8.leave (v := some (.int (1 : Int32))) (fun h => by rw [Bd.returns] at h; cases h)
  refine ⟨_, _, pre0 _ ?_, hrun, hended, _, _, rfl, ?_, ⟨_, rfl⟩, hW, hsame.mono (by decide) (by decide)⟩
  · show Steps p.tables e below (s₁.setTop (mkF m 0 #[.val (.int p1), .val (.int p2), .val (.int p3), .val (.int p4), .val (.long p5), .second, .val (.long p6), .second, .unset, .unset, .unset, .unset, .unset, .unset, .unset, .unset, .unset] [])) _
    refine XS.iconst X0.here hx rfl (hb hby at_0) ?_
    show Steps p.tables e below (s₁.setTop (mkF m 1 #[.val (.int p1), .val (.int p2), .val (.int p3), .val (.int p4), .val (.long p5), .second, .val (.long p6), .second, .unset, .unset, .unset, .unset, .unset, .unset, .unset, .unset, .unset] [(.int (1 : Int32))])) _
    refine XS.iloadN X0.here hx rfl (hb hby at_1) rfl ?_
    show Steps p.tables e below (s₁.setTop (mkF m 2 #[.val (.int p1), .val (.int p2), .val (.int p3), .val (.int p4), .val (.long p5), .second, .val (.long p6), .second, .unset, .unset, .unset, .unset, .unset, .unset, .unset, .unset, .unset] [(.int p1), (.int (1 : Int32))])) _
    refine X0.ldcInt hx hown (mvT hZ (hw _ (List.mem_of_getElem? (i := 0) rfl))) (g := (mkF m 2 #[.val (.int p1), .val (.int p2), .val (.int p3), .val (.int p4), .val (.long p5), .second, .val (.long p6), .second, .unset, .unset, .unset, .unset, .unset, .unset, .unset, .unset, .unset] [(.int p1), (.int (1 : Int32))])) rfl (hb hby at_2) _ ?_
    show Steps p.tables e below (s₁.setTop (mkF m 4 #[.val (.int p1), .val (.int p2), .val (.int p3), .val (.int p4), .val (.long p5), .second, .val (.long p6), .second, .unset, .unset, .unset, .unset, .unset, .unset, .unset, .unset, .unset] [(.int (131071 : Int32)), (.int p1), (.int (1 : Int32))])) _
    refine XS.iand X0.here hx rfl (hb hby at_4) rfl ?_
    show Steps p.tables e below (s₁.setTop (mkF m 5 #[.val (.int p1), .val (.int p2), .val (.int p3), .val (.int p4), .val (.long p5), .second, .val (.long p6), .second, .unset, .unset, .unset, .unset, .unset, .unset, .unset, .unset, .unset] [(.int (p1 &&& (131071 : Int32))), (.int (1 : Int32))])) _
    refine XS.iadd X0.here hx rfl (hb hby at_5) rfl ?_
    rw [hnn]
    show Steps p.tables e below (s₁.setTop (mkF m 6 #[.val (.int p1), .val (.int p2), .val (.int p3), .val (.int p4), .val (.long p5), .second, .val (.long p6), .second, .unset, .unset, .unset, .unset, .unset, .unset, .unset, .unset, .unset] [(.int nn)])) _
    refine XS.istore X0.here hx rfl (hb hby at_6) rfl (l' := #[.val (.int p1), .val (.int p2), .val (.int p3), .val (.int p4), .val (.long p5), .second, .val (.long p6), .second, .val (.int nn), .unset, .unset, .unset, .unset, .unset, .unset, .unset, .unset]) rfl ?_
    show Steps p.tables e below (s₁.setTop (mkF m 8 #[.val (.int p1), .val (.int p2), .val (.int p3), .val (.int p4), .val (.long p5), .second, .val (.long p6), .second, .val (.int nn), .unset, .unset, .unset, .unset, .unset, .unset, .unset, .unset] [])) _
    refine XS.iloadN X0.here hx rfl (hb hby at_8) rfl ?_
    show Steps p.tables e below (s₁.setTop (mkF m 9 #[.val (.int p1), .val (.int p2), .val (.int p3), .val (.int p4), .val (.long p5), .second, .val (.long p6), .second, .val (.int nn), .unset, .unset, .unset, .unset, .unset, .unset, .unset, .unset] [(.int p2)])) _
    refine X0.ldcInt hx hown (mvT hZ (hw _ (List.mem_of_getElem? (i := 1) rfl))) (g := (mkF m 9 #[.val (.int p1), .val (.int p2), .val (.int p3), .val (.int p4), .val (.long p5), .second, .val (.long p6), .second, .val (.int nn), .unset, .unset, .unset, .unset, .unset, .unset, .unset, .unset] [(.int p2)])) rfl (hb hby at_9) _ ?_
    show Steps p.tables e below (s₁.setTop (mkF m 11 #[.val (.int p1), .val (.int p2), .val (.int p3), .val (.int p4), .val (.long p5), .second, .val (.long p6), .second, .val (.int nn), .unset, .unset, .unset, .unset, .unset, .unset, .unset, .unset] [(.int (2147483647 : Int32)), (.int p2)])) _
    refine XS.iand X0.here hx rfl (hb hby at_11) rfl ?_
    show Steps p.tables e below (s₁.setTop (mkF m 12 #[.val (.int p1), .val (.int p2), .val (.int p3), .val (.int p4), .val (.long p5), .second, .val (.long p6), .second, .val (.int nn), .unset, .unset, .unset, .unset, .unset, .unset, .unset, .unset] [(.int (p2 &&& (2147483647 : Int32)))])) _
    refine XS.iload X0.here hx rfl (hb hby at_12) rfl ?_
    show Steps p.tables e below (s₁.setTop (mkF m 14 #[.val (.int p1), .val (.int p2), .val (.int p3), .val (.int p4), .val (.long p5), .second, .val (.long p6), .second, .val (.int nn), .unset, .unset, .unset, .unset, .unset, .unset, .unset, .unset] [(.int nn), (.int (p2 &&& (2147483647 : Int32)))])) _
    refine Jvm.RoadKit.iremM (g := (mkF m 14 #[.val (.int p1), .val (.int p2), .val (.int p3), .val (.int p4), .val (.long p5), .second, .val (.long p6), .second, .val (.int nn), .unset, .unset, .unset, .unset, .unset, .unset, .unset, .unset] [(.int nn), (.int (p2 &&& (2147483647 : Int32)))])) X0 hx rfl (hb hby at_14) rfl (own_ne0 nn hn1) ?_
    rw [hii]
    show Steps p.tables e below (s₁.setTop (mkF m 15 #[.val (.int p1), .val (.int p2), .val (.int p3), .val (.int p4), .val (.long p5), .second, .val (.long p6), .second, .val (.int nn), .unset, .unset, .unset, .unset, .unset, .unset, .unset, .unset] [(.int ii)])) _
    refine XS.istore X0.here hx rfl (hb hby at_15) rfl (l' := #[.val (.int p1), .val (.int p2), .val (.int p3), .val (.int p4), .val (.long p5), .second, .val (.long p6), .second, .val (.int nn), .val (.int ii), .unset, .unset, .unset, .unset, .unset, .unset, .unset]) rfl ?_
    show Steps p.tables e below (s₁.setTop (mkF m 17 #[.val (.int p1), .val (.int p2), .val (.int p3), .val (.int p4), .val (.long p5), .second, .val (.long p6), .second, .val (.int nn), .val (.int ii), .unset, .unset, .unset, .unset, .unset, .unset, .unset] [])) _
    refine XS.iloadN X0.here hx rfl (hb hby at_17) rfl ?_
    show Steps p.tables e below (s₁.setTop (mkF m 18 #[.val (.int p1), .val (.int p2), .val (.int p3), .val (.int p4), .val (.long p5), .second, .val (.long p6), .second, .val (.int nn), .val (.int ii), .unset, .unset, .unset, .unset, .unset, .unset, .unset] [(.int p3)])) _
    refine X0.ldcInt hx hown (mvT hZ (hw _ (List.mem_of_getElem? (i := 1) rfl))) (g := (mkF m 18 #[.val (.int p1), .val (.int p2), .val (.int p3), .val (.int p4), .val (.long p5), .second, .val (.long p6), .second, .val (.int nn), .val (.int ii), .unset, .unset, .unset, .unset, .unset, .unset, .unset] [(.int p3)])) rfl (hb hby at_18) _ ?_
    show Steps p.tables e below (s₁.setTop (mkF m 20 #[.val (.int p1), .val (.int p2), .val (.int p3), .val (.int p4), .val (.long p5), .second, .val (.long p6), .second, .val (.int nn), .val (.int ii), .unset, .unset, .unset, .unset, .unset, .unset, .unset] [(.int (2147483647 : Int32)), (.int p3)])) _
    refine XS.iand X0.here hx rfl (hb hby at_20) rfl ?_
    show Steps p.tables e below (s₁.setTop (mkF m 21 #[.val (.int p1), .val (.int p2), .val (.int p3), .val (.int p4), .val (.long p5), .second, .val (.long p6), .second, .val (.int nn), .val (.int ii), .unset, .unset, .unset, .unset, .unset, .unset, .unset] [(.int (p3 &&& (2147483647 : Int32)))])) _
    refine XS.iload X0.here hx rfl (hb hby at_21) rfl ?_
    show Steps p.tables e below (s₁.setTop (mkF m 23 #[.val (.int p1), .val (.int p2), .val (.int p3), .val (.int p4), .val (.long p5), .second, .val (.long p6), .second, .val (.int nn), .val (.int ii), .unset, .unset, .unset, .unset, .unset, .unset, .unset] [(.int nn), (.int (p3 &&& (2147483647 : Int32)))])) _
    refine Jvm.RoadKit.iremM (g := (mkF m 23 #[.val (.int p1), .val (.int p2), .val (.int p3), .val (.int p4), .val (.long p5), .second, .val (.long p6), .second, .val (.int nn), .val (.int ii), .unset, .unset, .unset, .unset, .unset, .unset, .unset] [(.int nn), (.int (p3 &&& (2147483647 : Int32)))])) X0 hx rfl (hb hby at_23) rfl (own_ne0 nn hn1) ?_
    rw [hjj]
    show Steps p.tables e below (s₁.setTop (mkF m 24 #[.val (.int p1), .val (.int p2), .val (.int p3), .val (.int p4), .val (.long p5), .second, .val (.long p6), .second, .val (.int nn), .val (.int ii), .unset, .unset, .unset, .unset, .unset, .unset, .unset] [(.int jj)])) _
    refine XS.istore X0.here hx rfl (hb hby at_24) rfl (l' := #[.val (.int p1), .val (.int p2), .val (.int p3), .val (.int p4), .val (.long p5), .second, .val (.long p6), .second, .val (.int nn), .val (.int ii), .val (.int jj), .unset, .unset, .unset, .unset, .unset, .unset]) rfl ?_
    show Steps p.tables e below (s₁.setTop (mkF m 26 #[.val (.int p1), .val (.int p2), .val (.int p3), .val (.int p4), .val (.long p5), .second, .val (.long p6), .second, .val (.int nn), .val (.int ii), .val (.int jj), .unset, .unset, .unset, .unset, .unset, .unset] [])) _
    refine XS.iloadN X0.here hx rfl (hb hby at_26) rfl ?_
    show Steps p.tables e below (s₁.setTop (mkF m 27 #[.val (.int p1), .val (.int p2), .val (.int p3), .val (.int p4), .val (.long p5), .second, .val (.long p6), .second, .val (.int nn), .val (.int ii), .val (.int jj), .unset, .unset, .unset, .unset, .unset, .unset] [(.int p4)])) _
    refine X0.ldcInt hx hown (mvT hZ (hw _ (List.mem_of_getElem? (i := 1) rfl))) (g := (mkF m 27 #[.val (.int p1), .val (.int p2), .val (.int p3), .val (.int p4), .val (.long p5), .second, .val (.long p6), .second, .val (.int nn), .val (.int ii), .val (.int jj), .unset, .unset, .unset, .unset, .unset, .unset] [(.int p4)])) rfl (hb hby at_27) _ ?_
    show Steps p.tables e below (s₁.setTop (mkF m 29 #[.val (.int p1), .val (.int p2), .val (.int p3), .val (.int p4), .val (.long p5), .second, .val (.long p6), .second, .val (.int nn), .val (.int ii), .val (.int jj), .unset, .unset, .unset, .unset, .unset, .unset] [(.int (2147483647 : Int32)), (.int p4)])) _
    refine XS.iand X0.here hx rfl (hb hby at_29) rfl ?_
    show Steps p.tables e below (s₁.setTop (mkF m 30 #[.val (.int p1), .val (.int p2), .val (.int p3), .val (.int p4), .val (.long p5), .second, .val (.long p6), .second, .val (.int nn), .val (.int ii), .val (.int jj), .unset, .unset, .unset, .unset, .unset, .unset] [(.int (p4 &&& (2147483647 : Int32)))])) _
    refine XS.iload X0.here hx rfl (hb hby at_30) rfl ?_
    show Steps p.tables e below (s₁.setTop (mkF m 32 #[.val (.int p1), .val (.int p2), .val (.int p3), .val (.int p4), .val (.long p5), .second, .val (.long p6), .second, .val (.int nn), .val (.int ii), .val (.int jj), .unset, .unset, .unset, .unset, .unset, .unset] [(.int nn), (.int (p4 &&& (2147483647 : Int32)))])) _
    refine Jvm.RoadKit.iremM (g := (mkF m 32 #[.val (.int p1), .val (.int p2), .val (.int p3), .val (.int p4), .val (.long p5), .second, .val (.long p6), .second, .val (.int nn), .val (.int ii), .val (.int jj), .unset, .unset, .unset, .unset, .unset, .unset] [(.int nn), (.int (p4 &&& (2147483647 : Int32)))])) X0 hx rfl (hb hby at_32) rfl (own_ne0 nn hn1) ?_
    rw [hkk]
    show Steps p.tables e below (s₁.setTop (mkF m 33 #[.val (.int p1), .val (.int p2), .val (.int p3), .val (.int p4), .val (.long p5), .second, .val (.long p6), .second, .val (.int nn), .val (.int ii), .val (.int jj), .unset, .unset, .unset, .unset, .unset, .unset] [(.int kk)])) _
    refine XS.istore X0.here hx rfl (hb hby at_33) rfl (l' := #[.val (.int p1), .val (.int p2), .val (.int p3), .val (.int p4), .val (.long p5), .second, .val (.long p6), .second, .val (.int nn), .val (.int ii), .val (.int jj), .val (.int kk), .unset, .unset, .unset, .unset, .unset]) rfl ?_
    show Steps p.tables e below (s₁.setTop (mkF m 35 #[.val (.int p1), .val (.int p2), .val (.int p3), .val (.int p4), .val (.long p5), .second, .val (.long p6), .second, .val (.int nn), .val (.int ii), .val (.int jj), .val (.int kk), .unset, .unset, .unset, .unset, .unset] [])) _
    refine st1 _ ?_
    show Steps p.tables e below (T1.setTop (mkF m 38 #[.val (.int p1), .val (.int p2), .val (.int p3), .val (.int p4), .val (.long p5), .second, .val (.long p6), .second, .val (.int nn), .val (.int ii), .val (.int jj), .val (.int kk), .unset, .unset, .unset, .unset, .unset] [(.ref t)])) _
    refine XS.dup X1.here hx rfl (hb hby at_38) rfl rfl ?_
    show Steps p.tables e below (T1.setTop (mkF m 39 #[.val (.int p1), .val (.int p2), .val (.int p3), .val (.int p4), .val (.long p5), .second, .val (.long p6), .second, .val (.int nn), .val (.int ii), .val (.int jj), .val (.int kk), .unset, .unset, .unset, .unset, .unset] [(.ref t), (.ref t)])) _
    refine XS.iload X1.here hx rfl (hb hby at_39) rfl ?_
    show Steps p.tables e below (T1.setTop (mkF m 41 #[.val (.int p1), .val (.int p2), .val (.int p3), .val (.int p4), .val (.long p5), .second, .val (.long p6), .second, .val (.int nn), .val (.int ii), .val (.int jj), .val (.int kk), .unset, .unset, .unset, .unset, .unset] [(.int nn), (.ref t), (.ref t)])) _
    refine st2.trans ?_
    show Steps p.tables e below (T2.setTop (mkF m 44 #[.val (.int p1), .val (.int p2), .val (.int p3), .val (.int p4), .val (.long p5), .second, .val (.long p6), .second, .val (.int nn), .val (.int ii), .val (.int jj), .val (.int kk), .unset, .unset, .unset, .unset, .unset] [(.ref t)])) _
    refine XS.astore X2.here hx rfl (hb hby at_44) rfl rfl (l' := #[.val (.int p1), .val (.int p2), .val (.int p3), .val (.int p4), .val (.long p5), .second, .val (.long p6), .second, .val (.int nn), .val (.int ii), .val (.int jj), .val (.int kk), .val (.ref t), .unset, .unset, .unset, .unset]) rfl ?_
    show Steps p.tables e below (T2.setTop (mkF m 46 #[.val (.int p1), .val (.int p2), .val (.int p3), .val (.int p4), .val (.long p5), .second, .val (.long p6), .second, .val (.int nn), .val (.int ii), .val (.int jj), .val (.int kk), .val (.ref t), .unset, .unset, .unset, .unset] [])) _
    refine XS.aload X2.here hx rfl (hb hby at_46) rfl rfl ?_
    show Steps p.tables e below (T2.setTop (mkF m 48 #[.val (.int p1), .val (.int p2), .val (.int p3), .val (.int p4), .val (.long p5), .second, .val (.long p6), .second, .val (.int nn), .val (.int ii), .val (.int jj), .val (.int kk), .val (.ref t), .unset, .unset, .unset, .unset] [(.ref t)])) _
    refine XS.iload X2.here hx rfl (hb hby at_48) rfl ?_
    show Steps p.tables e below (T2.setTop (mkF m 50 #[.val (.int p1), .val (.int p2), .val (.int p3), .val (.int p4), .val (.long p5), .second, .val (.long p6), .second, .val (.int nn), .val (.int ii), .val (.int jj), .val (.int kk), .val (.ref t), .unset, .unset, .unset, .unset] [(.int jj), (.ref t)])) _
    refine XS.lload X2.here hx rfl (hb hby at_50) rfl ?_
    show Steps p.tables e below (T2.setTop (mkF m 52 #[.val (.int p1), .val (.int p2), .val (.int p3), .val (.int p4), .val (.long p5), .second, .val (.long p6), .second, .val (.int nn), .val (.int ii), .val (.int jj), .val (.int kk), .val (.ref t), .unset, .unset, .unset, .unset] [(.long p6), (.int jj), (.ref t)])) _
    refine st3.trans ?_
    show Steps p.tables e below (T3.setTop (mkF m 55 #[.val (.int p1), .val (.int p2), .val (.int p3), .val (.int p4), .val (.long p5), .second, .val (.long p6), .second, .val (.int nn), .val (.int ii), .val (.int jj), .val (.int kk), .val (.ref t), .unset, .unset, .unset, .unset] [])) _
    refine XS.aload X3.here hx rfl (hb hby at_55) rfl rfl ?_
    show Steps p.tables e below (T3.setTop (mkF m 57 #[.val (.int p1), .val (.int p2), .val (.int p3), .val (.int p4), .val (.long p5), .second, .val (.long p6), .second, .val (.int nn), .val (.int ii), .val (.int jj), .val (.int kk), .val (.ref t), .unset, .unset, .unset, .unset] [(.ref t)])) _
    refine XS.iload X3.here hx rfl (hb hby at_57) rfl ?_
    show Steps p.tables e below (T3.setTop (mkF m 59 #[.val (.int p1), .val (.int p2), .val (.int p3), .val (.int p4), .val (.long p5), .second, .val (.long p6), .second, .val (.int nn), .val (.int ii), .val (.int jj), .val (.int kk), .val (.ref t), .unset, .unset, .unset, .unset] [(.int ii), (.ref t)])) _
    refine XS.lload X3.here hx rfl (hb hby at_59) rfl ?_
    show Steps p.tables e below (T3.setTop (mkF m 61 #[.val (.int p1), .val (.int p2), .val (.int p3), .val (.int p4), .val (.long p5), .second, .val (.long p6), .second, .val (.int nn), .val (.int ii), .val (.int jj), .val (.int kk), .val (.ref t), .unset, .unset, .unset, .unset] [(.long p5), (.int ii), (.ref t)])) _
    refine st4.trans ?_
    show Steps p.tables e below (T4.setTop (mkF m 64 #[.val (.int p1), .val (.int p2), .val (.int p3), .val (.int p4), .val (.long p5), .second, .val (.long p6), .second, .val (.int nn), .val (.int ii), .val (.int jj), .val (.int kk), .val (.ref t), .unset, .unset, .unset, .unset] [])) _
    refine XS.iload X4.here hx rfl (hb hby at_64) rfl ?_
    show Steps p.tables e below (T4.setTop (mkF m 66 #[.val (.int p1), .val (.int p2), .val (.int p3), .val (.int p4), .val (.long p5), .second, .val (.long p6), .second, .val (.int nn), .val (.int ii), .val (.int jj), .val (.int kk), .val (.ref t), .unset, .unset, .unset, .unset] [(.int jj)])) _
    refine XS.iload X4.here hx rfl (hb hby at_66) rfl ?_
    show Steps p.tables e below (T4.setTop (mkF m 68 #[.val (.int p1), .val (.int p2), .val (.int p3), .val (.int p4), .val (.long p5), .second, .val (.long p6), .second, .val (.int nn), .val (.int ii), .val (.int jj), .val (.int kk), .val (.ref t), .unset, .unset, .unset, .unset] [(.int ii), (.int jj)])) _
    refine XS.icmpYes X4.here hx rfl (pc0 := 68) (pc' := 76) rfl (hb hby at_68) rfl (feq hji).2 (by decide) (by decide) ?_
    show Steps p.tables e below (T4.setTop (mkF m 76 #[.val (.int p1), .val (.int p2), .val (.int p3), .val (.int p4), .val (.long p5), .second, .val (.long p6), .second, .val (.int nn), .val (.int ii), .val (.int jj), .val (.int kk), .val (.ref t), .unset, .unset, .unset, .unset] [])) _
    refine XS.lload X4.here hx rfl (hb hby at_76) rfl ?_
    show Steps p.tables e below (T4.setTop (mkF m 78 #[.val (.int p1), .val (.int p2), .val (.int p3), .val (.int p4), .val (.long p5), .second, .val (.long p6), .second, .val (.int nn), .val (.int ii), .val (.int jj), .val (.int kk), .val (.ref t), .unset, .unset, .unset, .unset] [(.long p6)])) _
    refine XS.lstore X4.here hx rfl (hb hby at_78) rfl (l' := #[.val (.int p1), .val (.int p2), .val (.int p3), .val (.int p4), .val (.long p5), .second, .val (.long p6), .second, .val (.int nn), .val (.int ii), .val (.int jj), .val (.int kk), .val (.ref t), .val (.long p6), .second, .unset, .unset]) rfl ?_
    show Steps p.tables e below (T4.setTop (mkF m 80 #[.val (.int p1), .val (.int p2), .val (.int p3), .val (.int p4), .val (.long p5), .second, .val (.long p6), .second, .val (.int nn), .val (.int ii), .val (.int jj), .val (.int kk), .val (.ref t), .val (.long p6), .second, .unset, .unset] [])) _
    refine XS.iload X4.here hx rfl (hb hby at_80) rfl ?_
    show Steps p.tables e below (T4.setTop (mkF m 82 #[.val (.int p1), .val (.int p2), .val (.int p3), .val (.int p4), .val (.long p5), .second, .val (.long p6), .second, .val (.int nn), .val (.int ii), .val (.int jj), .val (.int kk), .val (.ref t), .val (.long p6), .second, .unset, .unset] [(.int kk)])) _
    refine XS.iload X4.here hx rfl (hb hby at_82) rfl ?_
    show Steps p.tables e below (T4.setTop (mkF m 84 #[.val (.int p1), .val (.int p2), .val (.int p3), .val (.int p4), .val (.long p5), .second, .val (.long p6), .second, .val (.int nn), .val (.int ii), .val (.int jj), .val (.int kk), .val (.ref t), .val (.long p6), .second, .unset, .unset] [(.int ii), (.int kk)])) _
    refine XS.icmpYes X4.here hx rfl (pc0 := 84) (pc' := 94) rfl (hb hby at_84) rfl (feq hki).2 (by decide) (by decide) ?_
    show Steps p.tables e below (T4.setTop (mkF m 94 #[.val (.int p1), .val (.int p2), .val (.int p3), .val (.int p4), .val (.long p5), .second, .val (.long p6), .second, .val (.int nn), .val (.int ii), .val (.int jj), .val (.int kk), .val (.ref t), .val (.long p6), .second, .unset, .unset] [])) _
    refine XS.iload X4.here hx rfl (hb hby at_94) rfl ?_
    show Steps p.tables e below (T4.setTop (mkF m 96 #[.val (.int p1), .val (.int p2), .val (.int p3), .val (.int p4), .val (.long p5), .second, .val (.long p6), .second, .val (.int nn), .val (.int ii), .val (.int jj), .val (.int kk), .val (.ref t), .val (.long p6), .second, .unset, .unset] [(.int kk)])) _
    refine XS.iload X4.here hx rfl (hb hby at_96) rfl ?_
    show Steps p.tables e below (T4.setTop (mkF m 98 #[.val (.int p1), .val (.int p2), .val (.int p3), .val (.int p4), .val (.long p5), .second, .val (.long p6), .second, .val (.int nn), .val (.int ii), .val (.int jj), .val (.int kk), .val (.ref t), .val (.long p6), .second, .unset, .unset] [(.int jj), (.int kk)])) _
    refine XS.icmpNo X4.here hx rfl (hb hby at_98) rfl (teq hkj).2 ?_
    show Steps p.tables e below (T4.setTop (mkF m 101 #[.val (.int p1), .val (.int p2), .val (.int p3), .val (.int p4), .val (.long p5), .second, .val (.long p6), .second, .val (.int nn), .val (.int ii), .val (.int jj), .val (.int kk), .val (.ref t), .val (.long p6), .second, .unset, .unset] [])) _
    refine XS.lload X4.here hx rfl (hb hby at_101) rfl ?_
    show Steps p.tables e below (T4.setTop (mkF m 103 #[.val (.int p1), .val (.int p2), .val (.int p3), .val (.int p4), .val (.long p5), .second, .val (.long p6), .second, .val (.int nn), .val (.int ii), .val (.int jj), .val (.int kk), .val (.ref t), .val (.long p6), .second, .unset, .unset] [(.long p6)])) _
    refine XS.lstore X4.here hx rfl (hb hby at_103) rfl (l' := #[.val (.int p1), .val (.int p2), .val (.int p3), .val (.int p4), .val (.long p5), .second, .val (.long p6), .second, .val (.int nn), .val (.int ii), .val (.int jj), .val (.int kk), .val (.ref t), .val (.long p6), .second, .val (.long p6), .second]) rfl ?_
    show Steps p.tables e below (T4.setTop (mkF m 105 #[.val (.int p1), .val (.int p2), .val (.int p3), .val (.int p4), .val (.long p5), .second, .val (.long p6), .second, .val (.int nn), .val (.int ii), .val (.int jj), .val (.int kk), .val (.ref t), .val (.long p6), .second, .val (.long p6), .second] [])) _
    refine XS.goto X4.here hx rfl (pc0 := 105) (pc' := 111) rfl (hb hby at_105) (by decide) (by decide) ?_
    show Steps p.tables e below (T4.setTop (mkF m 111 #[.val (.int p1), .val (.int p2), .val (.int p3), .val (.int p4), .val (.long p5), .second, .val (.long p6), .second, .val (.int nn), .val (.int ii), .val (.int jj), .val (.int kk), .val (.ref t), .val (.long p6), .second, .val (.long p6), .second] [])) _
    refine XS.aload X4.here hx rfl (hb hby at_111) rfl rfl ?_
    show Steps p.tables e below (T4.setTop (mkF m 113 #[.val (.int p1), .val (.int p2), .val (.int p3), .val (.int p4), .val (.long p5), .second, .val (.long p6), .second, .val (.int nn), .val (.int ii), .val (.int jj), .val (.int kk), .val (.ref t), .val (.long p6), .second, .val (.long p6), .second] [(.ref t)])) _
    refine XS.iload X4.here hx rfl (hb hby at_113) rfl ?_
    show Steps p.tables e below (T4.setTop (mkF m 115 #[.val (.int p1), .val (.int p2), .val (.int p3), .val (.int p4), .val (.long p5), .second, .val (.long p6), .second, .val (.int nn), .val (.int ii), .val (.int jj), .val (.int kk), .val (.ref t), .val (.long p6), .second, .val (.long p6), .second] [(.int ii), (.ref t)])) _
    refine st5.trans ?_
    show Steps p.tables e below (T5.setTop (mkF m 118 #[.val (.int p1), .val (.int p2), .val (.int p3), .val (.int p4), .val (.long p5), .second, .val (.long p6), .second, .val (.int nn), .val (.int ii), .val (.int jj), .val (.int kk), .val (.ref t), .val (.long p6), .second, .val (.long p6), .second] [(.long p5)])) _
    refine XS.lload X5.here hx rfl (hb hby at_118) rfl ?_
    show Steps p.tables e below (T5.setTop (mkF m 120 #[.val (.int p1), .val (.int p2), .val (.int p3), .val (.int p4), .val (.long p5), .second, .val (.long p6), .second, .val (.int nn), .val (.int ii), .val (.int jj), .val (.int kk), .val (.ref t), .val (.long p6), .second, .val (.long p6), .second] [(.long p5), (.long p5)])) _
    refine XS.lcmp X5.here hx rfl (hb hby at_120) rfl ?_
    show Steps p.tables e below (T5.setTop (mkF m 121 #[.val (.int p1), .val (.int p2), .val (.int p3), .val (.int p4), .val (.long p5), .second, .val (.long p6), .second, .val (.int nn), .val (.int ii), .val (.int jj), .val (.int kk), .val (.ref t), .val (.long p6), .second, .val (.long p6), .second] [(.int (lcmpW p5 p5))])) _
    refine XS.ifNo X5.here hx rfl (hb hby at_121) rfl ((if0 _ _).trans (teq (own_lc0 p5)).2) ?_
    show Steps p.tables e below (T5.setTop (mkF m 124 #[.val (.int p1), .val (.int p2), .val (.int p3), .val (.int p4), .val (.long p5), .second, .val (.long p6), .second, .val (.int nn), .val (.int ii), .val (.int jj), .val (.int kk), .val (.ref t), .val (.long p6), .second, .val (.long p6), .second] [])) _
    refine XS.aload X5.here hx rfl (hb hby at_124) rfl rfl ?_
    show Steps p.tables e below (T5.setTop (mkF m 126 #[.val (.int p1), .val (.int p2), .val (.int p3), .val (.int p4), .val (.long p5), .second, .val (.long p6), .second, .val (.int nn), .val (.int ii), .val (.int jj), .val (.int kk), .val (.ref t), .val (.long p6), .second, .val (.long p6), .second] [(.ref t)])) _
    refine XS.iload X5.here hx rfl (hb hby at_126) rfl ?_
    show Steps p.tables e below (T5.setTop (mkF m 128 #[.val (.int p1), .val (.int p2), .val (.int p3), .val (.int p4), .val (.long p5), .second, .val (.long p6), .second, .val (.int nn), .val (.int ii), .val (.int jj), .val (.int kk), .val (.ref t), .val (.long p6), .second, .val (.long p6), .second] [(.int jj), (.ref t)])) _
    refine st6.trans ?_
    show Steps p.tables e below (T6.setTop (mkF m 131 #[.val (.int p1), .val (.int p2), .val (.int p3), .val (.int p4), .val (.long p5), .second, .val (.long p6), .second, .val (.int nn), .val (.int ii), .val (.int jj), .val (.int kk), .val (.ref t), .val (.long p6), .second, .val (.long p6), .second] [(.long p6)])) _
    refine XS.lload X6.here hx rfl (hb hby at_131) rfl ?_
    show Steps p.tables e below (T6.setTop (mkF m 133 #[.val (.int p1), .val (.int p2), .val (.int p3), .val (.int p4), .val (.long p5), .second, .val (.long p6), .second, .val (.int nn), .val (.int ii), .val (.int jj), .val (.int kk), .val (.ref t), .val (.long p6), .second, .val (.long p6), .second] [(.long p6), (.long p6)])) _
    refine XS.lcmp X6.here hx rfl (hb hby at_133) rfl ?_
    show Steps p.tables e below (T6.setTop (mkF m 134 #[.val (.int p1), .val (.int p2), .val (.int p3), .val (.int p4), .val (.long p5), .second, .val (.long p6), .second, .val (.int nn), .val (.int ii), .val (.int jj), .val (.int kk), .val (.ref t), .val (.long p6), .second, .val (.long p6), .second] [(.int (lcmpW p6 p6))])) _
    refine XS.ifNo X6.here hx rfl (hb hby at_134) rfl ((if0 _ _).trans (teq (own_lc0 p6)).2) ?_
    show Steps p.tables e below (T6.setTop (mkF m 137 #[.val (.int p1), .val (.int p2), .val (.int p3), .val (.int p4), .val (.long p5), .second, .val (.long p6), .second, .val (.int nn), .val (.int ii), .val (.int jj), .val (.int kk), .val (.ref t), .val (.long p6), .second, .val (.long p6), .second] [])) _
    refine XS.aload X6.here hx rfl (hb hby at_137) rfl rfl ?_
    show Steps p.tables e below (T6.setTop (mkF m 139 #[.val (.int p1), .val (.int p2), .val (.int p3), .val (.int p4), .val (.long p5), .second, .val (.long p6), .second, .val (.int nn), .val (.int ii), .val (.int jj), .val (.int kk), .val (.ref t), .val (.long p6), .second, .val (.long p6), .second] [(.ref t)])) _
    refine XS.iload X6.here hx rfl (hb hby at_139) rfl ?_
    show Steps p.tables e below (T6.setTop (mkF m 141 #[.val (.int p1), .val (.int p2), .val (.int p3), .val (.int p4), .val (.long p5), .second, .val (.long p6), .second, .val (.int nn), .val (.int ii), .val (.int jj), .val (.int kk), .val (.ref t), .val (.long p6), .second, .val (.long p6), .second] [(.int kk), (.ref t)])) _
    refine st7.trans ?_
    show Steps p.tables e below (T7.setTop (mkF m 144 #[.val (.int p1), .val (.int p2), .val (.int p3), .val (.int p4), .val (.long p5), .second, .val (.long p6), .second, .val (.int nn), .val (.int ii), .val (.int jj), .val (.int kk), .val (.ref t), .val (.long p6), .second, .val (.long p6), .second] [(.long p6)])) _
    refine XS.lload X7.here hx rfl (hb hby at_144) rfl ?_
    show Steps p.tables e below (T7.setTop (mkF m 146 #[.val (.int p1), .val (.int p2), .val (.int p3), .val (.int p4), .val (.long p5), .second, .val (.long p6), .second, .val (.int nn), .val (.int ii), .val (.int jj), .val (.int kk), .val (.ref t), .val (.long p6), .second, .val (.long p6), .second] [(.long p6), (.long p6)])) _
    refine XS.lcmp X7.here hx rfl (hb hby at_146) rfl ?_
    show Steps p.tables e below (T7.setTop (mkF m 147 #[.val (.int p1), .val (.int p2), .val (.int p3), .val (.int p4), .val (.long p5), .second, .val (.long p6), .second, .val (.int nn), .val (.int ii), .val (.int jj), .val (.int kk), .val (.ref t), .val (.long p6), .second, .val (.long p6), .second] [(.int (lcmpW p6 p6))])) _
    refine XS.ifNo X7.here hx rfl (hb hby at_147) rfl ((if0 _ _).trans (teq (own_lc0 p6)).2) ?_
    show Steps p.tables e below (T7.setTop (mkF m 150 #[.val (.int p1), .val (.int p2), .val (.int p3), .val (.int p4), .val (.long p5), .second, .val (.long p6), .second, .val (.int nn), .val (.int ii), .val (.int jj), .val (.int kk), .val (.ref t), .val (.long p6), .second, .val (.long p6), .second] [])) _
    refine XS.aload X7.here hx rfl (hb hby at_150) rfl rfl ?_
    show Steps p.tables e below (T7.setTop (mkF m 152 #[.val (.int p1), .val (.int p2), .val (.int p3), .val (.int p4), .val (.long p5), .second, .val (.long p6), .second, .val (.int nn), .val (.int ii), .val (.int jj), .val (.int kk), .val (.ref t), .val (.long p6), .second, .val (.long p6), .second] [(.ref t)])) _
    refine st8.trans ?_
    show Steps p.tables e below (T8.setTop (mkF m 155 #[.val (.int p1), .val (.int p2), .val (.int p3), .val (.int p4), .val (.long p5), .second, .val (.long p6), .second, .val (.int nn), .val (.int ii), .val (.int jj), .val (.int kk), .val (.ref t), .val (.long p6), .second, .val (.long p6), .second] [(.int nn)])) _
    refine XS.iload X8.here hx rfl (hb hby at_155) rfl ?_
    show Steps p.tables e below (T8.setTop (mkF m 157 #[.val (.int p1), .val (.int p2), .val (.int p3), .val (.int p4), .val (.long p5), .second, .val (.long p6), .second, .val (.int nn), .val (.int ii), .val (.int jj), .val (.int kk), .val (.ref t), .val (.long p6), .second, .val (.long p6), .second] [(.int nn), (.int nn)])) _
    refine XS.icmpNo X8.here hx rfl (hb hby at_157) rfl (teq (rfl : nn = nn)).2 ?_
    show Steps p.tables e below (T8.setTop (mkF m 160 #[.val (.int p1), .val (.int p2), .val (.int p3), .val (.int p4), .val (.long p5), .second, .val (.long p6), .second, .val (.int nn), .val (.int ii), .val (.int jj), .val (.int kk), .val (.ref t), .val (.long p6), .second, .val (.long p6), .second] [])) _
    refine XS.iconst X8.here hx rfl (hb hby at_160) ?_
    show Steps p.tables e below (T8.setTop (mkF m 161 #[.val (.int p1), .val (.int p2), .val (.int p3), .val (.int p4), .val (.long p5), .second, .val (.long p6), .second, .val (.int nn), .val (.int ii), .val (.int jj), .val (.int kk), .val (.ref t), .val (.long p6), .second, .val (.long p6), .second] [(.int (1 : Int32))])) _
    refine XS.goto X8.here hx rfl (pc0 := 161) (pc' := 165) rfl (hb hby at_161) (by decide) (by decide) ?_
    show Steps p.tables e below (T8.setTop (mkF m 165 #[.val (.int p1), .val (.int p2), .val (.int p3), .val (.int p4), .val (.long p5), .second, .val (.long p6), .second, .val (.int nn), .val (.int ii), .val (.int jj), .val (.int kk), .val (.ref t), .val (.long p6), .second, .val (.long p6), .second] [(.int (1 : Int32))])) _
    exact retN X8 hx (t := .boolean) Bd.returns (by simp) (hb hby at_165) hr
  · exact ⟨rfl, N8⟩
set_option maxRecDepth 65536 in
set_option maxHeartbeats 40000000 in
theorem rmLaw4 (l : Launch) (Z : State) (a0 : Array Value) (hw : ∀ d ∈ tables_1, d.before a0 Z = true) (ws : List Jvm.Cond) (p1 : Int32) (p2 : Int32) (p3 : Int32) (p4 : Int32) (p5 : Int64) (p6 : Int64) (nn : Int32) (ii : Int32) (jj : Int32) (kk : Int32) (h0 : Heap) (n0 : Nat) (Z0 : n0 ≤ h0.size) (hS : WdL Z h0 p1 p2 p3 p4 p5 p6 nn ii jj kk) (hnn : ((1 : Int32) + (p1 &&& (131071 : Int32))) = nn) (hii : ((p2 &&& (2147483647 : Int32)) % nn) = ii) (hjj : ((p3 &&& (2147483647 : Int32)) % nn) = jj) (hkk : ((p4 &&& (2147483647 : Int32)) % nn) = kk) (hn1 : 1 ≤ nn.toInt) (hn2 : nn.toInt ≤ 131072) (hii0 : 0 ≤ ii.toInt) (hiin : ii.toInt < nn.toInt) (hjj0 : 0 ≤ jj.toInt) (hjjn : jj.toInt < nn.toInt) (hkk0 : 0 ≤ kk.toInt) (hkkn : kk.toInt < nn.toInt) (hji : ¬ (jj = ii)) (hki : ¬ (kk = ii)) (hkj : ¬ (kk = jj)) :
    MetFree l x (head1 (Jvm.Cond.code x code maxLocals ret :: ws) room_1) (fun a U => a = #[(.int p1), (.int p2), (.int p3), (.int p4), (.long p5), (.long p6)] ∧ Z.Warmed39 U.vm ∧ U.heap = h0) (fun _ _ _ _ _ => True) (fun _ U o U' => ∃ v L, o = .returned v ∧ Q0 n0 v L ∧ FrameEnd U o U' L room_1.cells room_1.slots) := by
  refine MetFree.of_bodySF (plainFor_of_name pn_com_example_reachmark_reachmark_label_IntervalsSetPinLaw) hisR ?_
  intro p e s m args below meth c s₁ Bd hml0 hP hK
  obtain ⟨rfl, hZ, hh⟩ := hP
  have hx := Bd.exec
  have hby := Bd.bytes
  have hml : c.maxLocals = 17 := hml0
  have hown : s.vm.findClass "com/example/reachmark/reachmark/label/IntervalsSetPinLaw" = some m.cls := findClass_of_methodNamed Bd.named
  have X0 : Stand p l e room_1 s m #[(.int p1), (.int p2), (.int p3), (.int p4), (.long p5), (.long p6)] below meth c s₁ [] 0 0 := Stand.of_body Bd
  have e0 : s₁.heap = h0 := by rw [← hh, Bd.state]; rfl
  have N0 := Fr.nil n0
  have pre0 : ∀ t, Steps p.tables e below (s₁.setTop (mkF m 0 #[.val (.int p1), .val (.int p2), .val (.int p3), .val (.int p4), .val (.long p5), .second, .val (.long p6), .second, .unset, .unset, .unset, .unset, .unset, .unset, .unset, .unset, .unset] [])) t → Steps p.tables e below (s₁.setTop (entryFrame m #[(.int p1), (.int p2), (.int p3), (.int p4), (.long p5), (.long p6)] maxLocals)) t := fun t k => castTop (by first | (simp [entryFrame, mkF, argsToLocals, Value.category, maxLocals]; done) | rfl) k
  obtain ⟨T1, h1, X1, e1, E1, A1, D1, -, st1⟩ := newO X0 hx hZ hown (hw _ (List.mem_of_getElem? (i := 2) rfl)) (hw _ (List.mem_of_getElem? (i := 3) rfl)) (hw _ (List.mem_of_getElem? (i := 4) rfl)) e0 (g := (mkF m 35 #[.val (.int p1), .val (.int p2), .val (.int p3), .val (.int p4), .val (.long p5), .second, .val (.long p6), .second, .val (.int nn), .val (.int ii), .val (.int jj), .val (.int kk), .unset, .unset, .unset, .unset, .unset] [])) rfl (hb hby at_35) (by decide) (by decide)
  obtain ⟨t, gt⟩ : ∃ z, z = h0.size := ⟨_, rfl⟩
  rw [← gt] at A1 D1 st1
  have F_ch : Fld Z h1 t "com/example/reachmark/reachmark/label/Intervals" "chunks" "[[J" .null := D1 (Or.inl (hw _ (List.mem_of_getElem? (i := 19) rfl))) (ty := (.array (.array .long))) (by decide)
  have F_sz : Fld Z h1 t "com/example/reachmark/reachmark/label/Intervals" "size" "I" (.int (0 : Int32)) := D1 (Or.inl (hw _ (List.mem_of_getElem? (i := 27) rfl))) (ty := .int) (by decide)
  have Z1 : n0 ≤ h1.size := Nat.le_trans Z0 E1.1
  have g_t : n0 ≤ t := Nat.le_trans Z0 (Nat.le_of_eq gt.symm)
  obtain ⟨_, _, ⟨T2, L2, k2, n2⟩, -, X2, ⟨Lc2, hQ2, l2, y2, z2⟩, st2⟩ := X1.specialBack hx (y := (⟨"com/example/reachmark/reachmark/label/Intervals", "<init>", "(I)V"⟩ : MethodName)) rfl hown (mvT hZ (hw _ (List.mem_of_getElem? (i := 5) rfl))) (mvT hZ (hw _ (List.mem_of_getElem? (i := 6) rfl))) (mvT hZ (hw _ (List.mem_of_getElem? (i := 7) rfl))) (by decide) (backOf (W := 1) (rmInit l Z a0 hw [] t nn h1 n0 Z1 A1 F_ch F_sz g_t hn1 hn2) hZ (hw _ (List.mem_of_getElem? (i := 7) rfl)) (hw _ (List.mem_of_getElem? (i := 4) rfl)) (by decide) (by decide)) (g := (mkF m 41 #[.val (.int p1), .val (.int p2), .val (.int p3), .val (.int p4), .val (.long p5), .second, .val (.long p6), .second, .val (.int nn), .val (.int ii), .val (.int jj), .val (.int kk), .unset, .unset, .unset, .unset, .unset] [(.int nn), (.ref t), (.ref t)])) rfl (by rw [hml]; rfl) (Steps.refl _) (a := t) (argsL := [(.int nn)]) (rest := [(.ref t)]) (lenOf pd_1 rfl) rfl (by show 2 * 0 + _ ≤ _; exact Nat.le_of_eq rfl) (hb hby at_41) (fun _ _ => ⟨rfl, e1, (by decide : 1 + 5 ≤ _), (by decide : 2 + 131076 ≤ _)⟩)
  dsimp only [Pt.U, Pt.locs, Pt.cells, Pt.slots] at X2 l2 y2 z2 st2 hQ2
  subst l2 y2 z2
  obtain ⟨rfl, N2q, -, ch, cs, I2⟩ := hQ2
  have N2 := Fr.app N0 N2q
  obtain ⟨cq3, kq3, q3a, q3b, q3c⟩ := isOf hZ rfl I2.1
  obtain ⟨_, _, ⟨T3, L3, k3, n3⟩, -, X3, ⟨Lc3, hQ3, l3, y3, z3⟩, st3⟩ := X2.virtualBack hx (y := (⟨"com/example/reachmark/reachmark/label/Intervals", "set", "(IJ)V"⟩ : MethodName)) (z := (⟨"com/example/reachmark/reachmark/label/Intervals", "set", "(IJ)V"⟩ : MethodName)) hown (mvT hZ (hw _ (List.mem_of_getElem? (i := 28) rfl))) (mvT hZ (hw _ (List.mem_of_getElem? (i := 29) rfl))) (notFace_of_selects (args := #[]) (mvT hZ (hw _ (List.mem_of_getElem? (i := 31) rfl)))) (mvT hZ (hw _ (List.mem_of_getElem? (i := 31) rfl))) (mvT hZ (hw _ (List.mem_of_getElem? (i := 30) rfl))) (by decide) (backOf (W := 0) (rm_set l Z a0 hw [] t ch nn cs (fun _ => 0) jj p6 T2.heap n0 I2 hjj0 hjjn) hZ (hw _ (List.mem_of_getElem? (i := 32) rfl)) (hw _ (List.mem_of_getElem? (i := 4) rfl)) (by decide) (by decide)) q3a q3c (g := (mkF m 52 #[.val (.int p1), .val (.int p2), .val (.int p3), .val (.int p4), .val (.long p5), .second, .val (.long p6), .second, .val (.int nn), .val (.int ii), .val (.int jj), .val (.int kk), .val (.ref t), .unset, .unset, .unset, .unset] [(.long p6), (.int jj), (.ref t)])) rfl (by rw [hml]; rfl) (Steps.refl _) (argsL := [(.int jj), (.long p6)]) (rest := []) (lenOf pd_2 rfl) rfl (by show 2 * 0 + _ ≤ _; exact Nat.le_of_eq rfl) (hb hby at_52) (fun _ _ => ⟨rfl, rfl, (by decide : 6 + 0 ≤ _), (by decide : 131078 + 0 ≤ _)⟩)
  dsimp only [Pt.U, Pt.locs, Pt.cells, Pt.slots] at X3 l3 y3 z3 st3 hQ3
  subst l3 y3 z3
  obtain ⟨rfl, N3q, I3⟩ := hQ3
  have N3 := Fr.app N2 N3q
  obtain ⟨cq4, kq4, q4a, q4b, q4c⟩ := isOf hZ rfl I3.1
  obtain ⟨_, _, ⟨T4, L4, k4, n4⟩, -, X4, ⟨Lc4, hQ4, l4, y4, z4⟩, st4⟩ := X3.virtualBack hx (y := (⟨"com/example/reachmark/reachmark/label/Intervals", "set", "(IJ)V"⟩ : MethodName)) (z := (⟨"com/example/reachmark/reachmark/label/Intervals", "set", "(IJ)V"⟩ : MethodName)) hown (mvT hZ (hw _ (List.mem_of_getElem? (i := 28) rfl))) (mvT hZ (hw _ (List.mem_of_getElem? (i := 29) rfl))) (notFace_of_selects (args := #[]) (mvT hZ (hw _ (List.mem_of_getElem? (i := 31) rfl)))) (mvT hZ (hw _ (List.mem_of_getElem? (i := 31) rfl))) (mvT hZ (hw _ (List.mem_of_getElem? (i := 30) rfl))) (by decide) (backOf (W := 0) (rm_set l Z a0 hw [] t ch nn cs (own_upd (fun _ => 0) jj p6) ii p5 T3.heap n0 I3 hii0 hiin) hZ (hw _ (List.mem_of_getElem? (i := 32) rfl)) (hw _ (List.mem_of_getElem? (i := 4) rfl)) (by decide) (by decide)) q4a q4c (g := (mkF m 61 #[.val (.int p1), .val (.int p2), .val (.int p3), .val (.int p4), .val (.long p5), .second, .val (.long p6), .second, .val (.int nn), .val (.int ii), .val (.int jj), .val (.int kk), .val (.ref t), .unset, .unset, .unset, .unset] [(.long p5), (.int ii), (.ref t)])) rfl (by rw [hml]; rfl) (Steps.refl _) (argsL := [(.int ii), (.long p5)]) (rest := []) (lenOf pd_2 rfl) rfl (by show 2 * 0 + _ ≤ _; exact Nat.le_of_eq rfl) (hb hby at_61) (fun _ _ => ⟨rfl, rfl, (by decide : 6 + 0 ≤ _), (by decide : 131078 + 0 ≤ _)⟩)
  dsimp only [Pt.U, Pt.locs, Pt.cells, Pt.slots] at X4 l4 y4 z4 st4 hQ4
  subst l4 y4 z4
  obtain ⟨rfl, N4q, I4⟩ := hQ4
  have N4 := Fr.app N3 N4q
  obtain ⟨cq5, kq5, q5a, q5b, q5c⟩ := isOf hZ rfl I4.1
  obtain ⟨_, _, ⟨T5, L5, k5, n5⟩, -, X5, ⟨Lc5, hQ5, l5, y5, z5⟩, st5⟩ := X4.virtualBack hx (y := (⟨"com/example/reachmark/reachmark/label/Intervals", "get", "(I)J"⟩ : MethodName)) (z := (⟨"com/example/reachmark/reachmark/label/Intervals", "get", "(I)J"⟩ : MethodName)) hown (mvT hZ (hw _ (List.mem_of_getElem? (i := 33) rfl))) (mvT hZ (hw _ (List.mem_of_getElem? (i := 34) rfl))) (notFace_of_selects (args := #[]) (mvT hZ (hw _ (List.mem_of_getElem? (i := 36) rfl)))) (mvT hZ (hw _ (List.mem_of_getElem? (i := 36) rfl))) (mvT hZ (hw _ (List.mem_of_getElem? (i := 35) rfl))) (by decide) (backOf (W := 0) (rm_get l Z a0 hw [] t ch nn cs (own_upd (own_upd (fun _ => 0) jj p6) ii p5) ii p5 T4.heap n0 I4 hii0 hiin (by rw [own_upd_at _ _ _ _ hii0 hii0, own_upd_at _ _ _ _ hjj0 hii0]; simp [])) hZ (hw _ (List.mem_of_getElem? (i := 37) rfl)) (hw _ (List.mem_of_getElem? (i := 4) rfl)) (by decide) (by decide)) q5a q5c (g := (mkF m 115 #[.val (.int p1), .val (.int p2), .val (.int p3), .val (.int p4), .val (.long p5), .second, .val (.long p6), .second, .val (.int nn), .val (.int ii), .val (.int jj), .val (.int kk), .val (.ref t), .val (.long p6), .second, .val (.long (0 : Int64)), .second] [(.int ii), (.ref t)])) rfl (by rw [hml]; rfl) (Steps.refl _) (argsL := [(.int ii)]) (rest := []) (lenOf pd_3 rfl) rfl (by show 2 * 0 + _ ≤ _; exact Nat.le_of_eq rfl) (hb hby at_115) (fun _ _ => ⟨rfl, rfl, (by decide : 6 + 0 ≤ _), (by decide : 131078 + 0 ≤ _)⟩)
  dsimp only [Pt.U, Pt.locs, Pt.cells, Pt.slots] at X5 l5 y5 z5 st5 hQ5
  subst l5 y5 z5
  obtain ⟨rfl, N5q, e5⟩ := hQ5
  have N5 := Fr.app N4 N5q
  obtain ⟨cq6, kq6, q6a, q6b, q6c⟩ := isOf hZ e5 I4.1
  obtain ⟨_, _, ⟨T6, L6, k6, n6⟩, -, X6, ⟨Lc6, hQ6, l6, y6, z6⟩, st6⟩ := X5.virtualBack hx (y := (⟨"com/example/reachmark/reachmark/label/Intervals", "get", "(I)J"⟩ : MethodName)) (z := (⟨"com/example/reachmark/reachmark/label/Intervals", "get", "(I)J"⟩ : MethodName)) hown (mvT hZ (hw _ (List.mem_of_getElem? (i := 33) rfl))) (mvT hZ (hw _ (List.mem_of_getElem? (i := 34) rfl))) (notFace_of_selects (args := #[]) (mvT hZ (hw _ (List.mem_of_getElem? (i := 36) rfl)))) (mvT hZ (hw _ (List.mem_of_getElem? (i := 36) rfl))) (mvT hZ (hw _ (List.mem_of_getElem? (i := 35) rfl))) (by decide) (backOf (W := 0) (rm_get l Z a0 hw [] t ch nn cs (own_upd (own_upd (fun _ => 0) jj p6) ii p5) jj p6 T4.heap n0 I4 hjj0 hjjn (by rw [own_upd_at _ _ _ _ hii0 hjj0, own_upd_at _ _ _ _ hjj0 hjj0]; simp [hji])) hZ (hw _ (List.mem_of_getElem? (i := 37) rfl)) (hw _ (List.mem_of_getElem? (i := 4) rfl)) (by decide) (by decide)) q6a q6c (g := (mkF m 128 #[.val (.int p1), .val (.int p2), .val (.int p3), .val (.int p4), .val (.long p5), .second, .val (.long p6), .second, .val (.int nn), .val (.int ii), .val (.int jj), .val (.int kk), .val (.ref t), .val (.long p6), .second, .val (.long (0 : Int64)), .second] [(.int jj), (.ref t)])) rfl (by rw [hml]; rfl) (Steps.refl _) (argsL := [(.int jj)]) (rest := []) (lenOf pd_3 rfl) rfl (by show 2 * 0 + _ ≤ _; exact Nat.le_of_eq rfl) (hb hby at_128) (fun _ _ => ⟨rfl, e5, (by decide : 6 + 0 ≤ _), (by decide : 131078 + 0 ≤ _)⟩)
  dsimp only [Pt.U, Pt.locs, Pt.cells, Pt.slots] at X6 l6 y6 z6 st6 hQ6
  subst l6 y6 z6
  obtain ⟨rfl, N6q, e6⟩ := hQ6
  have N6 := Fr.app N5 N6q
  obtain ⟨cq7, kq7, q7a, q7b, q7c⟩ := isOf hZ e6 I4.1
  obtain ⟨_, _, ⟨T7, L7, k7, n7⟩, -, X7, ⟨Lc7, hQ7, l7, y7, z7⟩, st7⟩ := X6.virtualBack hx (y := (⟨"com/example/reachmark/reachmark/label/Intervals", "get", "(I)J"⟩ : MethodName)) (z := (⟨"com/example/reachmark/reachmark/label/Intervals", "get", "(I)J"⟩ : MethodName)) hown (mvT hZ (hw _ (List.mem_of_getElem? (i := 33) rfl))) (mvT hZ (hw _ (List.mem_of_getElem? (i := 34) rfl))) (notFace_of_selects (args := #[]) (mvT hZ (hw _ (List.mem_of_getElem? (i := 36) rfl)))) (mvT hZ (hw _ (List.mem_of_getElem? (i := 36) rfl))) (mvT hZ (hw _ (List.mem_of_getElem? (i := 35) rfl))) (by decide) (backOf (W := 0) (rm_get l Z a0 hw [] t ch nn cs (own_upd (own_upd (fun _ => 0) jj p6) ii p5) kk (0 : Int64) T4.heap n0 I4 hkk0 hkkn (by rw [own_upd_at _ _ _ _ hii0 hkk0, own_upd_at _ _ _ _ hjj0 hkk0]; simp [hji, hki, hkj])) hZ (hw _ (List.mem_of_getElem? (i := 37) rfl)) (hw _ (List.mem_of_getElem? (i := 4) rfl)) (by decide) (by decide)) q7a q7c (g := (mkF m 141 #[.val (.int p1), .val (.int p2), .val (.int p3), .val (.int p4), .val (.long p5), .second, .val (.long p6), .second, .val (.int nn), .val (.int ii), .val (.int jj), .val (.int kk), .val (.ref t), .val (.long p6), .second, .val (.long (0 : Int64)), .second] [(.int kk), (.ref t)])) rfl (by rw [hml]; rfl) (Steps.refl _) (argsL := [(.int kk)]) (rest := []) (lenOf pd_3 rfl) rfl (by show 2 * 0 + _ ≤ _; exact Nat.le_of_eq rfl) (hb hby at_141) (fun _ _ => ⟨rfl, e6, (by decide : 6 + 0 ≤ _), (by decide : 131078 + 0 ≤ _)⟩)
  dsimp only [Pt.U, Pt.locs, Pt.cells, Pt.slots] at X7 l7 y7 z7 st7 hQ7
  subst l7 y7 z7
  obtain ⟨rfl, N7q, e7⟩ := hQ7
  have N7 := Fr.app N6 N7q
  obtain ⟨cq8, kq8, q8a, q8b, q8c⟩ := isOf hZ e7 I4.1
  obtain ⟨_, _, ⟨T8, L8, k8, n8⟩, -, X8, ⟨Lc8, hQ8, l8, y8, z8⟩, st8⟩ := X7.virtualBack hx (y := (⟨"com/example/reachmark/reachmark/label/Intervals", "size", "()I"⟩ : MethodName)) (z := (⟨"com/example/reachmark/reachmark/label/Intervals", "size", "()I"⟩ : MethodName)) hown (mvT hZ (hw _ (List.mem_of_getElem? (i := 38) rfl))) (mvT hZ (hw _ (List.mem_of_getElem? (i := 39) rfl))) (notFace_of_selects (args := #[]) (mvT hZ (hw _ (List.mem_of_getElem? (i := 41) rfl)))) (mvT hZ (hw _ (List.mem_of_getElem? (i := 41) rfl))) (mvT hZ (hw _ (List.mem_of_getElem? (i := 40) rfl))) (by decide) (backOf (W := 0) (rm_size l Z a0 hw [] t ch nn cs (own_upd (own_upd (fun _ => 0) jj p6) ii p5) T4.heap n0 I4) hZ (hw _ (List.mem_of_getElem? (i := 42) rfl)) (hw _ (List.mem_of_getElem? (i := 4) rfl)) (by decide) (by decide)) q8a q8c (g := (mkF m 152 #[.val (.int p1), .val (.int p2), .val (.int p3), .val (.int p4), .val (.long p5), .second, .val (.long p6), .second, .val (.int nn), .val (.int ii), .val (.int jj), .val (.int kk), .val (.ref t), .val (.long p6), .second, .val (.long (0 : Int64)), .second] [(.ref t)])) rfl (by rw [hml]; rfl) (Steps.refl _) (argsL := []) (rest := []) (lenOf pd_4 rfl) rfl (by show 2 * 0 + _ ≤ _; exact Nat.le_of_eq rfl) (hb hby at_152) (fun _ _ => ⟨rfl, e7, (by decide : 6 + 0 ≤ _), (by decide : 131078 + 0 ≤ _)⟩)
  dsimp only [Pt.U, Pt.locs, Pt.cells, Pt.slots] at X8 l8 y8 z8 st8 hQ8
  subst l8 y8 z8
  obtain ⟨rfl, N8q, e8⟩ := hQ8
  have N8 := Fr.app N7 N8q
  obtain ⟨fs, hr, hrun, hended, hW, hsame⟩ := X8.leave (v := some (.int (1 : Int32))) (fun h => by rw [Bd.returns] at h; cases h)
  refine ⟨_, _, pre0 _ ?_, hrun, hended, _, _, rfl, ?_, ⟨_, rfl⟩, hW, hsame.mono (by decide) (by decide)⟩
  · show Steps p.tables e below (s₁.setTop (mkF m 0 #[.val (.int p1), .val (.int p2), .val (.int p3), .val (.int p4), .val (.long p5), .second, .val (.long p6), .second, .unset, .unset, .unset, .unset, .unset, .unset, .unset, .unset, .unset] [])) _
    refine XS.iconst X0.here hx rfl (hb hby at_0) ?_
    show Steps p.tables e below (s₁.setTop (mkF m 1 #[.val (.int p1), .val (.int p2), .val (.int p3), .val (.int p4), .val (.long p5), .second, .val (.long p6), .second, .unset, .unset, .unset, .unset, .unset, .unset, .unset, .unset, .unset] [(.int (1 : Int32))])) _
    refine XS.iloadN X0.here hx rfl (hb hby at_1) rfl ?_
    show Steps p.tables e below (s₁.setTop (mkF m 2 #[.val (.int p1), .val (.int p2), .val (.int p3), .val (.int p4), .val (.long p5), .second, .val (.long p6), .second, .unset, .unset, .unset, .unset, .unset, .unset, .unset, .unset, .unset] [(.int p1), (.int (1 : Int32))])) _
    refine X0.ldcInt hx hown (mvT hZ (hw _ (List.mem_of_getElem? (i := 0) rfl))) (g := (mkF m 2 #[.val (.int p1), .val (.int p2), .val (.int p3), .val (.int p4), .val (.long p5), .second, .val (.long p6), .second, .unset, .unset, .unset, .unset, .unset, .unset, .unset, .unset, .unset] [(.int p1), (.int (1 : Int32))])) rfl (hb hby at_2) _ ?_
    show Steps p.tables e below (s₁.setTop (mkF m 4 #[.val (.int p1), .val (.int p2), .val (.int p3), .val (.int p4), .val (.long p5), .second, .val (.long p6), .second, .unset, .unset, .unset, .unset, .unset, .unset, .unset, .unset, .unset] [(.int (131071 : Int32)), (.int p1), (.int (1 : Int32))])) _
    refine XS.iand X0.here hx rfl (hb hby at_4) rfl ?_
    show Steps p.tables e below (s₁.setTop (mkF m 5 #[.val (.int p1), .val (.int p2), .val (.int p3), .val (.int p4), .val (.long p5), .second, .val (.long p6), .second, .unset, .unset, .unset, .unset, .unset, .unset, .unset, .unset, .unset] [(.int (p1 &&& (131071 : Int32))), (.int (1 : Int32))])) _
    refine XS.iadd X0.here hx rfl (hb hby at_5) rfl ?_
    rw [hnn]
    show Steps p.tables e below (s₁.setTop (mkF m 6 #[.val (.int p1), .val (.int p2), .val (.int p3), .val (.int p4), .val (.long p5), .second, .val (.long p6), .second, .unset, .unset, .unset, .unset, .unset, .unset, .unset, .unset, .unset] [(.int nn)])) _
    refine XS.istore X0.here hx rfl (hb hby at_6) rfl (l' := #[.val (.int p1), .val (.int p2), .val (.int p3), .val (.int p4), .val (.long p5), .second, .val (.long p6), .second, .val (.int nn), .unset, .unset, .unset, .unset, .unset, .unset, .unset, .unset]) rfl ?_
    show Steps p.tables e below (s₁.setTop (mkF m 8 #[.val (.int p1), .val (.int p2), .val (.int p3), .val (.int p4), .val (.long p5), .second, .val (.long p6), .second, .val (.int nn), .unset, .unset, .unset, .unset, .unset, .unset, .unset, .unset] [])) _
    refine XS.iloadN X0.here hx rfl (hb hby at_8) rfl ?_
    show Steps p.tables e below (s₁.setTop (mkF m 9 #[.val (.int p1), .val (.int p2), .val (.int p3), .val (.int p4), .val (.long p5), .second, .val (.long p6), .second, .val (.int nn), .unset, .unset, .unset, .unset, .unset, .unset, .unset, .unset] [(.int p2)])) _
    refine X0.ldcInt hx hown (mvT hZ (hw _ (List.mem_of_getElem? (i := 1) rfl))) (g := (mkF m 9 #[.val (.int p1), .val (.int p2), .val (.int p3), .val (.int p4), .val (.long p5), .second, .val (.long p6), .second, .val (.int nn), .unset, .unset, .unset, .unset, .unset, .unset, .unset, .unset] [(.int p2)])) rfl (hb hby at_9) _ ?_
    show Steps p.tables e below (s₁.setTop (mkF m 11 #[.val (.int p1), .val (.int p2), .val (.int p3), .val (.int p4), .val (.long p5), .second, .val (.long p6), .second, .val (.int nn), .unset, .unset, .unset, .unset, .unset, .unset, .unset, .unset] [(.int (2147483647 : Int32)), (.int p2)])) _
    refine XS.iand X0.here hx rfl (hb hby at_11) rfl ?_
    show Steps p.tables e below (s₁.setTop (mkF m 12 #[.val (.int p1), .val (.int p2), .val (.int p3), .val (.int p4), .val (.long p5), .second, .val (.long p6), .second, .val (.int nn), .unset, .unset, .unset, .unset, .unset, .unset, .unset, .unset] [(.int (p2 &&& (2147483647 : Int32)))])) _
    refine XS.iload X0.here hx rfl (hb hby at_12) rfl ?_
    show Steps p.tables e below (s₁.setTop (mkF m 14 #[.val (.int p1), .val (.int p2), .val (.int p3), .val (.int p4), .val (.long p5), .second, .val (.long p6), .second, .val (.int nn), .unset, .unset, .unset, .unset, .unset, .unset, .unset, .unset] [(.int nn), (.int (p2 &&& (2147483647 : Int32)))])) _
    refine Jvm.RoadKit.iremM (g := (mkF m 14 #[.val (.int p1), .val (.int p2), .val (.int p3), .val (.int p4), .val (.long p5), .second, .val (.long p6), .second, .val (.int nn), .unset, .unset, .unset, .unset, .unset, .unset, .unset, .unset] [(.int nn), (.int (p2 &&& (2147483647 : Int32)))])) X0 hx rfl (hb hby at_14) rfl (own_ne0 nn hn1) ?_
    rw [hii]
    show Steps p.tables e below (s₁.setTop (mkF m 15 #[.val (.int p1), .val (.int p2), .val (.int p3), .val (.int p4), .val (.long p5), .second, .val (.long p6), .second, .val (.int nn), .unset, .unset, .unset, .unset, .unset, .unset, .unset, .unset] [(.int ii)])) _
    refine XS.istore X0.here hx rfl (hb hby at_15) rfl (l' := #[.val (.int p1), .val (.int p2), .val (.int p3), .val (.int p4), .val (.long p5), .second, .val (.long p6), .second, .val (.int nn), .val (.int ii), .unset, .unset, .unset, .unset, .unset, .unset, .unset]) rfl ?_
    show Steps p.tables e below (s₁.setTop (mkF m 17 #[.val (.int p1), .val (.int p2), .val (.int p3), .val (.int p4), .val (.long p5), .second, .val (.long p6), .second, .val (.int nn), .val (.int ii), .unset, .unset, .unset, .unset, .unset, .unset, .unset] [])) _
    refine XS.iloadN X0.here hx rfl (hb hby at_17) rfl ?_
    show Steps p.tables e below (s₁.setTop (mkF m 18 #[.val (.int p1), .val (.int p2), .val (.int p3), .val (.int p4), .val (.long p5), .second, .val (.long p6), .second, .val (.int nn), .val (.int ii), .unset, .unset, .unset, .unset, .unset, .unset, .unset] [(.int p3)])) _
    refine X0.ldcInt hx hown (mvT hZ (hw _ (List.mem_of_getElem? (i := 1) rfl))) (g := (mkF m 18 #[.val (.int p1), .val (.int p2), .val (.int p3), .val (.int p4), .val (.long p5), .second, .val (.long p6), .second, .val (.int nn), .val (.int ii), .unset, .unset, .unset, .unset, .unset, .unset, .unset] [(.int p3)])) rfl (hb hby at_18) _ ?_
    show Steps p.tables e below (s₁.setTop (mkF m 20 #[.val (.int p1), .val (.int p2), .val (.int p3), .val (.int p4), .val (.long p5), .second, .val (.long p6), .second, .val (.int nn), .val (.int ii), .unset, .unset, .unset, .unset, .unset, .unset, .unset] [(.int (2147483647 : Int32)), (.int p3)])) _
    refine XS.iand X0.here hx rfl (hb hby at_20) rfl ?_
    show Steps p.tables e below (s₁.setTop (mkF m 21 #[.val (.int p1), .val (.int p2), .val (.int p3), .val (.int p4), .val (.long p5), .second, .val (.long p6), .second, .val (.int nn), .val (.int ii), .unset, .unset, .unset, .unset, .unset, .unset, .unset] [(.int (p3 &&& (2147483647 : Int32)))])) _
    refine XS.iload X0.here hx rfl (hb hby at_21) rfl ?_
    show Steps p.tables e below (s₁.setTop (mkF m 23 #[.val (.int p1), .val (.int p2), .val (.int p3), .val (.int p4), .val (.long p5), .second, .val (.long p6), .second, .val (.int nn), .val (.int ii), .unset, .unset, .unset, .unset, .unset, .unset, .unset] [(.int nn), (.int (p3 &&& (2147483647 : Int32)))])) _
    refine Jvm.RoadKit.iremM (g := (mkF m 23 #[.val (.int p1), .val (.int p2), .val (.int p3), .val (.int p4), .val (.long p5), .second, .val (.long p6), .second, .val (.int nn), .val (.int ii), .unset, .unset, .unset, .unset, .unset, .unset, .unset] [(.int nn), (.int (p3 &&& (2147483647 : Int32)))])) X0 hx rfl (hb hby at_23) rfl (own_ne0 nn hn1) ?_
    rw [hjj]
    show Steps p.tables e below (s₁.setTop (mkF m 24 #[.val (.int p1), .val (.int p2), .val (.int p3), .val (.int p4), .val (.long p5), .second, .val (.long p6), .second, .val (.int nn), .val (.int ii), .unset, .unset, .unset, .unset, .unset, .unset, .unset] [(.int jj)])) _
    refine XS.istore X0.here hx rfl (hb hby at_24) rfl (l' := #[.val (.int p1), .val (.int p2), .val (.int p3), .val (.int p4), .val (.long p5), .second, .val (.long p6), .second, .val (.int nn), .val (.int ii), .val (.int jj), .unset, .unset, .unset, .unset, .unset, .unset]) rfl ?_
    show Steps p.tables e below (s₁.setTop (mkF m 26 #[.val (.int p1), .val (.int p2), .val (.int p3), .val (.int p4), .val (.long p5), .second, .val (.long p6), .second, .val (.int nn), .val (.int ii), .val (.int jj), .unset, .unset, .unset, .unset, .unset, .unset] [])) _
    refine XS.iloadN X0.here hx rfl (hb hby at_26) rfl ?_
    show Steps p.tables e below (s₁.setTop (mkF m 27 #[.val (.int p1), .val (.int p2), .val (.int p3), .val (.int p4), .val (.long p5), .second, .val (.long p6), .second, .val (.int nn), .val (.int ii), .val (.int jj), .unset, .unset, .unset, .unset, .unset, .unset] [(.int p4)])) _
    refine X0.ldcInt hx hown (mvT hZ (hw _ (List.mem_of_getElem? (i := 1) rfl))) (g := (mkF m 27 #[.val (.int p1), .val (.int p2), .val (.int p3), .val (.int p4), .val (.long p5), .second, .val (.long p6), .second, .val (.int nn), .val (.int ii), .val (.int jj), .unset, .unset, .unset, .unset, .unset, .unset] [(.int p4)])) rfl (hb hby at_27) _ ?_
    show Steps p.tables e below (s₁.setTop (mkF m 29 #[.val (.int p1), .val (.int p2), .val (.int p3), .val (.int p4), .val (.long p5), .second, .val (.long p6), .second, .val (.int nn), .val (.int ii), .val (.int jj), .unset, .unset, .unset, .unset, .unset, .unset] [(.int (2147483647 : Int32)), (.int p4)])) _
    refine XS.iand X0.here hx rfl (hb hby at_29) rfl ?_
    show Steps p.tables e below (s₁.setTop (mkF m 30 #[.val (.int p1), .val (.int p2), .val (.int p3), .val (.int p4), .val (.long p5), .second, .val (.long p6), .second, .val (.int nn), .val (.int ii), .val (.int jj), .unset, .unset, .unset, .unset, .unset, .unset] [(.int (p4 &&& (2147483647 : Int32)))])) _
    refine XS.iload X0.here hx rfl (hb hby at_30) rfl ?_
    show Steps p.tables e below (s₁.setTop (mkF m 32 #[.val (.int p1), .val (.int p2), .val (.int p3), .val (.int p4), .val (.long p5), .second, .val (.long p6), .second, .val (.int nn), .val (.int ii), .val (.int jj), .unset, .unset, .unset, .unset, .unset, .unset] [(.int nn), (.int (p4 &&& (2147483647 : Int32)))])) _
    refine Jvm.RoadKit.iremM (g := (mkF m 32 #[.val (.int p1), .val (.int p2), .val (.int p3), .val (.int p4), .val (.long p5), .second, .val (.long p6), .second, .val (.int nn), .val (.int ii), .val (.int jj), .unset, .unset, .unset, .unset, .unset, .unset] [(.int nn), (.int (p4 &&& (2147483647 : Int32)))])) X0 hx rfl (hb hby at_32) rfl (own_ne0 nn hn1) ?_
    rw [hkk]
    show Steps p.tables e below (s₁.setTop (mkF m 33 #[.val (.int p1), .val (.int p2), .val (.int p3), .val (.int p4), .val (.long p5), .second, .val (.long p6), .second, .val (.int nn), .val (.int ii), .val (.int jj), .unset, .unset, .unset, .unset, .unset, .unset] [(.int kk)])) _
    refine XS.istore X0.here hx rfl (hb hby at_33) rfl (l' := #[.val (.int p1), .val (.int p2), .val (.int p3), .val (.int p4), .val (.long p5), .second, .val (.long p6), .second, .val (.int nn), .val (.int ii), .val (.int jj), .val (.int kk), .unset, .unset, .unset, .unset, .unset]) rfl ?_
    show Steps p.tables e below (s₁.setTop (mkF m 35 #[.val (.int p1), .val (.int p2), .val (.int p3), .val (.int p4), .val (.long p5), .second, .val (.long p6), .second, .val (.int nn), .val (.int ii), .val (.int jj), .val (.int kk), .unset, .unset, .unset, .unset, .unset] [])) _
    refine st1 _ ?_
    show Steps p.tables e below (T1.setTop (mkF m 38 #[.val (.int p1), .val (.int p2), .val (.int p3), .val (.int p4), .val (.long p5), .second, .val (.long p6), .second, .val (.int nn), .val (.int ii), .val (.int jj), .val (.int kk), .unset, .unset, .unset, .unset, .unset] [(.ref t)])) _
    refine XS.dup X1.here hx rfl (hb hby at_38) rfl rfl ?_
    show Steps p.tables e below (T1.setTop (mkF m 39 #[.val (.int p1), .val (.int p2), .val (.int p3), .val (.int p4), .val (.long p5), .second, .val (.long p6), .second, .val (.int nn), .val (.int ii), .val (.int jj), .val (.int kk), .unset, .unset, .unset, .unset, .unset] [(.ref t), (.ref t)])) _
    refine XS.iload X1.here hx rfl (hb hby at_39) rfl ?_
    show Steps p.tables e below (T1.setTop (mkF m 41 #[.val (.int p1), .val (.int p2), .val (.int p3), .val (.int p4), .val (.long p5), .second, .val (.long p6), .second, .val (.int nn), .val (.int ii), .val (.int jj), .val (.int kk), .unset, .unset, .unset, .unset, .unset] [(.int nn), (.ref t), (.ref t)])) _
    refine st2.trans ?_
    show Steps p.tables e below (T2.setTop (mkF m 44 #[.val (.int p1), .val (.int p2), .val (.int p3), .val (.int p4), .val (.long p5), .second, .val (.long p6), .second, .val (.int nn), .val (.int ii), .val (.int jj), .val (.int kk), .unset, .unset, .unset, .unset, .unset] [(.ref t)])) _
    refine XS.astore X2.here hx rfl (hb hby at_44) rfl rfl (l' := #[.val (.int p1), .val (.int p2), .val (.int p3), .val (.int p4), .val (.long p5), .second, .val (.long p6), .second, .val (.int nn), .val (.int ii), .val (.int jj), .val (.int kk), .val (.ref t), .unset, .unset, .unset, .unset]) rfl ?_
    show Steps p.tables e below (T2.setTop (mkF m 46 #[.val (.int p1), .val (.int p2), .val (.int p3), .val (.int p4), .val (.long p5), .second, .val (.long p6), .second, .val (.int nn), .val (.int ii), .val (.int jj), .val (.int kk), .val (.ref t), .unset, .unset, .unset, .unset] [])) _
    refine XS.aload X2.here hx rfl (hb hby at_46) rfl rfl ?_
    show Steps p.tables e below (T2.setTop (mkF m 48 #[.val (.int p1), .val (.int p2), .val (.int p3), .val (.int p4), .val (.long p5), .second, .val (.long p6), .second, .val (.int nn), .val (.int ii), .val (.int jj), .val (.int kk), .val (.ref t), .unset, .unset, .unset, .unset] [(.ref t)])) _
    refine XS.iload X2.here hx rfl (hb hby at_48) rfl ?_
    show Steps p.tables e below (T2.setTop (mkF m 50 #[.val (.int p1), .val (.int p2), .val (.int p3), .val (.int p4), .val (.long p5), .second, .val (.long p6), .second, .val (.int nn), .val (.int ii), .val (.int jj), .val (.int kk), .val (.ref t), .unset, .unset, .unset, .unset] [(.int jj), (.ref t)])) _
    refine XS.lload X2.here hx rfl (hb hby at_50) rfl ?_
    show Steps p.tables e below (T2.setTop (mkF m 52 #[.val (.int p1), .val (.int p2), .val (.int p3), .val (.int p4), .val (.long p5), .second, .val (.long p6), .second, .val (.int nn), .val (.int ii), .val (.int jj), .val (.int kk), .val (.ref t), .unset, .unset, .unset, .unset] [(.long p6), (.int jj), (.ref t)])) _
    refine st3.trans ?_
    show Steps p.tables e below (T3.setTop (mkF m 55 #[.val (.int p1), .val (.int p2), .val (.int p3), .val (.int p4), .val (.long p5), .second, .val (.long p6), .second, .val (.int nn), .val (.int ii), .val (.int jj), .val (.int kk), .val (.ref t), .unset, .unset, .unset, .unset] [])) _
    refine XS.aload X3.here hx rfl (hb hby at_55) rfl rfl ?_
    show Steps p.tables e below (T3.setTop (mkF m 57 #[.val (.int p1), .val (.int p2), .val (.int p3), .val (.int p4), .val (.long p5), .second, .val (.long p6), .second, .val (.int nn), .val (.int ii), .val (.int jj), .val (.int kk), .val (.ref t), .unset, .unset, .unset, .unset] [(.ref t)])) _
    refine XS.iload X3.here hx rfl (hb hby at_57) rfl ?_
    show Steps p.tables e below (T3.setTop (mkF m 59 #[.val (.int p1), .val (.int p2), .val (.int p3), .val (.int p4), .val (.long p5), .second, .val (.long p6), .second, .val (.int nn), .val (.int ii), .val (.int jj), .val (.int kk), .val (.ref t), .unset, .unset, .unset, .unset] [(.int ii), (.ref t)])) _
    refine XS.lload X3.here hx rfl (hb hby at_59) rfl ?_
    show Steps p.tables e below (T3.setTop (mkF m 61 #[.val (.int p1), .val (.int p2), .val (.int p3), .val (.int p4), .val (.long p5), .second, .val (.long p6), .second, .val (.int nn), .val (.int ii), .val (.int jj), .val (.int kk), .val (.ref t), .unset, .unset, .unset, .unset] [(.long p5), (.int ii), (.ref t)])) _
    refine st4.trans ?_
    show Steps p.tables e below (T4.setTop (mkF m 64 #[.val (.int p1), .val (.int p2), .val (.int p3), .val (.int p4), .val (.long p5), .second, .val (.long p6), .second, .val (.int nn), .val (.int ii), .val (.int jj), .val (.int kk), .val (.ref t), .unset, .unset, .unset, .unset] [])) _
    refine XS.iload X4.here hx rfl (hb hby at_64) rfl ?_
    show Steps p.tables e below (T4.setTop (mkF m 66 #[.val (.int p1), .val (.int p2), .val (.int p3), .val (.int p4), .val (.long p5), .second, .val (.long p6), .second, .val (.int nn), .val (.int ii), .val (.int jj), .val (.int kk), .val (.ref t), .unset, .unset, .unset, .unset] [(.int jj)])) _
    refine XS.iload X4.here hx rfl (hb hby at_66) rfl ?_
    show Steps p.tables e below (T4.setTop (mkF m 68 #[.val (.int p1), .val (.int p2), .val (.int p3), .val (.int p4), .val (.long p5), .second, .val (.long p6), .second, .val (.int nn), .val (.int ii), .val (.int jj), .val (.int kk), .val (.ref t), .unset, .unset, .unset, .unset] [(.int ii), (.int jj)])) _
    refine XS.icmpYes X4.here hx rfl (pc0 := 68) (pc' := 76) rfl (hb hby at_68) rfl (feq hji).2 (by decide) (by decide) ?_
    show Steps p.tables e below (T4.setTop (mkF m 76 #[.val (.int p1), .val (.int p2), .val (.int p3), .val (.int p4), .val (.long p5), .second, .val (.long p6), .second, .val (.int nn), .val (.int ii), .val (.int jj), .val (.int kk), .val (.ref t), .unset, .unset, .unset, .unset] [])) _
    refine XS.lload X4.here hx rfl (hb hby at_76) rfl ?_
    show Steps p.tables e below (T4.setTop (mkF m 78 #[.val (.int p1), .val (.int p2), .val (.int p3), .val (.int p4), .val (.long p5), .second, .val (.long p6), .second, .val (.int nn), .val (.int ii), .val (.int jj), .val (.int kk), .val (.ref t), .unset, .unset, .unset, .unset] [(.long p6)])) _
    refine XS.lstore X4.here hx rfl (hb hby at_78) rfl (l' := #[.val (.int p1), .val (.int p2), .val (.int p3), .val (.int p4), .val (.long p5), .second, .val (.long p6), .second, .val (.int nn), .val (.int ii), .val (.int jj), .val (.int kk), .val (.ref t), .val (.long p6), .second, .unset, .unset]) rfl ?_
    show Steps p.tables e below (T4.setTop (mkF m 80 #[.val (.int p1), .val (.int p2), .val (.int p3), .val (.int p4), .val (.long p5), .second, .val (.long p6), .second, .val (.int nn), .val (.int ii), .val (.int jj), .val (.int kk), .val (.ref t), .val (.long p6), .second, .unset, .unset] [])) _
    refine XS.iload X4.here hx rfl (hb hby at_80) rfl ?_
    show Steps p.tables e below (T4.setTop (mkF m 82 #[.val (.int p1), .val (.int p2), .val (.int p3), .val (.int p4), .val (.long p5), .second, .val (.long p6), .second, .val (.int nn), .val (.int ii), .val (.int jj), .val (.int kk), .val (.ref t), .val (.long p6), .second, .unset, .unset] [(.int kk)])) _
    refine XS.iload X4.here hx rfl (hb hby at_82) rfl ?_
    show Steps p.tables e below (T4.setTop (mkF m 84 #[.val (.int p1), .val (.int p2), .val (.int p3), .val (.int p4), .val (.long p5), .second, .val (.long p6), .second, .val (.int nn), .val (.int ii), .val (.int jj), .val (.int kk), .val (.ref t), .val (.long p6), .second, .unset, .unset] [(.int ii), (.int kk)])) _
    refine XS.icmpYes X4.here hx rfl (pc0 := 84) (pc' := 94) rfl (hb hby at_84) rfl (feq hki).2 (by decide) (by decide) ?_
    show Steps p.tables e below (T4.setTop (mkF m 94 #[.val (.int p1), .val (.int p2), .val (.int p3), .val (.int p4), .val (.long p5), .second, .val (.long p6), .second, .val (.int nn), .val (.int ii), .val (.int jj), .val (.int kk), .val (.ref t), .val (.long p6), .second, .unset, .unset] [])) _
    refine XS.iload X4.here hx rfl (hb hby at_94) rfl ?_
    show Steps p.tables e below (T4.setTop (mkF m 96 #[.val (.int p1), .val (.int p2), .val (.int p3), .val (.int p4), .val (.long p5), .second, .val (.long p6), .second, .val (.int nn), .val (.int ii), .val (.int jj), .val (.int kk), .val (.ref t), .val (.long p6), .second, .unset, .unset] [(.int kk)])) _
    refine XS.iload X4.here hx rfl (hb hby at_96) rfl ?_
    show Steps p.tables e below (T4.setTop (mkF m 98 #[.val (.int p1), .val (.int p2), .val (.int p3), .val (.int p4), .val (.long p5), .second, .val (.long p6), .second, .val (.int nn), .val (.int ii), .val (.int jj), .val (.int kk), .val (.ref t), .val (.long p6), .second, .unset, .unset] [(.int jj), (.int kk)])) _
    refine XS.icmpYes X4.here hx rfl (pc0 := 98) (pc' := 108) rfl (hb hby at_98) rfl (feq hkj).2 (by decide) (by decide) ?_
    show Steps p.tables e below (T4.setTop (mkF m 108 #[.val (.int p1), .val (.int p2), .val (.int p3), .val (.int p4), .val (.long p5), .second, .val (.long p6), .second, .val (.int nn), .val (.int ii), .val (.int jj), .val (.int kk), .val (.ref t), .val (.long p6), .second, .unset, .unset] [])) _
    refine XS.lconst X4.here hx rfl (hb hby at_108) ?_
    show Steps p.tables e below (T4.setTop (mkF m 109 #[.val (.int p1), .val (.int p2), .val (.int p3), .val (.int p4), .val (.long p5), .second, .val (.long p6), .second, .val (.int nn), .val (.int ii), .val (.int jj), .val (.int kk), .val (.ref t), .val (.long p6), .second, .unset, .unset] [(.long (0 : Int64))])) _
    refine XS.lstore X4.here hx rfl (hb hby at_109) rfl (l' := #[.val (.int p1), .val (.int p2), .val (.int p3), .val (.int p4), .val (.long p5), .second, .val (.long p6), .second, .val (.int nn), .val (.int ii), .val (.int jj), .val (.int kk), .val (.ref t), .val (.long p6), .second, .val (.long (0 : Int64)), .second]) rfl ?_
    show Steps p.tables e below (T4.setTop (mkF m 111 #[.val (.int p1), .val (.int p2), .val (.int p3), .val (.int p4), .val (.long p5), .second, .val (.long p6), .second, .val (.int nn), .val (.int ii), .val (.int jj), .val (.int kk), .val (.ref t), .val (.long p6), .second, .val (.long (0 : Int64)), .second] [])) _
    refine XS.aload X4.here hx rfl (hb hby at_111) rfl rfl ?_
    show Steps p.tables e below (T4.setTop (mkF m 113 #[.val (.int p1), .val (.int p2), .val (.int p3), .val (.int p4), .val (.long p5), .second, .val (.long p6), .second, .val (.int nn), .val (.int ii), .val (.int jj), .val (.int kk), .val (.ref t), .val (.long p6), .second, .val (.long (0 : Int64)), .second] [(.ref t)])) _
    refine XS.iload X4.here hx rfl (hb hby at_113) rfl ?_
    show Steps p.tables e below (T4.setTop (mkF m 115 #[.val (.int p1), .val (.int p2), .val (.int p3), .val (.int p4), .val (.long p5), .second, .val (.long p6), .second, .val (.int nn), .val (.int ii), .val (.int jj), .val (.int kk), .val (.ref t), .val (.long p6), .second, .val (.long (0 : Int64)), .second] [(.int ii), (.ref t)])) _
    refine st5.trans ?_
    show Steps p.tables e below (T5.setTop (mkF m 118 #[.val (.int p1), .val (.int p2), .val (.int p3), .val (.int p4), .val (.long p5), .second, .val (.long p6), .second, .val (.int nn), .val (.int ii), .val (.int jj), .val (.int kk), .val (.ref t), .val (.long p6), .second, .val (.long (0 : Int64)), .second] [(.long p5)])) _
    refine XS.lload X5.here hx rfl (hb hby at_118) rfl ?_
    show Steps p.tables e below (T5.setTop (mkF m 120 #[.val (.int p1), .val (.int p2), .val (.int p3), .val (.int p4), .val (.long p5), .second, .val (.long p6), .second, .val (.int nn), .val (.int ii), .val (.int jj), .val (.int kk), .val (.ref t), .val (.long p6), .second, .val (.long (0 : Int64)), .second] [(.long p5), (.long p5)])) _
    refine XS.lcmp X5.here hx rfl (hb hby at_120) rfl ?_
    show Steps p.tables e below (T5.setTop (mkF m 121 #[.val (.int p1), .val (.int p2), .val (.int p3), .val (.int p4), .val (.long p5), .second, .val (.long p6), .second, .val (.int nn), .val (.int ii), .val (.int jj), .val (.int kk), .val (.ref t), .val (.long p6), .second, .val (.long (0 : Int64)), .second] [(.int (lcmpW p5 p5))])) _
    refine XS.ifNo X5.here hx rfl (hb hby at_121) rfl ((if0 _ _).trans (teq (own_lc0 p5)).2) ?_
    show Steps p.tables e below (T5.setTop (mkF m 124 #[.val (.int p1), .val (.int p2), .val (.int p3), .val (.int p4), .val (.long p5), .second, .val (.long p6), .second, .val (.int nn), .val (.int ii), .val (.int jj), .val (.int kk), .val (.ref t), .val (.long p6), .second, .val (.long (0 : Int64)), .second] [])) _
    refine XS.aload X5.here hx rfl (hb hby at_124) rfl rfl ?_
    show Steps p.tables e below (T5.setTop (mkF m 126 #[.val (.int p1), .val (.int p2), .val (.int p3), .val (.int p4), .val (.long p5), .second, .val (.long p6), .second, .val (.int nn), .val (.int ii), .val (.int jj), .val (.int kk), .val (.ref t), .val (.long p6), .second, .val (.long (0 : Int64)), .second] [(.ref t)])) _
    refine XS.iload X5.here hx rfl (hb hby at_126) rfl ?_
    show Steps p.tables e below (T5.setTop (mkF m 128 #[.val (.int p1), .val (.int p2), .val (.int p3), .val (.int p4), .val (.long p5), .second, .val (.long p6), .second, .val (.int nn), .val (.int ii), .val (.int jj), .val (.int kk), .val (.ref t), .val (.long p6), .second, .val (.long (0 : Int64)), .second] [(.int jj), (.ref t)])) _
    refine st6.trans ?_
    show Steps p.tables e below (T6.setTop (mkF m 131 #[.val (.int p1), .val (.int p2), .val (.int p3), .val (.int p4), .val (.long p5), .second, .val (.long p6), .second, .val (.int nn), .val (.int ii), .val (.int jj), .val (.int kk), .val (.ref t), .val (.long p6), .second, .val (.long (0 : Int64)), .second] [(.long p6)])) _
    refine XS.lload X6.here hx rfl (hb hby at_131) rfl ?_
    show Steps p.tables e below (T6.setTop (mkF m 133 #[.val (.int p1), .val (.int p2), .val (.int p3), .val (.int p4), .val (.long p5), .second, .val (.long p6), .second, .val (.int nn), .val (.int ii), .val (.int jj), .val (.int kk), .val (.ref t), .val (.long p6), .second, .val (.long (0 : Int64)), .second] [(.long p6), (.long p6)])) _
    refine XS.lcmp X6.here hx rfl (hb hby at_133) rfl ?_
    show Steps p.tables e below (T6.setTop (mkF m 134 #[.val (.int p1), .val (.int p2), .val (.int p3), .val (.int p4), .val (.long p5), .second, .val (.long p6), .second, .val (.int nn), .val (.int ii), .val (.int jj), .val (.int kk), .val (.ref t), .val (.long p6), .second, .val (.long (0 : Int64)), .second] [(.int (lcmpW p6 p6))])) _
    refine XS.ifNo X6.here hx rfl (hb hby at_134) rfl ((if0 _ _).trans (teq (own_lc0 p6)).2) ?_
    show Steps p.tables e below (T6.setTop (mkF m 137 #[.val (.int p1), .val (.int p2), .val (.int p3), .val (.int p4), .val (.long p5), .second, .val (.long p6), .second, .val (.int nn), .val (.int ii), .val (.int jj), .val (.int kk), .val (.ref t), .val (.long p6), .second, .val (.long (0 : Int64)), .second] [])) _
    refine XS.aload X6.here hx rfl (hb hby at_137) rfl rfl ?_
    show Steps p.tables e below (T6.setTop (mkF m 139 #[.val (.int p1), .val (.int p2), .val (.int p3), .val (.int p4), .val (.long p5), .second, .val (.long p6), .second, .val (.int nn), .val (.int ii), .val (.int jj), .val (.int kk), .val (.ref t), .val (.long p6), .second, .val (.long (0 : Int64)), .second] [(.ref t)])) _
    refine XS.iload X6.here hx rfl (hb hby at_139) rfl ?_
    show Steps p.tables e below (T6.setTop (mkF m 141 #[.val (.int p1), .val (.int p2), .val (.int p3), .val (.int p4), .val (.long p5), .second, .val (.long p6), .second, .val (.int nn), .val (.int ii), .val (.int jj), .val (.int kk), .val (.ref t), .val (.long p6), .second, .val (.long (0 : Int64)), .second] [(.int kk), (.ref t)])) _
    refine st7.trans ?_
    show Steps p.tables e below (T7.setTop (mkF m 144 #[.val (.int p1), .val (.int p2), .val (.int p3), .val (.int p4), .val (.long p5), .second, .val (.long p6), .second, .val (.int nn), .val (.int ii), .val (.int jj), .val (.int kk), .val (.ref t), .val (.long p6), .second, .val (.long (0 : Int64)), .second] [(.long (0 : Int64))])) _
    refine XS.lload X7.here hx rfl (hb hby at_144) rfl ?_
    show Steps p.tables e below (T7.setTop (mkF m 146 #[.val (.int p1), .val (.int p2), .val (.int p3), .val (.int p4), .val (.long p5), .second, .val (.long p6), .second, .val (.int nn), .val (.int ii), .val (.int jj), .val (.int kk), .val (.ref t), .val (.long p6), .second, .val (.long (0 : Int64)), .second] [(.long (0 : Int64)), (.long (0 : Int64))])) _
    refine XS.lcmp X7.here hx rfl (hb hby at_146) rfl ?_
    show Steps p.tables e below (T7.setTop (mkF m 147 #[.val (.int p1), .val (.int p2), .val (.int p3), .val (.int p4), .val (.long p5), .second, .val (.long p6), .second, .val (.int nn), .val (.int ii), .val (.int jj), .val (.int kk), .val (.ref t), .val (.long p6), .second, .val (.long (0 : Int64)), .second] [(.int (lcmpW (0 : Int64) (0 : Int64)))])) _
    refine XS.ifNo X7.here hx rfl (hb hby at_147) rfl ((if0 _ _).trans (teq (own_lc0 (0 : Int64))).2) ?_
    show Steps p.tables e below (T7.setTop (mkF m 150 #[.val (.int p1), .val (.int p2), .val (.int p3), .val (.int p4), .val (.long p5), .second, .val (.long p6), .second, .val (.int nn), .val (.int ii), .val (.int jj), .val (.int kk), .val (.ref t), .val (.long p6), .second, .val (.long (0 : Int64)), .second] [])) _
    refine XS.aload X7.here hx rfl (hb hby at_150) rfl rfl ?_
    show Steps p.tables e below (T7.setTop (mkF m 152 #[.val (.int p1), .val (.int p2), .val (.int p3), .val (.int p4), .val (.long p5), .second, .val (.long p6), .second, .val (.int nn), .val (.int ii), .val (.int jj), .val (.int kk), .val (.ref t), .val (.long p6), .second, .val (.long (0 : Int64)), .second] [(.ref t)])) _
    refine st8.trans ?_
    show Steps p.tables e below (T8.setTop (mkF m 155 #[.val (.int p1), .val (.int p2), .val (.int p3), .val (.int p4), .val (.long p5), .second, .val (.long p6), .second, .val (.int nn), .val (.int ii), .val (.int jj), .val (.int kk), .val (.ref t), .val (.long p6), .second, .val (.long (0 : Int64)), .second] [(.int nn)])) _
    refine XS.iload X8.here hx rfl (hb hby at_155) rfl ?_
    show Steps p.tables e below (T8.setTop (mkF m 157 #[.val (.int p1), .val (.int p2), .val (.int p3), .val (.int p4), .val (.long p5), .second, .val (.long p6), .second, .val (.int nn), .val (.int ii), .val (.int jj), .val (.int kk), .val (.ref t), .val (.long p6), .second, .val (.long (0 : Int64)), .second] [(.int nn), (.int nn)])) _
    refine XS.icmpNo X8.here hx rfl (hb hby at_157) rfl (teq (rfl : nn = nn)).2 ?_
    show Steps p.tables e below (T8.setTop (mkF m 160 #[.val (.int p1), .val (.int p2), .val (.int p3), .val (.int p4), .val (.long p5), .second, .val (.long p6), .second, .val (.int nn), .val (.int ii), .val (.int jj), .val (.int kk), .val (.ref t), .val (.long p6), .second, .val (.long (0 : Int64)), .second] [])) _
    refine XS.iconst X8.here hx rfl (hb hby at_160) ?_
    show Steps p.tables e below (T8.setTop (mkF m 161 #[.val (.int p1), .val (.int p2), .val (.int p3), .val (.int p4), .val (.long p5), .second, .val (.long p6), .second, .val (.int nn), .val (.int ii), .val (.int jj), .val (.int kk), .val (.ref t), .val (.long p6), .second, .val (.long (0 : Int64)), .second] [(.int (1 : Int32))])) _
    refine XS.goto X8.here hx rfl (pc0 := 161) (pc' := 165) rfl (hb hby at_161) (by decide) (by decide) ?_
    show Steps p.tables e below (T8.setTop (mkF m 165 #[.val (.int p1), .val (.int p2), .val (.int p3), .val (.int p4), .val (.long p5), .second, .val (.long p6), .second, .val (.int nn), .val (.int ii), .val (.int jj), .val (.int kk), .val (.ref t), .val (.long p6), .second, .val (.long (0 : Int64)), .second] [(.int (1 : Int32))])) _
    exact retN X8 hx (t := .boolean) Bd.returns (by simp) (hb hby at_165) hr
  · exact ⟨rfl, N8⟩
theorem rmAll (l : Launch) (Z : State) (a0 : Array Value) (hw : ∀ d ∈ tables_1, d.before a0 Z = true) (ws : List Jvm.Cond) (p1 : Int32) (p2 : Int32) (p3 : Int32) (p4 : Int32) (p5 : Int64) (p6 : Int64) (h0 : Heap) (n0 : Nat) (Z0 : n0 ≤ h0.size)  :
    MetFree l x (head1 (Jvm.Cond.code x code maxLocals ret :: ws) room_1) (fun a U => a = #[(.int p1), (.int p2), (.int p3), (.int p4), (.long p5), (.long p6)] ∧ Z.Warmed39 U.vm ∧ U.heap = h0) (fun _ _ _ _ _ => True) (fun _ U o U' => ∃ v L, o = .returned v ∧ Q0 n0 v L ∧ FrameEnd U o U' L room_1.cells room_1.slots) := by
  have hn1 := (own_n p1).1
  have hn2 := (own_n p1).2
  obtain ⟨nn, hnn⟩ : ∃ z, ((1 : Int32) + (p1 &&& (131071 : Int32))) = z := ⟨_, rfl⟩
  rw [hnn] at hn1 hn2
  have qi := own_idx p2 nn hn1
  have qj := own_idx p3 nn hn1
  have qk := own_idx p4 nn hn1
  obtain ⟨ii, hii⟩ : ∃ z, ((p2 &&& (2147483647 : Int32)) % nn) = z := ⟨_, rfl⟩
  obtain ⟨jj, hjj⟩ : ∃ z, ((p3 &&& (2147483647 : Int32)) % nn) = z := ⟨_, rfl⟩
  obtain ⟨kk, hkk⟩ : ∃ z, ((p4 &&& (2147483647 : Int32)) % nn) = z := ⟨_, rfl⟩
  rw [hii] at qi
  rw [hjj] at qj
  rw [hkk] at qk
  by_cases hji : jj = ii
  · by_cases hki : kk = ii
    · exact rmLaw0 l Z a0 hw ws p1 p2 p3 p4 p5 p6 nn ii jj kk h0 n0 Z0 trivial hnn hii hjj hkk hn1 hn2 qi.1 qi.2 qj.1 qj.2 qk.1 qk.2 hji hki
    · exact rmLaw1 l Z a0 hw ws p1 p2 p3 p4 p5 p6 nn ii jj kk h0 n0 Z0 trivial hnn hii hjj hkk hn1 hn2 qi.1 qi.2 qj.1 qj.2 qk.1 qk.2 hji hki (fun q => hki (q.trans hji))
  · by_cases hki : kk = ii
    · exact rmLaw2 l Z a0 hw ws p1 p2 p3 p4 p5 p6 nn ii jj kk h0 n0 Z0 trivial hnn hii hjj hkk hn1 hn2 qi.1 qi.2 qj.1 qj.2 qk.1 qk.2 hji hki
    · by_cases hkj : kk = jj
      · exact rmLaw3 l Z a0 hw ws p1 p2 p3 p4 p5 p6 nn ii jj kk h0 n0 Z0 trivial hnn hii hjj hkk hn1 hn2 qi.1 qi.2 qj.1 qj.2 qk.1 qk.2 hji hki hkj
      · exact rmLaw4 l Z a0 hw ws p1 p2 p3 p4 p5 p6 nn ii jj kk h0 n0 Z0 trivial hnn hii hjj hkk hn1 hn2 qi.1 qi.2 qj.1 qj.2 qk.1 qk.2 hji hki hkj
set_option maxRecDepth 65536 in
set_option maxHeartbeats 40000000 in
theorem comes_1 {Post : Tables → Env → Array Value → State → Outcome → State → Prop} (hpost : ∀ tb e args s v u, (limb_1_1.after args s (.returned v) u = true ∧ limb_1_2.after args s (.returned v) u = true ∧ True) → FrameEnd s (.returned v) u (Jvm.fieldLocs frame_1_writes args s ++ Jvm.arrayLocs frame_1_arrays args s ++ Jvm.staticLocs frame_1_statics s) 24 157312 → Post tb e args s (.returned v) u) :
    ArmFor flags0 classFile x code maxLocals ret World_1 tables_1 room_1 Calls_1 rest_1 Pre_1 Post := by
  intro l hfl _ _ p e ha hc hk s m args below hf hA hF happ hP
  obtain ⟨hcalls, hrest, hpre⟩ := hP
  obtain ⟨-, -, -, hnamed, -, -, -, hat⟩ := (Spec.applies_iff hf).mp happ
  obtain ⟨hg, hn⟩ := and_e (Cond.before_iff.mp (show (Jvm.Cond.and given_1 narrow_1).before args s = true from hpre))
  obtain ⟨hg0, hgr0⟩ := and_e hg
  obtain ⟨hg1, hgr1⟩ := and_e hgr0
  obtain ⟨hg2, hgr2⟩ := and_e hgr1
  obtain ⟨hg3, hgr3⟩ := and_e hgr2
  obtain ⟨hg4, hgr4⟩ := and_e hgr3
  obtain ⟨hg5, hgr5⟩ := and_e hgr4
  obtain ⟨w0, w1, w2, w3, w4, w5, rfl⟩ : ∃ w0 w1 w2 w3 w4 w5 : Value, args = #[w0, w1, w2, w3, w4, w5] := by
    have hs : args.size = 6 := by simpa [Cond.value, given_1] using hg0
    obtain ⟨L⟩ := args
    match L, hs with
    | [w0, w1, w2, w3, w4, w5], _ => exact ⟨w0, w1, w2, w3, w4, w5, rfl⟩
  have hw := fun d (hd : d ∈ tables_1) => atoms_spec (ws := Jvm.Cond.code x code maxLocals ret :: tables_1) hat d (List.mem_cons_of_mem _ hd)
  obtain ⟨i0, ei0⟩ := is_v hg1
  obtain rfl : w0 = (.int i0) := Option.some.inj ei0
  obtain ⟨i1, ei1⟩ := is_v hg2
  obtain rfl : w1 = (.int i1) := Option.some.inj ei1
  obtain ⟨i2, ei2⟩ := is_v hg3
  obtain rfl : w2 = (.int i2) := Option.some.inj ei2
  obtain ⟨i3, ei3⟩ := is_v hg4
  obtain rfl : w3 = (.int i3) := Option.some.inj ei3
  obtain ⟨i4, ei4⟩ := isL_v hg5
  obtain rfl : w4 = (.long i4) := Option.some.inj ei4
  obtain ⟨i5, ei5⟩ := isL_v hgr5
  obtain rfl : w5 = (.long i5) := Option.some.inj ei5
  obtain ⟨n, o, h1, h2, h3, _, L, rfl, ⟨rfl, N⟩, hq⟩ := rmAll l s _ hw tables_1 i0 i1 i2 i3 i4 i5 s.heap s.heap.size (Nat.le_refl _)  p e ha hc hk s m _ below hf ((Spec.applies_iff_loose hf).mp happ).1 ⟨rfl, State.Warmed39.refl s, rfl⟩ trivial
  refine ⟨n, _, h1, h2, h3, hpost _ _ _ _ _ _ ⟨Cond.after_iff.mpr rfl, Cond.after_iff.mpr (eq_i res_at (Term.int_eval (1)) rfl), trivial⟩ ⟨hq.1, hq.2.1, (hq.2.2.sift fun y hy => Or.inr (N y hy)).mono (by decide) (by decide)⟩⟩
theorem main_1_1 : Claimed_1_1 := comes_1 fun _ _ _ _ _ _ h hF => ⟨h.1, hF⟩
theorem main_1_2 : Claimed_1_2 := comes_1 fun _ _ _ _ _ _ h hF => ⟨h.2.1, hF⟩
end Jvm.Pilot.@@N@@
namespace Jvm.Pilot.@@N@@
open Jvm Jvm.ClassFile Sem Op Lib Jvm.Free Jvm.Stand Jvm.Pilot.@@N@@.Jvm.D
/-! MADE BY PROGRAM (witnessworld.py) out of the Statement's table words and the real class files: 12 classes; the members and pool entries that the words name. The judged class is class 1, her method 1. -/
namespace start1
open Jvm.ClassFile
def u (s : String) : CpInfo := .utf8 (stringToUtf16 s)
/-- a pool by its gaps: so many unusable entries, then the entry; so many at the end -/
def gap : Nat → List CpInfo → List CpInfo
  | 0, r => r
  | n + 1, r => .unusable :: gap n r
def poolList (es : List (Nat × CpInfo)) (last : Nat) : List CpInfo := es.foldr (fun e r => gap e.1 (e.2 :: r)) (gap last [])
def pool (es : List (Nat × CpInfo)) (last : Nat) : Array CpInfo := ⟨poolList es last⟩
def fileOf (pool : Array CpInfo) (this : Nat) (attrs : Array Attribute := #[]) (ms : Array MethodInfo := #[]) (fl : Nat := 33) (sup : Nat := 0) (ifs : Array Nat := #[]) (fds : Array FieldInfo := #[]) : ClassFile where
  minorVersion := 0
  majorVersion := 65
  constantPool := pool
  accessFlags := fl
  thisClass := this
  superClass := sup
  interfaces := ifs
  fields := fds
  methods := ms
  attributes := attrs
def plain (name : String) (sup : Option ClassId) : Class where
  name := name
  kind := .ordinary
  loader := none
  accessFlags := 33
  super := sup
  interfaces := #[]
  cf := none
  fields := #[]
  methods := #[]
  instanceTypes := #[]
  staticTypes := #[]
  resolved := #[]
  callSites := []
  init := .initialized
  statics := none
  mirror := none

def pool0 : Array CpInfo := pool [(5, u "<init>"), (0, u "()V"), (1, .class_ 10), (1, u "java/lang/Object")] 113

def k0c0 : Code := { maxStack := 0, maxLocals := 1, code := object_method_1_code, exceptionTable := #[], attributes := #[] }
def k0m0 : Method := { name := "<init>", desc := "()V", sig := { parameters := [], returnType := none }, accessFlags := 1, code := some k0c0 }
/-- java/lang/Object -/
def k0 : Class := { plain "java/lang/Object" none with
  accessFlags := 33
  interfaces := #[]
  cf := some (fileOf pool0 8 #[] #[{ accessFlags := 1, nameIndex := 5, descriptorIndex := 6, attributes := #[] }] 33 0 #[] #[])
  fields := #[]
  methods := #[k0m0]
  instanceTypes := #[]
  staticTypes := #[]
  resolved := Array.replicate 124 none
  statics := none }

def pool1 : Array CpInfo := pool [(2, .class_ 4), (1, u "java/lang/Object"), (0, u "<init>"), (0, u "()V"), (0, .integer 131071), (0, .integer 2147483647), (0, .class_ 10), (0, u "com/example/reachmark/reachmark/label/Intervals"), (0, .methodref 9 12), (0, .nameAndType 5 13), (0, u "(I)V"), (0, .methodref 9 15), (0, .nameAndType 16 17), (0, u "set"), (0, u "(IJ)V"), (0, .methodref 9 19), (0, .nameAndType 20 21), (0, u "get"), (0, u "(I)J"), (0, .methodref 9 23), (0, .nameAndType 24 25), (0, u "size"), (0, u "()I"), (0, .class_ 27), (0, u "com/example/reachmark/reachmark/label/IntervalsSetPinLaw"), (2, u "law"), (0, u "(IIIIJJ)Z")] 3

def k1m0 : Method := { name := "<init>", desc := "()V", sig := { parameters := [], returnType := none }, accessFlags := 2, code := none }
def k1c1 : Code := { maxStack := 4, maxLocals := 17, code := code, exceptionTable := #[], attributes := #[] }
def k1m1 : Method := { name := "law", desc := "(IIIIJJ)Z", sig := { parameters := [.int, .int, .int, .int, .long, .long], returnType := some .boolean }, accessFlags := 9, code := some k1c1 }
/-- com/example/reachmark/reachmark/label/IntervalsSetPinLaw -/
def k1 : Class := { plain "com/example/reachmark/reachmark/label/IntervalsSetPinLaw" (some 0) with
  accessFlags := 49
  interfaces := #[]
  cf := some (fileOf pool1 26 #[] #[{ accessFlags := 2, nameIndex := 5, descriptorIndex := 6, attributes := #[] }, { accessFlags := 9, nameIndex := 30, descriptorIndex := 31, attributes := #[] }] 49 2 #[] #[])
  fields := #[]
  methods := #[k1m0, k1m1]
  instanceTypes := #[]
  staticTypes := #[]
  resolved := Array.replicate 35 none
  statics := none }

def pool2 : Array CpInfo := pool [(1, .class_ 2), (0, u "com/example/reachmark/reachmark/label/Intervals"), (0, .methodref 4 5), (0, .class_ 6), (0, .nameAndType 7 8), (0, u "java/lang/Object"), (0, u "<init>"), (0, u "()V"), (0, .class_ 10), (0, u "[J"), (0, .fieldref 1 12), (0, .nameAndType 13 14), (0, u "chunks"), (0, u "[[J"), (0, .long 32768), (1, .methodref 18 19), (0, .class_ 20), (0, .nameAndType 21 22), (0, u "java/lang/Math"), (0, u "max"), (0, u "(II)I"), (0, .integer 32768), (0, .methodref 18 25), (0, .nameAndType 26 22), (0, u "min"), (0, .fieldref 1 28), (0, .nameAndType 29 30), (0, u "size"), (0, u "I"), (14, u "CHUNK_BITS"), (2, u "CHUNK"), (2, u "(I)V"), (3, u "()I"), (0, u "get"), (0, u "(I)J"), (0, u "set"), (0, u "(IJ)V")] 6

def k2m0 : Method := { name := "<init>", desc := "()V", sig := { parameters := [], returnType := none }, accessFlags := 0, code := none }
def k2c1 : Code := { maxStack := 6, maxLocals := 4, code := prog_43_method_2_code, exceptionTable := #[], attributes := #[] }
def k2m1 : Method := { name := "<init>", desc := "(I)V", sig := { parameters := [.int], returnType := none }, accessFlags := 0, code := some k2c1 }
def k2c2 : Code := { maxStack := 1, maxLocals := 1, code := prog_43_method_6_code, exceptionTable := #[], attributes := #[] }
def k2m2 : Method := { name := "size", desc := "()I", sig := { parameters := [], returnType := some .int }, accessFlags := 0, code := some k2c2 }
def k2c3 : Code := { maxStack := 3, maxLocals := 2, code := prog_43_method_7_code, exceptionTable := #[], attributes := #[] }
def k2m3 : Method := { name := "get", desc := "(I)J", sig := { parameters := [.int], returnType := some .long }, accessFlags := 0, code := some k2c3 }
def k2c4 : Code := { maxStack := 4, maxLocals := 4, code := prog_43_method_8_code, exceptionTable := #[], attributes := #[] }
def k2m4 : Method := { name := "set", desc := "(IJ)V", sig := { parameters := [.int, .long], returnType := none }, accessFlags := 0, code := some k2c4 }
/-- com/example/reachmark/reachmark/label/Intervals -/
def k2 : Class := { plain "com/example/reachmark/reachmark/label/Intervals" (some 0) with
  accessFlags := 48
  interfaces := #[]
  cf := some (fileOf pool2 1 #[] #[{ accessFlags := 0, nameIndex := 7, descriptorIndex := 8, attributes := #[] }, { accessFlags := 0, nameIndex := 7, descriptorIndex := 51, attributes := #[] }, { accessFlags := 0, nameIndex := 29, descriptorIndex := 55, attributes := #[] }, { accessFlags := 0, nameIndex := 56, descriptorIndex := 57, attributes := #[] }, { accessFlags := 0, nameIndex := 58, descriptorIndex := 59, attributes := #[] }] 48 4 #[] #[{ accessFlags := 26, nameIndex := 45, descriptorIndex := 30, attributes := #[] }, { accessFlags := 24, nameIndex := 48, descriptorIndex := 30, attributes := #[] }, { accessFlags := 2, nameIndex := 13, descriptorIndex := 14, attributes := #[] }, { accessFlags := 2, nameIndex := 29, descriptorIndex := 30, attributes := #[] }])
  fields := #[{ name := "CHUNK_BITS", type := .int, accessFlags := 26, slot := 0, constantValue := 0 }, { name := "CHUNK", type := .int, accessFlags := 24, slot := 1, constantValue := 0 }, { name := "chunks", type := (.array (.array .long)), accessFlags := 2, slot := 0, constantValue := 0 }, { name := "size", type := .int, accessFlags := 2, slot := 1, constantValue := 0 }]
  methods := #[k2m0, k2m1, k2m2, k2m3, k2m4]
  instanceTypes := #[(.array (.array .long)), .int]
  staticTypes := #[.int, .int]
  resolved := Array.replicate 66 none
  statics := none }

def pool3 : Array CpInfo := pool [(1, .class_ 2), (0, u "java/lang/Math"), (1, .class_ 6), (1, u "java/lang/Object"), (0, u "<init>"), (0, u "()V"), (89, .class_ 100), (1, u "java/lang/Math$RandomNumberGeneratorHolder"), (71, u "negativeZeroFloatBits"), (0, u "J"), (2, u "negativeZeroDoubleBits"), (21, u "max"), (2, u "min"), (43, u "$assertionsDisabled"), (0, u "Z"), (88, u "(II)I"), (2, u "twoToTheDoubleScaleDown"), (0, u "D"), (4, u "twoToTheDoubleScaleUp"), (9, u "E"), (3, u "PI"), (2, u "TAU"), (2, u "DEGREES_TO_RADIANS"), (0, u "RADIANS_TO_DEGREES")] 94

def k3m0 : Method := { name := "<init>", desc := "()V", sig := { parameters := [], returnType := none }, accessFlags := 2, code := none }
def k3c1 : Code := { maxStack := 2, maxLocals := 2, code := jdk_29_method_65_code, exceptionTable := #[], attributes := #[] }
def k3m1 : Method := { name := "max", desc := "(II)I", sig := { parameters := [.int, .int], returnType := some .int }, accessFlags := 9, code := some k3c1 }
def k3c2 : Code := { maxStack := 2, maxLocals := 2, code := jdk_29_method_69_code, exceptionTable := #[], attributes := #[] }
def k3m2 : Method := { name := "min", desc := "(II)I", sig := { parameters := [.int, .int], returnType := some .int }, accessFlags := 9, code := some k3c2 }
/-- java/lang/Math -/
def k3 : Class := { plain "java/lang/Math" (some 0) with
  accessFlags := 49
  interfaces := #[]
  cf := some (fileOf pool3 1 #[.nestMembers #[98]] #[{ accessFlags := 2, nameIndex := 7, descriptorIndex := 8, attributes := #[] }, { accessFlags := 9, nameIndex := 198, descriptorIndex := 335, attributes := #[] }, { accessFlags := 9, nameIndex := 201, descriptorIndex := 335, attributes := #[] }] 49 4 #[] #[{ accessFlags := 25, nameIndex := 354, descriptorIndex := 339, attributes := #[] }, { accessFlags := 25, nameIndex := 358, descriptorIndex := 339, attributes := #[] }, { accessFlags := 25, nameIndex := 361, descriptorIndex := 339, attributes := #[] }, { accessFlags := 26, nameIndex := 364, descriptorIndex := 339, attributes := #[] }, { accessFlags := 26, nameIndex := 365, descriptorIndex := 339, attributes := #[] }, { accessFlags := 26, nameIndex := 172, descriptorIndex := 173, attributes := #[] }, { accessFlags := 26, nameIndex := 176, descriptorIndex := 173, attributes := #[] }, { accessFlags := 8, nameIndex := 344, descriptorIndex := 339, attributes := #[] }, { accessFlags := 8, nameIndex := 338, descriptorIndex := 339, attributes := #[] }, { accessFlags := 4120, nameIndex := 245, descriptorIndex := 246, attributes := #[] }])
  fields := #[{ name := "E", type := .double, accessFlags := 25, slot := 0, constantValue := 0 }, { name := "PI", type := .double, accessFlags := 25, slot := 1, constantValue := 0 }, { name := "TAU", type := .double, accessFlags := 25, slot := 2, constantValue := 0 }, { name := "DEGREES_TO_RADIANS", type := .double, accessFlags := 26, slot := 3, constantValue := 0 }, { name := "RADIANS_TO_DEGREES", type := .double, accessFlags := 26, slot := 4, constantValue := 0 }, { name := "negativeZeroFloatBits", type := .long, accessFlags := 26, slot := 5, constantValue := 0 }, { name := "negativeZeroDoubleBits", type := .long, accessFlags := 26, slot := 6, constantValue := 0 }, { name := "twoToTheDoubleScaleUp", type := .double, accessFlags := 8, slot := 7, constantValue := 0 }, { name := "twoToTheDoubleScaleDown", type := .double, accessFlags := 8, slot := 8, constantValue := 0 }, { name := "$assertionsDisabled", type := .boolean, accessFlags := 4120, slot := 9, constantValue := 0 }]
  methods := #[k3m0, k3m1, k3m2]
  instanceTypes := #[]
  staticTypes := #[.double, .double, .double, .double, .double, .long, .long, .double, .double, .boolean]
  resolved := Array.replicate 460 none
  statics := none }

def pool4 : Array CpInfo := pool [(1, u "java/lang/Cloneable"), (0, .class_ 1), (0, u "java/lang/Object"), (0, .class_ 3)] 3

/-- java/lang/Cloneable -/
def k4 : Class := { plain "java/lang/Cloneable" (some 0) with
  accessFlags := 1537
  interfaces := #[]
  cf := some (fileOf pool4 2 #[] #[] 1537 4 #[] #[])
  fields := #[]
  methods := #[]
  instanceTypes := #[]
  staticTypes := #[]
  resolved := Array.replicate 8 none
  statics := none }

def pool5 : Array CpInfo := pool [(1, u "java/io/Serializable"), (0, .class_ 1), (0, u "java/lang/Object"), (0, .class_ 3)] 3

/-- java/io/Serializable -/
def k5 : Class := { plain "java/io/Serializable" (some 0) with
  accessFlags := 1537
  interfaces := #[]
  cf := some (fileOf pool5 2 #[] #[] 1537 4 #[] #[])
  fields := #[]
  methods := #[]
  instanceTypes := #[]
  staticTypes := #[]
  resolved := Array.replicate 8 none
  statics := none }

/-- the primitive byte -/
def k6 : Class := { plain "byte" none with kind := .primitive 'B', accessFlags := 0x411 }
/-- [B -/
def k7 : Class := { plain "[B" (some 0) with kind := .array 6 .byte, interfaces := #[4, 5], accessFlags := 1041 }

/-- the primitive int -/
def k8 : Class := { plain "int" none with kind := .primitive 'I', accessFlags := 0x411 }
/-- [I -/
def k9 : Class := { plain "[I" (some 0) with kind := .array 8 .int, interfaces := #[4, 5], accessFlags := 1041 }

/-- the primitive long -/
def k10 : Class := { plain "long" none with kind := .primitive 'J', accessFlags := 0x411 }
/-- [J -/
def k11 : Class := { plain "[J" (some 0) with kind := .array 10 .long, interfaces := #[4, 5], accessFlags := 1041 }

/-- [[J -/
def k12 : Class := { plain "[[J" (some 0) with kind := .array 11 (.array .long), interfaces := #[4, 5], accessFlags := 1041 }

def heap : Heap := #[]
def classes : Array Class := #[k0, k1, k2, k3, k4, k5, k6, k7, k8, k9, k10, k11, k12]
def interned : List (Array UInt16 × Addr) := []
def slotsUsed : Nat := 0
def theMethod : MethodId := ⟨1, 1⟩
def args0 : Array Value := #[.int 5, .int 1, .int 2, .int 3, .long 7, .long 8]
def aboutOver (below : List Frame) : State where
  vm := { classes := classes, interned := interned.toArray }
  heap := heap
  slotsUsed := slotsUsed
  threads := #[{ frames := .invoking theMethod args0 :: below }]
def below0 : List Frame := [.native { method := ⟨0, 0⟩, args := #[] }]
def about1 : State := aboutOver below0
def p0 : Program := .bare "" "" ""
def e0 : Env := launch0.env 0 0 0
theorem w_frames : about1.frames = Frame.invoking theMethod args0 :: below0 := rfl
set_option maxRecDepth 65536 in
theorem w_args : argsFit about1.vm theMethod args0 = true := by decide +kernel
set_option maxRecDepth 65536 in
theorem w_heap : heapFits about1 = true := by decide +kernel
set_option maxRecDepth 65536 in
theorem w_runnable : about1.curStatus? = some .runnable := by decide +kernel
set_option maxRecDepth 65536 in
theorem w_alone : about1.alone = true := by decide +kernel
set_option maxRecDepth 65536 in
theorem w_named : about1.methodNamed? x = some theMethod := by decide +kernel
set_option maxRecDepth 65536 in
theorem w_hears : about1.hears theMethod below0 = true := by decide +kernel
set_option maxRecDepth 65536 in
theorem w_ripe : about1.ripe theMethod args0 below0 = true := by decide +kernel
theorem w_running : about1.status = .running := rfl
set_option maxRecDepth 65536 in
theorem w_room : about1.hasRoom e0.platform room_1 = true :=
  launch0.hasRoom_least _ room_1 (by decide +kernel) (by decide +kernel) (by decide +kernel) (by decide +kernel) (by decide +kernel) (by decide +kernel)
theorem allAtoms_all (ts : List Jvm.Cond) (a : Array Jvm.Value) (st : Jvm.State) : (allAtoms ts).before a st = ts.all (fun c => c.before a st) := by
  induction ts with
  | nil => rfl
  | cons c t ih =>
    show (Jvm.Cond.and c (allAtoms t)).before a st = _
    rw [Jvm.Cond.before_and, ih, List.all_cons]
def words1 : List Jvm.Cond := Jvm.Cond.code x code maxLocals ret :: tables_1
/-- a 'code' word, met by the world's own term for the bytes: nothing is compared byte by byte -/
theorem code_word {y : MethodName} {bytes : ByteArray} {mx : Nat} {rt : Option FieldType} {a : Array Value} {s : State} {m : MethodId} {meth : Method} {c : Code} (h1 : s.methodNamed? y = some m) (h2 : s.vm.method? m = some meth) (h3 : meth.code = some c) (h4 : c.code = bytes)
    (h5 : (c.maxLocals == mx && c.exceptionTable.isEmpty && decide (c.maxStack ≤ mostOperands) && decide (meth.sig.returnType = rt) && !meth.locks && decide (parseMethodDescriptor y.desc = some meth.sig)) = true) : (Jvm.Cond.code y bytes mx rt).before a s = true := by
  simp only [Bool.and_eq_true, beq_iff_eq, Bool.not_eq_true', decide_eq_true_eq] at h5
  obtain ⟨⟨⟨⟨⟨g1, g2⟩, g3⟩, g4⟩, g5⟩, g6⟩ := h5
  simp [Cond.before, Cond.holds, Cond.value, h1, h2, h3, h4, g1, g2, g3, g4, g5, g6]
def isCode : Jvm.Cond → Bool
  | .code _ _ _ _ => true
  | _ => false
theorem all_split {L : List Jvm.Cond} {P : Jvm.Cond → Bool} (h1 : L.all (fun c => isCode c || P c) = true) (h2 : ∀ c ∈ L.filter isCode, P c = true) : L.all P = true := by
  refine List.all_eq_true.mpr fun c hc => ?_
  have h := List.all_eq_true.mp h1 c hc
  rcases Bool.eq_false_or_eq_true (isCode c) with hi | hi
  · exact h2 c (List.mem_filter.mpr ⟨hc, hi⟩)
  · simpa [hi] using h
set_option maxRecDepth 65536 in
theorem w_c0 : (Jvm.Cond.code x code maxLocals ret).before args0 about1 = true := code_word (m := ⟨1, 1⟩) (meth := k1m1) (c := k1c1) (by decide +kernel) rfl rfl rfl (by decide +kernel)
set_option maxRecDepth 65536 in
theorem w_c1 : (Jvm.Cond.code ({ cls := "com/example/reachmark/reachmark/label/Intervals", name := "<init>", desc := "(I)V" } : Jvm.MethodName) prog_43_method_2_code (4 : Nat) (Option.none : Option Jvm.ClassFile.FieldType)).before args0 about1 = true := code_word (m := ⟨2, 1⟩) (meth := k2m1) (c := k2c1) (by decide +kernel) rfl rfl rfl (by decide +kernel)
set_option maxRecDepth 65536 in
theorem w_c2 : (Jvm.Cond.code ({ cls := "java/lang/Object", name := "<init>", desc := "()V" } : Jvm.MethodName) object_method_1_code (1 : Nat) (Option.none : Option Jvm.ClassFile.FieldType)).before args0 about1 = true := code_word (m := ⟨0, 0⟩) (meth := k0m0) (c := k0c0) (by decide +kernel) rfl rfl rfl (by decide +kernel)
set_option maxRecDepth 65536 in
theorem w_c3 : (Jvm.Cond.code ({ cls := "java/lang/Math", name := "max", desc := "(II)I" } : Jvm.MethodName) jdk_29_method_65_code (2 : Nat) (Option.some Jvm.ClassFile.FieldType.int)).before args0 about1 = true := code_word (m := ⟨3, 1⟩) (meth := k3m1) (c := k3c1) (by decide +kernel) rfl rfl rfl (by decide +kernel)
set_option maxRecDepth 65536 in
theorem w_c4 : (Jvm.Cond.code ({ cls := "java/lang/Math", name := "min", desc := "(II)I" } : Jvm.MethodName) jdk_29_method_69_code (2 : Nat) (Option.some Jvm.ClassFile.FieldType.int)).before args0 about1 = true := code_word (m := ⟨3, 2⟩) (meth := k3m2) (c := k3c2) (by decide +kernel) rfl rfl rfl (by decide +kernel)
set_option maxRecDepth 65536 in
theorem w_c5 : (Jvm.Cond.code ({ cls := "com/example/reachmark/reachmark/label/Intervals", name := "set", desc := "(IJ)V" } : Jvm.MethodName) prog_43_method_8_code (4 : Nat) (Option.none : Option Jvm.ClassFile.FieldType)).before args0 about1 = true := code_word (m := ⟨2, 4⟩) (meth := k2m4) (c := k2c4) (by decide +kernel) rfl rfl rfl (by decide +kernel)
set_option maxRecDepth 65536 in
theorem w_c6 : (Jvm.Cond.code ({ cls := "com/example/reachmark/reachmark/label/Intervals", name := "get", desc := "(I)J" } : Jvm.MethodName) prog_43_method_7_code (2 : Nat) (Option.some Jvm.ClassFile.FieldType.long)).before args0 about1 = true := code_word (m := ⟨2, 3⟩) (meth := k2m3) (c := k2c3) (by decide +kernel) rfl rfl rfl (by decide +kernel)
set_option maxRecDepth 65536 in
theorem w_c7 : (Jvm.Cond.code ({ cls := "com/example/reachmark/reachmark/label/Intervals", name := "size", desc := "()I" } : Jvm.MethodName) prog_43_method_6_code (1 : Nat) (Option.some Jvm.ClassFile.FieldType.int)).before args0 about1 = true := code_word (m := ⟨2, 2⟩) (meth := k2m2) (c := k2c2) (by decide +kernel) rfl rfl rfl (by decide +kernel)
def codes1 : List Jvm.Cond := [Jvm.Cond.code x code maxLocals ret, Jvm.Cond.code ({ cls := "com/example/reachmark/reachmark/label/Intervals", name := "<init>", desc := "(I)V" } : Jvm.MethodName) prog_43_method_2_code (4 : Nat) (Option.none : Option Jvm.ClassFile.FieldType), Jvm.Cond.code ({ cls := "java/lang/Object", name := "<init>", desc := "()V" } : Jvm.MethodName) object_method_1_code (1 : Nat) (Option.none : Option Jvm.ClassFile.FieldType), Jvm.Cond.code ({ cls := "java/lang/Math", name := "max", desc := "(II)I" } : Jvm.MethodName) jdk_29_method_65_code (2 : Nat) (Option.some Jvm.ClassFile.FieldType.int), Jvm.Cond.code ({ cls := "java/lang/Math", name := "min", desc := "(II)I" } : Jvm.MethodName) jdk_29_method_69_code (2 : Nat) (Option.some Jvm.ClassFile.FieldType.int), Jvm.Cond.code ({ cls := "com/example/reachmark/reachmark/label/Intervals", name := "set", desc := "(IJ)V" } : Jvm.MethodName) prog_43_method_8_code (4 : Nat) (Option.none : Option Jvm.ClassFile.FieldType), Jvm.Cond.code ({ cls := "com/example/reachmark/reachmark/label/Intervals", name := "get", desc := "(I)J" } : Jvm.MethodName) prog_43_method_7_code (2 : Nat) (Option.some Jvm.ClassFile.FieldType.long), Jvm.Cond.code ({ cls := "com/example/reachmark/reachmark/label/Intervals", name := "size", desc := "()I" } : Jvm.MethodName) prog_43_method_6_code (1 : Nat) (Option.some Jvm.ClassFile.FieldType.int)]
set_option maxRecDepth 65536 in
theorem codes_eq : words1.filter isCode = codes1 := rfl
theorem w_codes : ∀ c ∈ words1.filter isCode, c.before args0 about1 = true := by
  rw [codes_eq]
  intro c hc
  simp only [codes1, List.mem_cons, List.not_mem_nil, or_false] at hc
  rcases hc with rfl | rfl | rfl | rfl | rfl | rfl | rfl | rfl
  · exact w_c0
  · exact w_c1
  · exact w_c2
  · exact w_c3
  · exact w_c4
  · exact w_c5
  · exact w_c6
  · exact w_c7
set_option maxRecDepth 65536 in
theorem w_t1 : (words1.take 24).all (fun c => isCode c || c.before args0 about1) = true := by decide +kernel
set_option maxRecDepth 65536 in
theorem w_t2 : (words1.drop 24).all (fun c => isCode c || c.before args0 about1) = true := by decide +kernel
theorem w_tables : (allAtoms (Jvm.Cond.code x code maxLocals ret :: tables_1)).before args0 about1 = true := by
  rw [allAtoms_all]
  show words1.all (fun c => c.before args0 about1) = true
  refine all_split ?_ w_codes
  rw [← List.take_append_drop 24 words1, List.all_append, w_t1, w_t2]
  rfl
set_option maxRecDepth 65536 in
theorem w_case : (Jvm.Cond.and given_1 narrow_1).before args0 about1 = true := by decide +kernel
theorem w_applies : (headSpec (Jvm.Cond.code x code maxLocals ret :: tables_1) room_1).applies x e0.platform about1 = true :=
  (Spec.applies_iff w_frames).mpr ⟨w_running, w_runnable, w_alone, w_named, w_hears, w_ripe, w_room, w_tables⟩
theorem atStart : AtStart classFile x code maxLocals ret World_1 tables_1 room_1 Calls_1 rest_1 Pre_1 launch0 p0 e0 about1 theMethod args0 below0 :=
  ⟨lists_1, trivial, launch0.admits_env _ _ _, launch0.least_env, fairChoices_fair.cas, fairChoices_fair.clock, w_frames, w_args, w_heap, w_applies, trivial, trivial, w_case⟩
end start1
theorem witness_1 : WitnessClaimed_1 := ⟨start1.p0, start1.e0, start1.about1, start1.theMethod, start1.args0, start1.below0, start1.atStart⟩
end Jvm.Pilot.@@N@@
