import JvmDerived
import JvmDerived.Pilot.@@N@@Statement
import JvmDerived.Pilot.@@N@@Code
set_option linter.unusedVariables false
set_option linter.unusedSimpArgs false
namespace Jvm.RoadKit
open Sem ClassFile Op Lib Jvm.Stand Jvm.Free Jvm.LawKit
section New
variable {p : Program} {l : Launch} {e : Env} {R : Room} {s : State} {m : MethodId} {args : Array Value} {below : List Frame} {meth : Method} {c : Code} {T : State} {locs : List Loc} {cells slots : Nat}
theorem retI (X : Stand p l e R s m args below meth c T locs cells slots) (hx : p.tables.exec = Jvm.exec) {pc : Nat} {Ls : Array Slot} {z : Int32} {rest : List Value} (hret : meth.sig.returnType = some .int) (hd : decode c.code pc = .ok (.ireturn, 1)) {fs : List Frame}
    (hl : ∀ (f : JFrame) (acts : List Action), f.method = m → f.locked = none → f.entered = [] → (doReturn e (T.setTop f) acts (some (.int z))).1 = T.setFrames fs) : Steps p.tables e below (T.setTop (mkF m pc Ls (.int z :: rest))) (T.setFrames fs) := by
  have hm' : T.vm.method? m = some meth := X.method'
  have hn : narrow .int (.int z) = .int z := rfl
  show Steps p.tables e below (T.setTop { method := m, pc := pc, locals := Ls, stack := _ :: rest, locked := none }) _
  jvm_step X.here [X.here.top, hx, hd, hm', hret, hn]
  first | (intro acts; rw [hl _ acts rfl rfl rfl]) | rw [hl _ _ rfl rfl rfl]
  exact Steps.refl _
end New
end Jvm.RoadKit
namespace Jvm.Pilot.@@N@@
open Jvm Jvm.ClassFile Sem Op Lib Jvm.Free Jvm.Stand Jvm.LawKit Jvm.RoadKit Bundle Jvm.Pilot.@@N@@.Jvm.D
theorem own_eqI {args : Array Value} {first s : State} {o : Option Outcome} {idx : List Nat} {a : Term} {k : Int32} (h : (Jvm.Cond.eq a (Term.int k)).value args first o s idx = some true) : a.eval args first o idx s = some (.int k) := by
  simp only [Cond.value, Term.eval] at h
  cases ha : a.eval args first o idx s with
  | none => simp [ha] at h
  | some x => cases x <;> simp [ha] at h ⊢; exact h
theorem own_eqR {args : Array Value} {first s : State} {o : Option Outcome} {idx : List Nat} {a b : Term} {y : Addr} (h : (Jvm.Cond.eq a b).value args first o s idx = some true) (hb : b.eval args first o idx s = some (.ref y)) : a.eval args first o idx s = some (.ref y) := by
  simp only [Cond.value, hb] at h
  cases ha : a.eval args first o idx s with
  | none => simp [ha] at h
  | some x => cases x <;> simp [ha] at h ⊢; exact h
theorem own_elemI {args : Array Value} {s : State} {t : Term} {a : Addr} {cell : Cell} {i : Int32} {v : Value} (ht : t.eval args s none [] s = some (.ref a)) (hAt : s.arrayAt? a = some cell) (h : (Term.elem t (.int i)).eval args s none [] s = some v) : cell.slots[i.toNatClampNeg]? = some v := by
  obtain ⟨a', j', cell', ht', hi', hAt', hin, hslot⟩ := Term.elem_spec h
  cases ht.symm.trans ht'
  cases hAt.symm.trans hAt'
  have q : (Term.int i).eval args s none [] s = some (.int i) := rfl
  cases q.symm.trans hi'
  exact hslot
theorem own_fld {args : Array Value} {s : State} {t : Term} {C n d : String} {x : Addr} {v : Value} (ht : t.eval args s none [] s = some (.ref x)) (h : (Term.field t C n d).eval args s none [] s = some v) : Fld s s.heap x C n d v := Fld.start ((fld_at ht).symm.trans h)
def QV (r : Value) (h0 : Heap) (n0 : Nat) (v : Option Value) (h : Heap) (L : List Loc) : Prop := v = some r ∧ Fr n0 L ∧ h = h0
theorem own_bit {C : Prop} [Decidable C] {f : Int32} (h : f = (if C then (0 : Int32) else (1 : Int32))) : f = 0 ∨ f = 1 := by
  by_cases c : C
  · rw [if_pos c] at h; exact Or.inl h
  · rw [if_neg c] at h; exact Or.inr h
theorem own_nar {f : Int32} (h : f = 0 ∨ f = 1) : narrow .boolean (.int f) = .int f := by rcases h with rfl | rfl <;> rfl
theorem own_nar2 {f : Int32} (h : f = 0 ∨ f = 1) : nar .boolean f = f := by rcases h with rfl | rfl <;> rfl
theorem own_fits {f : Int32} (h : f = 0 ∨ f = 1) : fits .boolean (.int f) = true := by rcases h with rfl | rfl <;> rfl
def own_and (d1 r1 d2 r2 : Int32) (wA wD wR wN : Addr) : Addr := if d1 = 0 then (if r1 = 0 then wN else if r2 = 0 then wN else wR) else if d2 = 0 then (if r1 = 0 then wN else if r2 = 0 then wN else wR) else (if r1 = 0 then wD else if r2 = 0 then wD else wA)
def own_w (a c : Int32) : Int32 := if a = 0 then 0 else (if c = 0 then 0 else 1)
theorem own_and_spec (P : Addr → Int32 → Int32 → Prop) {d1 r1 d2 r2 : Int32} {wA wD wR wN : Addr} (hA : P wA 1 1) (hD : P wD 1 0) (hR : P wR 0 1) (hN : P wN 0 0) : P (own_and d1 r1 d2 r2 wA wD wR wN) (own_w d1 d2) (own_w r1 r2) := by
  unfold own_and own_w
  by_cases c1 : d1 = 0 <;> by_cases c2 : d2 = 0 <;> by_cases c3 : r1 = 0 <;> by_cases c4 : r2 = 0 <;> simp only [c1, c2, c3, c4, if_true, if_false, if_pos, if_neg] <;> assumption
theorem d2_0 : decode jdk_30_method_1_code 0 = .ok (.aload_n 0, 1) := by decide +kernel
theorem d2_1 : decode jdk_30_method_1_code 1 = .ok (.invokespecial 1, 3) := by decide +kernel
theorem d2_4 : decode jdk_30_method_1_code 4 = .ok (.return_, 1) := by decide +kernel
theorem pn_0 : plainName "java/lang/Record" = true := by first | (simp [plainName, overriddenIn]; done) | decide +kernel
theorem ef_2 (m : MethodId) (x0 : Addr) : entryFrame m #[(.ref x0)] 1 = mkF m 0 #[.val (.ref x0)] [] := by first | (simp [entryFrame, mkF, argsToLocals, Value.category]; done) | rfl
def Q_rm2 (Z : State) (a1 : Addr) (h0 : Heap) (n0 : Nat) (v : Option Value) (h : Heap) (L : List Loc) : Prop := v = none ∧ Fr n0 L ∧ h = h0
set_option maxRecDepth 65536 in
set_option maxHeartbeats 40000000 in
theorem rm2 (l : Launch) (Z : State) (a0 : Array Value) (hw : ∀ d ∈ tables_1, d.before a0 Z = true) (ws : List Jvm.Cond) (a1 : Addr) (h0 : Heap) (n0 : Nat) (Z0 : n0 ≤ h0.size)  :
    MetFree l (⟨"java/lang/Record", "<init>", "()V"⟩ : MethodName) (head1 (Jvm.Cond.code (⟨"java/lang/Record", "<init>", "()V"⟩ : MethodName) jdk_30_method_1_code 1 none :: ws) ({ frames := 1, cells := 0, slots := 0, locals := 12 } : Room)) (fun a U => a = #[(.ref a1)] ∧ Z.Warmed39 U.vm ∧ U.heap = h0) (fun _ _ _ _ _ => True) (fun _ U o U' => ∃ v L, o = .returned v ∧ (Q_rm2 Z a1 h0 n0 v U'.heap L) ∧ FrameEnd U o U' L ({ frames := 1, cells := 0, slots := 0, locals := 12 } : Room).cells ({ frames := 1, cells := 0, slots := 0, locals := 12 } : Room).slots) := by
  refine MetFree.of_bodySF (plainFor_of_name pn_0) hisR ?_
  intro p e s m args below meth c s₁ Bd hml0 hP hK
  obtain ⟨rfl, hZ, hh⟩ := hP
  have hx := Bd.exec
  have hby := Bd.bytes
  have hml : c.maxLocals = 1 := hml0
  have hown : s.vm.findClass "java/lang/Record" = some m.cls := findClass_of_methodNamed Bd.named
  have hnm := (name_of_methodNamed Bd.named Bd.method).1
  have X0 : Stand p l e ({ frames := 1, cells := 0, slots := 0, locals := 12 } : Room) s m #[(.ref a1)] below meth c s₁ [] 0 0 := Stand.of_body Bd
  have e0 : s₁.heap = h0 := by rw [← hh, Bd.state]; rfl
  have N0 := Fr.nil n0
  have pre0 : ∀ t, Steps p.tables e below (s₁.setTop (mkF m 0 #[.val (.ref a1)] [])) t → Steps p.tables e below (s₁.setTop (entryFrame m #[(.ref a1)] 1)) t := fun t k => castTop (ef_2 m a1) k
  obtain ⟨T1, X1, e1, st1⟩ := initO X0 hx hZ hown (hw _ (List.mem_of_getElem? (i := 11) rfl)) (hw _ (List.mem_of_getElem? (i := 12) rfl)) (hw _ (List.mem_of_getElem? (i := 13) rfl)) e0 (g := (mkF m 1 #[.val (.ref a1)] [(.ref a1)])) rfl (by rw [hml]; rfl) rfl (hb hby d2_1) (by decide) (W := 0) (by show 2 * 0 + _ ≤ _; exact Nat.le_of_eq rfl) (by decide)
  obtain ⟨fs, hr, hrun, hended, hW, hsame⟩ := X1.leave (v := none) (fun _ => rfl)
  refine ⟨_, _, pre0 _ ?_, hrun, hended, _, _, rfl, ?_, ⟨_, rfl⟩, hW, hsame.mono (by decide) (by decide)⟩
  · show Steps p.tables e below (s₁.setTop (mkF m 0 #[.val (.ref a1)] [])) _
    refine XS.aloadN X0.here hx rfl (hb hby d2_0) rfl rfl ?_
    show Steps p.tables e below (s₁.setTop (mkF m 1 #[.val (.ref a1)] [(.ref a1)])) _
    refine st1 _ ?_
    show Steps p.tables e below (T1.setTop (mkF m 4 #[.val (.ref a1)] [])) _
    exact X1.returnOut hx Bd.returns (hb hby d2_4) hr
  · show Q_rm2 Z a1 h0 n0 _ T1.heap _
    rw [e1]
    exact ⟨rfl, N0, rfl⟩
theorem d1_0 : decode prog_156_method_1_code 0 = .ok (.aload_n 0, 1) := by decide +kernel
theorem d1_1 : decode prog_156_method_1_code 1 = .ok (.invokespecial 1, 3) := by decide +kernel
theorem d1_4 : decode prog_156_method_1_code 4 = .ok (.aload_n 0, 1) := by decide +kernel
theorem d1_5 : decode prog_156_method_1_code 5 = .ok (.iload_n 1, 1) := by decide +kernel
theorem d1_6 : decode prog_156_method_1_code 6 = .ok (.putfield 7, 3) := by decide +kernel
theorem d1_9 : decode prog_156_method_1_code 9 = .ok (.aload_n 0, 1) := by decide +kernel
theorem d1_10 : decode prog_156_method_1_code 10 = .ok (.iload_n 2, 1) := by decide +kernel
theorem d1_11 : decode prog_156_method_1_code 11 = .ok (.putfield 13, 3) := by decide +kernel
theorem d1_14 : decode prog_156_method_1_code 14 = .ok (.return_, 1) := by decide +kernel
theorem pn_1 : plainName "com/example/viewkeeper/viewkeeper/workspace/Preferences" = true := by first | (simp [plainName, overriddenIn]; done) | decide +kernel
theorem ef_1 (m : MethodId) (x0 : Addr) (x1 : Int32) (x2 : Int32) : entryFrame m #[(.ref x0), (.int x1), (.int x2)] 3 = mkF m 0 #[.val (.ref x0), .val (.int x1), .val (.int x2)] [] := by first | (simp [entryFrame, mkF, argsToLocals, Value.category]; done) | rfl
def Q_rm1 (Z : State) (a1 : Addr) (p2 : Int32) (p3 : Int32) (u u' : Value) (h0 : Heap) (n0 : Nat) (v : Option Value) (h : Heap) (L : List Loc) : Prop := v = none ∧ Fr n0 L ∧ Keep h0 h [a1] ∧ Exa Z h a1 "com/example/viewkeeper/viewkeeper/workspace/Preferences" ∧ Fld Z h a1 "com/example/viewkeeper/viewkeeper/workspace/Preferences" "dispensable" "Z" (.int p2) ∧ Fld Z h a1 "com/example/viewkeeper/viewkeeper/workspace/Preferences" "replaceable" "Z" (.int p3)
theorem pd_0 : parseMethodDescriptor "()V" = some ⟨[], none⟩ := by decide +kernel
set_option maxRecDepth 65536 in
set_option maxHeartbeats 40000000 in
theorem rm1 (l : Launch) (Z : State) (a0 : Array Value) (hw : ∀ d ∈ tables_1, d.before a0 Z = true) (ws : List Jvm.Cond) (a1 : Addr) (p2 : Int32) (p3 : Int32) (u u' : Value) (h0 : Heap) (n0 : Nat) (Z0 : n0 ≤ h0.size) (E_a1 : Exa Z h0 a1 "com/example/viewkeeper/viewkeeper/workspace/Preferences") (F_d : Fld Z h0 a1 "com/example/viewkeeper/viewkeeper/workspace/Preferences" "dispensable" "Z" u) (F_r : Fld Z h0 a1 "com/example/viewkeeper/viewkeeper/workspace/Preferences" "replaceable" "Z" u') (g_a1 : n0 ≤ a1) (hp2 : p2 = 0 ∨ p2 = 1) (hp3 : p3 = 0 ∨ p3 = 1) :
    MetFree l (⟨"com/example/viewkeeper/viewkeeper/workspace/Preferences", "<init>", "(ZZ)V"⟩ : MethodName) (head1 (Jvm.Cond.code (⟨"com/example/viewkeeper/viewkeeper/workspace/Preferences", "<init>", "(ZZ)V"⟩ : MethodName) prog_156_method_1_code 3 none :: ws) ({ frames := 2, cells := 0, slots := 0, locals := 24 } : Room)) (fun a U => a = #[(.ref a1), (.int p2), (.int p3)] ∧ Z.Warmed39 U.vm ∧ U.heap = h0) (fun _ _ _ _ _ => True) (fun _ U o U' => ∃ v L, o = .returned v ∧ (Q_rm1 Z a1 p2 p3 u u' h0 n0 v U'.heap L) ∧ FrameEnd U o U' L ({ frames := 2, cells := 0, slots := 0, locals := 24 } : Room).cells ({ frames := 2, cells := 0, slots := 0, locals := 24 } : Room).slots) := by
  refine MetFree.of_bodySF (plainFor_of_name pn_1) hisR ?_
  intro p e s m args below meth c s₁ Bd hml0 hP hK
  obtain ⟨rfl, hZ, hh⟩ := hP
  have hx := Bd.exec
  have hby := Bd.bytes
  have hml : c.maxLocals = 3 := hml0
  have hown : s.vm.findClass "com/example/viewkeeper/viewkeeper/workspace/Preferences" = some m.cls := findClass_of_methodNamed Bd.named
  have hnm := (name_of_methodNamed Bd.named Bd.method).1
  have X0 : Stand p l e ({ frames := 2, cells := 0, slots := 0, locals := 24 } : Room) s m #[(.ref a1), (.int p2), (.int p3)] below meth c s₁ [] 0 0 := Stand.of_body Bd
  have e0 : s₁.heap = h0 := by rw [← hh, Bd.state]; rfl
  have N0 := Fr.nil n0
  have pre0 : ∀ t, Steps p.tables e below (s₁.setTop (mkF m 0 #[.val (.ref a1), .val (.int p2), .val (.int p3)] [])) t → Steps p.tables e below (s₁.setTop (entryFrame m #[(.ref a1), (.int p2), (.int p3)] 3)) t := fun t k => castTop (ef_1 m a1 p2 p3) k
  obtain ⟨_, _, ⟨T1, L1, k1, n1⟩, -, X1, ⟨Lc1, hQ1, l1, y1, z1⟩, st1⟩ := X0.specialBack hx (y := (⟨"java/lang/Record", "<init>", "()V"⟩ : MethodName)) rfl hown (mvT hZ (hw _ (List.mem_of_getElem? (i := 6) rfl))) (mvT hZ (hw _ (List.mem_of_getElem? (i := 7) rfl))) (mvT hZ (hw _ (List.mem_of_getElem? (i := 10) rfl))) (by decide) (backOf (W := 0) (rm2 l Z a0 hw [] a1 h0 n0 Z0) hZ (hw _ (List.mem_of_getElem? (i := 10) rfl)) (hw _ (List.mem_of_getElem? (i := 9) rfl)) (by decide) (by decide)) (g := (mkF m 1 #[.val (.ref a1), .val (.int p2), .val (.int p3)] [(.ref a1)])) rfl (by rw [hml]; rfl) (Steps.refl _) (a := a1) (argsL := []) (rest := []) (lenOf pd_0 rfl) rfl (by show 2 * 0 + _ ≤ _; exact Nat.le_of_eq rfl) (hb hby d1_1) (fun _ _ => ⟨rfl, e0, (by decide : 0 + 0 ≤ _), (by decide : 0 + 0 ≤ _)⟩)
  dsimp only [Pt.U, Pt.locs, Pt.cells, Pt.slots] at X1 l1 y1 z1 st1 hQ1
  subst l1 y1 z1
  obtain ⟨rfl, N1q, e1⟩ := hQ1
  have N1 := Fr.app N0 N1q
  obtain ⟨T2, h2, X2, e2, W2, st2⟩ := putFN X1 hx hZ hown (hw _ (List.mem_of_getElem? (i := 14) rfl)) Via.refl e1 F_d E_a1 (Or.inr ⟨(hw _ (List.mem_of_getElem? (i := 15) rfl)), rfl, hnm⟩) (hw _ (List.mem_of_getElem? (i := 1) rfl)) (ty := .boolean) (v' := (.int p2)) (by decide) (own_nar hp2) (own_fits hp2) (g := (mkF m 6 #[.val (.ref a1), .val (.int p2), .val (.int p3)] [(.int p2), (.ref a1)])) rfl rfl (hb hby d1_6)
  have N2 := Fr.snoc X2 N1 g_a1
  have K2_ : Keep h0 h2 [a1] := (Keep.refl h0 [a1]).wr W2 (Or.inl (List.mem_of_getElem? (i := 0) rfl))
  have z2_ : n0 ≤ (h2).size := Nat.le_trans Z0 (Keep.of_wr W2).1
  have F2_dispensable_a1 := F_d.same W2
  have F2_replaceable_a1 := F_r.other W2 (Or.inr (slot_ne (Or.inr (hw _ (List.mem_of_getElem? (i := 17) rfl))) (Or.inr (hw _ (List.mem_of_getElem? (i := 15) rfl))) (by decide) (t := .boolean) (t' := .boolean) (by decide) (by decide)))
  have E2_a1 := E_a1.wr W2
  obtain ⟨T3, h3, X3, e3, W3, st3⟩ := putFN X2 hx hZ hown (hw _ (List.mem_of_getElem? (i := 16) rfl)) Via.refl e2 F2_replaceable_a1 E2_a1 (Or.inr ⟨(hw _ (List.mem_of_getElem? (i := 17) rfl)), rfl, hnm⟩) (hw _ (List.mem_of_getElem? (i := 1) rfl)) (ty := .boolean) (v' := (.int p3)) (by decide) (own_nar hp3) (own_fits hp3) (g := (mkF m 11 #[.val (.ref a1), .val (.int p2), .val (.int p3)] [(.int p3), (.ref a1)])) rfl rfl (hb hby d1_11)
  have N3 := Fr.snoc X3 N2 g_a1
  have K3_ : Keep h0 h3 [a1] := K2_.wr W3 (Or.inl (List.mem_of_getElem? (i := 0) rfl))
  have z3_ : n0 ≤ (h3).size := Nat.le_trans z2_ (Keep.of_wr W3).1
  have F3_dispensable_a1 := F2_dispensable_a1.other W3 (Or.inr (slot_ne (Or.inr (hw _ (List.mem_of_getElem? (i := 15) rfl))) (Or.inr (hw _ (List.mem_of_getElem? (i := 17) rfl))) (by decide) (t := .boolean) (t' := .boolean) (by decide) (by decide)))
  have F3_replaceable_a1 := F2_replaceable_a1.same W3
  have E3_a1 := E2_a1.wr W3
  obtain ⟨fs, hr, hrun, hended, hW, hsame⟩ := X3.leave (v := none) (fun _ => rfl)
  refine ⟨_, _, pre0 _ ?_, hrun, hended, _, _, rfl, ?_, ⟨_, rfl⟩, hW, hsame.mono (by decide) (by decide)⟩
  · show Steps p.tables e below (s₁.setTop (mkF m 0 #[.val (.ref a1), .val (.int p2), .val (.int p3)] [])) _
    refine XS.aloadN X0.here hx rfl (hb hby d1_0) rfl rfl ?_
    show Steps p.tables e below (s₁.setTop (mkF m 1 #[.val (.ref a1), .val (.int p2), .val (.int p3)] [(.ref a1)])) _
    refine st1.trans ?_
    show Steps p.tables e below (T1.setTop (mkF m 4 #[.val (.ref a1), .val (.int p2), .val (.int p3)] [])) _
    refine XS.aloadN X1.here hx rfl (hb hby d1_4) rfl rfl ?_
    show Steps p.tables e below (T1.setTop (mkF m 5 #[.val (.ref a1), .val (.int p2), .val (.int p3)] [(.ref a1)])) _
    refine XS.iloadN X1.here hx rfl (hb hby d1_5) rfl ?_
    show Steps p.tables e below (T1.setTop (mkF m 6 #[.val (.ref a1), .val (.int p2), .val (.int p3)] [(.int p2), (.ref a1)])) _
    refine st2 _ ?_
    show Steps p.tables e below (T2.setTop (mkF m 9 #[.val (.ref a1), .val (.int p2), .val (.int p3)] [])) _
    refine XS.aloadN X2.here hx rfl (hb hby d1_9) rfl rfl ?_
    show Steps p.tables e below (T2.setTop (mkF m 10 #[.val (.ref a1), .val (.int p2), .val (.int p3)] [(.ref a1)])) _
    refine XS.iloadN X2.here hx rfl (hb hby d1_10) rfl ?_
    show Steps p.tables e below (T2.setTop (mkF m 11 #[.val (.ref a1), .val (.int p2), .val (.int p3)] [(.int p3), (.ref a1)])) _
    refine st3 _ ?_
    show Steps p.tables e below (T3.setTop (mkF m 14 #[.val (.ref a1), .val (.int p2), .val (.int p3)] [])) _
    exact X3.returnOut hx Bd.returns (hb hby d1_14) hr
  · show Q_rm1 Z a1 p2 p3 u u' h0 n0 _ T3.heap _
    rw [e3]
    exact ⟨rfl, N3, K3_, E3_a1, F3_dispensable_a1, F3_replaceable_a1⟩
theorem d4_0 : decode prog_156_method_2_code 0 = .ok (.aload_n 0, 1) := by decide +kernel
theorem d4_1 : decode prog_156_method_2_code 1 = .ok (.getfield 7, 3) := by decide +kernel
theorem d4_4 : decode prog_156_method_2_code 4 = .ok (.ifCond .eq 14, 3) := by decide +kernel
theorem d4_7 : decode prog_156_method_2_code 7 = .ok (.aload_n 1, 1) := by decide +kernel
theorem d4_8 : decode prog_156_method_2_code 8 = .ok (.getfield 7, 3) := by decide +kernel
theorem d4_11 : decode prog_156_method_2_code 11 = .ok (.ifCond .eq 7, 3) := by decide +kernel
theorem d4_14 : decode prog_156_method_2_code 14 = .ok (.iconst 1, 1) := by decide +kernel
theorem d4_15 : decode prog_156_method_2_code 15 = .ok (.goto 4, 3) := by decide +kernel
theorem d4_18 : decode prog_156_method_2_code 18 = .ok (.iconst 0, 1) := by decide +kernel
theorem d4_19 : decode prog_156_method_2_code 19 = .ok (.istore_n 2, 1) := by decide +kernel
theorem d4_20 : decode prog_156_method_2_code 20 = .ok (.aload_n 0, 1) := by decide +kernel
theorem d4_21 : decode prog_156_method_2_code 21 = .ok (.getfield 13, 3) := by decide +kernel
theorem d4_24 : decode prog_156_method_2_code 24 = .ok (.ifCond .eq 14, 3) := by decide +kernel
theorem d4_27 : decode prog_156_method_2_code 27 = .ok (.aload_n 1, 1) := by decide +kernel
theorem d4_28 : decode prog_156_method_2_code 28 = .ok (.getfield 13, 3) := by decide +kernel
theorem d4_31 : decode prog_156_method_2_code 31 = .ok (.ifCond .eq 7, 3) := by decide +kernel
theorem d4_34 : decode prog_156_method_2_code 34 = .ok (.iconst 1, 1) := by decide +kernel
theorem d4_35 : decode prog_156_method_2_code 35 = .ok (.goto 4, 3) := by decide +kernel
theorem d4_38 : decode prog_156_method_2_code 38 = .ok (.iconst 0, 1) := by decide +kernel
theorem d4_39 : decode prog_156_method_2_code 39 = .ok (.istore_n 3, 1) := by decide +kernel
theorem d4_40 : decode prog_156_method_2_code 40 = .ok (.iload_n 2, 1) := by decide +kernel
theorem d4_41 : decode prog_156_method_2_code 41 = .ok (.ifCond .eq 17, 3) := by decide +kernel
theorem d4_44 : decode prog_156_method_2_code 44 = .ok (.iload_n 3, 1) := by decide +kernel
theorem d4_45 : decode prog_156_method_2_code 45 = .ok (.ifCond .eq 9, 3) := by decide +kernel
theorem d4_48 : decode prog_156_method_2_code 48 = .ok (.getstatic 16, 3) := by decide +kernel
theorem d4_51 : decode prog_156_method_2_code 51 = .ok (.goto 6, 3) := by decide +kernel
theorem d4_54 : decode prog_156_method_2_code 54 = .ok (.getstatic 20, 3) := by decide +kernel
theorem d4_57 : decode prog_156_method_2_code 57 = .ok (.areturn, 1) := by decide +kernel
theorem d4_58 : decode prog_156_method_2_code 58 = .ok (.iload_n 3, 1) := by decide +kernel
theorem d4_59 : decode prog_156_method_2_code 59 = .ok (.ifCond .eq 9, 3) := by decide +kernel
theorem d4_62 : decode prog_156_method_2_code 62 = .ok (.getstatic 23, 3) := by decide +kernel
theorem d4_65 : decode prog_156_method_2_code 65 = .ok (.goto 6, 3) := by decide +kernel
theorem d4_68 : decode prog_156_method_2_code 68 = .ok (.getstatic 26, 3) := by decide +kernel
theorem d4_71 : decode prog_156_method_2_code 71 = .ok (.areturn, 1) := by decide +kernel
theorem ef_4 (m : MethodId) (x0 : Addr) (x1 : Addr) : entryFrame m #[(.ref x0), (.ref x1)] 4 = mkF m 0 #[.val (.ref x0), .val (.ref x1), .unset, .unset] [] := by first | (simp [entryFrame, mkF, argsToLocals, Value.category]; done) | rfl
set_option maxRecDepth 65536 in
set_option maxHeartbeats 40000000 in
theorem rm4 (l : Launch) (Z : State) (a0 : Array Value) (hw : ∀ d ∈ tables_1, d.before a0 Z = true) (ws : List Jvm.Cond) (a1 : Addr) (a2 : Addr) (d1 r1 d2 r2 : Int32) (wA wD wR wN r : Addr) (h0 : Heap) (n0 : Nat) (Z0 : n0 ≤ h0.size) (Fd1 : Fld Z h0 a1 "com/example/viewkeeper/viewkeeper/workspace/Preferences" "dispensable" "Z" (.int d1)) (Fr1 : Fld Z h0 a1 "com/example/viewkeeper/viewkeeper/workspace/Preferences" "replaceable" "Z" (.int r1)) (Fd2 : Fld Z h0 a2 "com/example/viewkeeper/viewkeeper/workspace/Preferences" "dispensable" "Z" (.int d2)) (Fr2 : Fld Z h0 a2 "com/example/viewkeeper/viewkeeper/workspace/Preferences" "replaceable" "Z" (.int r2)) (S_ALL : Sta Z h0 "com/example/viewkeeper/viewkeeper/workspace/Preferences" "ALL" "Lcom/example/viewkeeper/viewkeeper/workspace/Preferences;" (.ref wA)) (S_DISPENSABLE : Sta Z h0 "com/example/viewkeeper/viewkeeper/workspace/Preferences" "DISPENSABLE" "Lcom/example/viewkeeper/viewkeeper/workspace/Preferences;" (.ref wD)) (S_REPLACEABLE : Sta Z h0 "com/example/viewkeeper/viewkeeper/workspace/Preferences" "REPLACEABLE" "Lcom/example/viewkeeper/viewkeeper/workspace/Preferences;" (.ref wR)) (S_NONE : Sta Z h0 "com/example/viewkeeper/viewkeeper/workspace/Preferences" "NONE" "Lcom/example/viewkeeper/viewkeeper/workspace/Preferences;" (.ref wN)) (hpk : own_and d1 r1 d2 r2 wA wD wR wN = r) :
    MetFree l (⟨"com/example/viewkeeper/viewkeeper/workspace/Preferences", "and", "(Lcom/example/viewkeeper/viewkeeper/workspace/Preferences;)Lcom/example/viewkeeper/viewkeeper/workspace/Preferences;"⟩ : MethodName) (head1 (Jvm.Cond.code (⟨"com/example/viewkeeper/viewkeeper/workspace/Preferences", "and", "(Lcom/example/viewkeeper/viewkeeper/workspace/Preferences;)Lcom/example/viewkeeper/viewkeeper/workspace/Preferences;"⟩ : MethodName) prog_156_method_2_code 4 (some (.object "com/example/viewkeeper/viewkeeper/workspace/Preferences")) :: ws) ({ frames := 0, cells := 0, slots := 0, locals := 0 } : Room)) (fun a U => a = #[(.ref a1), (.ref a2)] ∧ Z.Warmed39 U.vm ∧ U.heap = h0) (fun _ _ _ _ _ => True) (fun _ U o U' => ∃ v L, o = .returned v ∧ (QV (.ref r) h0 n0 v U'.heap L) ∧ FrameEnd U o U' L ({ frames := 0, cells := 0, slots := 0, locals := 0 } : Room).cells ({ frames := 0, cells := 0, slots := 0, locals := 0 } : Room).slots) := by
  refine MetFree.of_bodySF (plainFor_of_name pn_1) hisR ?_
  intro p e s m args below meth c s₁ Bd hml0 hP hK
  obtain ⟨rfl, hZ, hh⟩ := hP
  have hx := Bd.exec
  have hby := Bd.bytes
  have hml : c.maxLocals = 4 := hml0
  have hown : s.vm.findClass "com/example/viewkeeper/viewkeeper/workspace/Preferences" = some m.cls := findClass_of_methodNamed Bd.named
  have hnm := (name_of_methodNamed Bd.named Bd.method).1
  have X0 : Stand p l e ({ frames := 0, cells := 0, slots := 0, locals := 0 } : Room) s m #[(.ref a1), (.ref a2)] below meth c s₁ [] 0 0 := Stand.of_body Bd
  have e0 : s₁.heap = h0 := by rw [← hh, Bd.state]; rfl
  have N0 := Fr.nil n0
  have pre0 : ∀ t, Steps p.tables e below (s₁.setTop (mkF m 0 #[.val (.ref a1), .val (.ref a2), .unset, .unset] [])) t → Steps p.tables e below (s₁.setTop (entryFrame m #[(.ref a1), (.ref a2)] 4)) t := fun t k => castTop (ef_4 m a1 a2) k
  obtain ⟨T1, X1, e1, st1⟩ := getF X0 hx hZ hown (host := "") (Or.inl (hw _ (List.mem_of_getElem? (i := 14) rfl))) Via.refl e0 Fd1 (g := (mkF m 1 #[.val (.ref a1), .val (.ref a2), .unset, .unset] [(.ref a1)])) rfl rfl (hb hby d4_1)
  have pre2 : ∀ t, Steps p.tables e below (T1.setTop (mkF m 4 #[.val (.ref a1), .val (.ref a2), .unset, .unset] [(.int d1)])) t → Steps p.tables e below (s₁.setTop (entryFrame m #[(.ref a1), (.ref a2)] 4)) t := fun t k => pre0 t (by
      show Steps p.tables e below (s₁.setTop (mkF m 0 #[.val (.ref a1), .val (.ref a2), .unset, .unset] [])) _
      refine XS.aloadN X0.here hx rfl (hb hby d4_0) rfl rfl ?_
      show Steps p.tables e below (s₁.setTop (mkF m 1 #[.val (.ref a1), .val (.ref a2), .unset, .unset] [(.ref a1)])) _
      refine st1 _ ?_
      exact k)
  by_cases hc4_3 : d1 = (0 : Int32)
  · obtain ⟨T4, X4, e4, st4⟩ := getF X1 hx hZ hown (host := "") (Or.inl (hw _ (List.mem_of_getElem? (i := 16) rfl))) Via.refl e1 Fr1 (g := (mkF m 21 #[.val (.ref a1), .val (.ref a2), .val (.int (0 : Int32)), .unset] [(.ref a1)])) rfl rfl (hb hby d4_21)
    have pre5 : ∀ t, Steps p.tables e below (T4.setTop (mkF m 24 #[.val (.ref a1), .val (.ref a2), .val (.int (0 : Int32)), .unset] [(.int r1)])) t → Steps p.tables e below (s₁.setTop (entryFrame m #[(.ref a1), (.ref a2)] 4)) t := fun t k => pre2 t (by
        show Steps p.tables e below (T1.setTop (mkF m 4 #[.val (.ref a1), .val (.ref a2), .unset, .unset] [(.int d1)])) _
        refine XS.ifYes X1.here hx rfl (pc0 := 4) (pc' := 18) rfl (hb hby d4_4) rfl ((if0 _ _).trans (teq hc4_3).1) (by decide) (by decide) ?_
        show Steps p.tables e below (T1.setTop (mkF m 18 #[.val (.ref a1), .val (.ref a2), .unset, .unset] [])) _
        refine XS.iconst X1.here hx rfl (hb hby d4_18) ?_
        show Steps p.tables e below (T1.setTop (mkF m 19 #[.val (.ref a1), .val (.ref a2), .unset, .unset] [(.int (0 : Int32))])) _
        refine XS.istoreN X1.here hx rfl (hb hby d4_19) rfl (l' := #[.val (.ref a1), .val (.ref a2), .val (.int (0 : Int32)), .unset]) rfl ?_
        show Steps p.tables e below (T1.setTop (mkF m 20 #[.val (.ref a1), .val (.ref a2), .val (.int (0 : Int32)), .unset] [])) _
        refine XS.aloadN X1.here hx rfl (hb hby d4_20) rfl rfl ?_
        show Steps p.tables e below (T1.setTop (mkF m 21 #[.val (.ref a1), .val (.ref a2), .val (.int (0 : Int32)), .unset] [(.ref a1)])) _
        refine st4 _ ?_
        exact k)
    by_cases hc24_6 : r1 = (0 : Int32)
    · obtain ⟨T7, X7, e7, st7⟩ := getS2 X4 hx hZ hown (host := "") (Or.inl (hw _ (List.mem_of_getElem? (i := 23) rfl))) Via.refl e4 S_NONE (g := (mkF m 68 #[.val (.ref a1), .val (.ref a2), .val (.int (0 : Int32)), .val (.int (0 : Int32))] [])) rfl (hb hby d4_68)
      obtain ⟨fs, hr, hrun, hended, hW, hsame⟩ := X7.leave (v := some (.ref wN)) (fun h => by rw [Bd.returns] at h; cases h)
      refine ⟨_, _, pre5 _ ?_, hrun, hended, _, _, rfl, ?_, ⟨_, rfl⟩, hW, hsame.mono (by decide) (by decide)⟩
      · show Steps p.tables e below (T4.setTop (mkF m 24 #[.val (.ref a1), .val (.ref a2), .val (.int (0 : Int32)), .unset] [(.int r1)])) _
        refine XS.ifYes X4.here hx rfl (pc0 := 24) (pc' := 38) rfl (hb hby d4_24) rfl ((if0 _ _).trans (teq hc24_6).1) (by decide) (by decide) ?_
        show Steps p.tables e below (T4.setTop (mkF m 38 #[.val (.ref a1), .val (.ref a2), .val (.int (0 : Int32)), .unset] [])) _
        refine XS.iconst X4.here hx rfl (hb hby d4_38) ?_
        show Steps p.tables e below (T4.setTop (mkF m 39 #[.val (.ref a1), .val (.ref a2), .val (.int (0 : Int32)), .unset] [(.int (0 : Int32))])) _
        refine XS.istoreN X4.here hx rfl (hb hby d4_39) rfl (l' := #[.val (.ref a1), .val (.ref a2), .val (.int (0 : Int32)), .val (.int (0 : Int32))]) rfl ?_
        show Steps p.tables e below (T4.setTop (mkF m 40 #[.val (.ref a1), .val (.ref a2), .val (.int (0 : Int32)), .val (.int (0 : Int32))] [])) _
        refine XS.iloadN X4.here hx rfl (hb hby d4_40) rfl ?_
        show Steps p.tables e below (T4.setTop (mkF m 41 #[.val (.ref a1), .val (.ref a2), .val (.int (0 : Int32)), .val (.int (0 : Int32))] [(.int (0 : Int32))])) _
        refine XS.ifYes X4.here hx rfl (pc0 := 41) (pc' := 58) rfl (hb hby d4_41) rfl ((if0 _ _).trans (teq (by decide : (0 : Int32) = (0 : Int32))).1) (by decide) (by decide) ?_
        show Steps p.tables e below (T4.setTop (mkF m 58 #[.val (.ref a1), .val (.ref a2), .val (.int (0 : Int32)), .val (.int (0 : Int32))] [])) _
        refine XS.iloadN X4.here hx rfl (hb hby d4_58) rfl ?_
        show Steps p.tables e below (T4.setTop (mkF m 59 #[.val (.ref a1), .val (.ref a2), .val (.int (0 : Int32)), .val (.int (0 : Int32))] [(.int (0 : Int32))])) _
        refine XS.ifYes X4.here hx rfl (pc0 := 59) (pc' := 68) rfl (hb hby d4_59) rfl ((if0 _ _).trans (teq (by decide : (0 : Int32) = (0 : Int32))).1) (by decide) (by decide) ?_
        show Steps p.tables e below (T4.setTop (mkF m 68 #[.val (.ref a1), .val (.ref a2), .val (.int (0 : Int32)), .val (.int (0 : Int32))] [])) _
        refine st7 _ ?_
        show Steps p.tables e below (T7.setTop (mkF m 71 #[.val (.ref a1), .val (.ref a2), .val (.int (0 : Int32)), .val (.int (0 : Int32))] [(.ref wN)])) _
        jvm_step X7.here [X7.here.top, hx, (hb hby d4_71), X7.method', Bd.returns, Value.isRef, FieldType.isReference]
        first | (intro acts; rw [hr _ acts rfl rfl rfl]) | rw [hr _ _ rfl rfl rfl]
        exact Steps.refl _
      · show QV (.ref r) h0 n0 _ T7.heap _
        rw [e7]
        exact ⟨by rw [← hpk]; rw [own_and, if_pos hc4_3, if_pos hc24_6], N0, rfl⟩
    · obtain ⟨T8, X8, e8, st8⟩ := getF X4 hx hZ hown (host := "") (Or.inl (hw _ (List.mem_of_getElem? (i := 16) rfl))) Via.refl e4 Fr2 (g := (mkF m 28 #[.val (.ref a1), .val (.ref a2), .val (.int (0 : Int32)), .unset] [(.ref a2)])) rfl rfl (hb hby d4_28)
      have pre9 : ∀ t, Steps p.tables e below (T8.setTop (mkF m 31 #[.val (.ref a1), .val (.ref a2), .val (.int (0 : Int32)), .unset] [(.int r2)])) t → Steps p.tables e below (s₁.setTop (entryFrame m #[(.ref a1), (.ref a2)] 4)) t := fun t k => pre5 t (by
          show Steps p.tables e below (T4.setTop (mkF m 24 #[.val (.ref a1), .val (.ref a2), .val (.int (0 : Int32)), .unset] [(.int r1)])) _
          refine XS.ifNo X4.here hx rfl (hb hby d4_24) rfl ((if0 _ _).trans (feq hc24_6).1) ?_
          show Steps p.tables e below (T4.setTop (mkF m 27 #[.val (.ref a1), .val (.ref a2), .val (.int (0 : Int32)), .unset] [])) _
          refine XS.aloadN X4.here hx rfl (hb hby d4_27) rfl rfl ?_
          show Steps p.tables e below (T4.setTop (mkF m 28 #[.val (.ref a1), .val (.ref a2), .val (.int (0 : Int32)), .unset] [(.ref a2)])) _
          refine st8 _ ?_
          exact k)
      by_cases hc31_10 : r2 = (0 : Int32)
      · obtain ⟨T11, X11, e11, st11⟩ := getS2 X8 hx hZ hown (host := "") (Or.inl (hw _ (List.mem_of_getElem? (i := 23) rfl))) Via.refl e8 S_NONE (g := (mkF m 68 #[.val (.ref a1), .val (.ref a2), .val (.int (0 : Int32)), .val (.int (0 : Int32))] [])) rfl (hb hby d4_68)
        obtain ⟨fs, hr, hrun, hended, hW, hsame⟩ := X11.leave (v := some (.ref wN)) (fun h => by rw [Bd.returns] at h; cases h)
        refine ⟨_, _, pre9 _ ?_, hrun, hended, _, _, rfl, ?_, ⟨_, rfl⟩, hW, hsame.mono (by decide) (by decide)⟩
        · show Steps p.tables e below (T8.setTop (mkF m 31 #[.val (.ref a1), .val (.ref a2), .val (.int (0 : Int32)), .unset] [(.int r2)])) _
          refine XS.ifYes X8.here hx rfl (pc0 := 31) (pc' := 38) rfl (hb hby d4_31) rfl ((if0 _ _).trans (teq hc31_10).1) (by decide) (by decide) ?_
          show Steps p.tables e below (T8.setTop (mkF m 38 #[.val (.ref a1), .val (.ref a2), .val (.int (0 : Int32)), .unset] [])) _
          refine XS.iconst X8.here hx rfl (hb hby d4_38) ?_
          show Steps p.tables e below (T8.setTop (mkF m 39 #[.val (.ref a1), .val (.ref a2), .val (.int (0 : Int32)), .unset] [(.int (0 : Int32))])) _
          refine XS.istoreN X8.here hx rfl (hb hby d4_39) rfl (l' := #[.val (.ref a1), .val (.ref a2), .val (.int (0 : Int32)), .val (.int (0 : Int32))]) rfl ?_
          show Steps p.tables e below (T8.setTop (mkF m 40 #[.val (.ref a1), .val (.ref a2), .val (.int (0 : Int32)), .val (.int (0 : Int32))] [])) _
          refine XS.iloadN X8.here hx rfl (hb hby d4_40) rfl ?_
          show Steps p.tables e below (T8.setTop (mkF m 41 #[.val (.ref a1), .val (.ref a2), .val (.int (0 : Int32)), .val (.int (0 : Int32))] [(.int (0 : Int32))])) _
          refine XS.ifYes X8.here hx rfl (pc0 := 41) (pc' := 58) rfl (hb hby d4_41) rfl ((if0 _ _).trans (teq (by decide : (0 : Int32) = (0 : Int32))).1) (by decide) (by decide) ?_
          show Steps p.tables e below (T8.setTop (mkF m 58 #[.val (.ref a1), .val (.ref a2), .val (.int (0 : Int32)), .val (.int (0 : Int32))] [])) _
          refine XS.iloadN X8.here hx rfl (hb hby d4_58) rfl ?_
          show Steps p.tables e below (T8.setTop (mkF m 59 #[.val (.ref a1), .val (.ref a2), .val (.int (0 : Int32)), .val (.int (0 : Int32))] [(.int (0 : Int32))])) _
          refine XS.ifYes X8.here hx rfl (pc0 := 59) (pc' := 68) rfl (hb hby d4_59) rfl ((if0 _ _).trans (teq (by decide : (0 : Int32) = (0 : Int32))).1) (by decide) (by decide) ?_
          show Steps p.tables e below (T8.setTop (mkF m 68 #[.val (.ref a1), .val (.ref a2), .val (.int (0 : Int32)), .val (.int (0 : Int32))] [])) _
          refine st11 _ ?_
          show Steps p.tables e below (T11.setTop (mkF m 71 #[.val (.ref a1), .val (.ref a2), .val (.int (0 : Int32)), .val (.int (0 : Int32))] [(.ref wN)])) _
          jvm_step X11.here [X11.here.top, hx, (hb hby d4_71), X11.method', Bd.returns, Value.isRef, FieldType.isReference]
          first | (intro acts; rw [hr _ acts rfl rfl rfl]) | rw [hr _ _ rfl rfl rfl]
          exact Steps.refl _
        · show QV (.ref r) h0 n0 _ T11.heap _
          rw [e11]
          exact ⟨by rw [← hpk]; rw [own_and, if_pos hc4_3, if_neg hc24_6, if_pos hc31_10], N0, rfl⟩
      · obtain ⟨T12, X12, e12, st12⟩ := getS2 X8 hx hZ hown (host := "") (Or.inl (hw _ (List.mem_of_getElem? (i := 35) rfl))) Via.refl e8 S_REPLACEABLE (g := (mkF m 62 #[.val (.ref a1), .val (.ref a2), .val (.int (0 : Int32)), .val (.int (1 : Int32))] [])) rfl (hb hby d4_62)
        obtain ⟨fs, hr, hrun, hended, hW, hsame⟩ := X12.leave (v := some (.ref wR)) (fun h => by rw [Bd.returns] at h; cases h)
        refine ⟨_, _, pre9 _ ?_, hrun, hended, _, _, rfl, ?_, ⟨_, rfl⟩, hW, hsame.mono (by decide) (by decide)⟩
        · show Steps p.tables e below (T8.setTop (mkF m 31 #[.val (.ref a1), .val (.ref a2), .val (.int (0 : Int32)), .unset] [(.int r2)])) _
          refine XS.ifNo X8.here hx rfl (hb hby d4_31) rfl ((if0 _ _).trans (feq hc31_10).1) ?_
          show Steps p.tables e below (T8.setTop (mkF m 34 #[.val (.ref a1), .val (.ref a2), .val (.int (0 : Int32)), .unset] [])) _
          refine XS.iconst X8.here hx rfl (hb hby d4_34) ?_
          show Steps p.tables e below (T8.setTop (mkF m 35 #[.val (.ref a1), .val (.ref a2), .val (.int (0 : Int32)), .unset] [(.int (1 : Int32))])) _
          refine XS.goto X8.here hx rfl (pc0 := 35) (pc' := 39) rfl (hb hby d4_35) (by decide) (by decide) ?_
          show Steps p.tables e below (T8.setTop (mkF m 39 #[.val (.ref a1), .val (.ref a2), .val (.int (0 : Int32)), .unset] [(.int (1 : Int32))])) _
          refine XS.istoreN X8.here hx rfl (hb hby d4_39) rfl (l' := #[.val (.ref a1), .val (.ref a2), .val (.int (0 : Int32)), .val (.int (1 : Int32))]) rfl ?_
          show Steps p.tables e below (T8.setTop (mkF m 40 #[.val (.ref a1), .val (.ref a2), .val (.int (0 : Int32)), .val (.int (1 : Int32))] [])) _
          refine XS.iloadN X8.here hx rfl (hb hby d4_40) rfl ?_
          show Steps p.tables e below (T8.setTop (mkF m 41 #[.val (.ref a1), .val (.ref a2), .val (.int (0 : Int32)), .val (.int (1 : Int32))] [(.int (0 : Int32))])) _
          refine XS.ifYes X8.here hx rfl (pc0 := 41) (pc' := 58) rfl (hb hby d4_41) rfl ((if0 _ _).trans (teq (by decide : (0 : Int32) = (0 : Int32))).1) (by decide) (by decide) ?_
          show Steps p.tables e below (T8.setTop (mkF m 58 #[.val (.ref a1), .val (.ref a2), .val (.int (0 : Int32)), .val (.int (1 : Int32))] [])) _
          refine XS.iloadN X8.here hx rfl (hb hby d4_58) rfl ?_
          show Steps p.tables e below (T8.setTop (mkF m 59 #[.val (.ref a1), .val (.ref a2), .val (.int (0 : Int32)), .val (.int (1 : Int32))] [(.int (1 : Int32))])) _
          refine XS.ifNo X8.here hx rfl (hb hby d4_59) rfl ((if0 _ _).trans (feq (by decide : ¬ ((1 : Int32) = (0 : Int32)))).1) ?_
          show Steps p.tables e below (T8.setTop (mkF m 62 #[.val (.ref a1), .val (.ref a2), .val (.int (0 : Int32)), .val (.int (1 : Int32))] [])) _
          refine st12 _ ?_
          show Steps p.tables e below (T12.setTop (mkF m 65 #[.val (.ref a1), .val (.ref a2), .val (.int (0 : Int32)), .val (.int (1 : Int32))] [(.ref wR)])) _
          refine XS.goto X12.here hx rfl (pc0 := 65) (pc' := 71) rfl (hb hby d4_65) (by decide) (by decide) ?_
          show Steps p.tables e below (T12.setTop (mkF m 71 #[.val (.ref a1), .val (.ref a2), .val (.int (0 : Int32)), .val (.int (1 : Int32))] [(.ref wR)])) _
          jvm_step X12.here [X12.here.top, hx, (hb hby d4_71), X12.method', Bd.returns, Value.isRef, FieldType.isReference]
          first | (intro acts; rw [hr _ acts rfl rfl rfl]) | rw [hr _ _ rfl rfl rfl]
          exact Steps.refl _
        · show QV (.ref r) h0 n0 _ T12.heap _
          rw [e12]
          exact ⟨by rw [← hpk]; rw [own_and, if_pos hc4_3, if_neg hc24_6, if_neg hc31_10], N0, rfl⟩
  · obtain ⟨T13, X13, e13, st13⟩ := getF X1 hx hZ hown (host := "") (Or.inl (hw _ (List.mem_of_getElem? (i := 14) rfl))) Via.refl e1 Fd2 (g := (mkF m 8 #[.val (.ref a1), .val (.ref a2), .unset, .unset] [(.ref a2)])) rfl rfl (hb hby d4_8)
    have pre14 : ∀ t, Steps p.tables e below (T13.setTop (mkF m 11 #[.val (.ref a1), .val (.ref a2), .unset, .unset] [(.int d2)])) t → Steps p.tables e below (s₁.setTop (entryFrame m #[(.ref a1), (.ref a2)] 4)) t := fun t k => pre2 t (by
        show Steps p.tables e below (T1.setTop (mkF m 4 #[.val (.ref a1), .val (.ref a2), .unset, .unset] [(.int d1)])) _
        refine XS.ifNo X1.here hx rfl (hb hby d4_4) rfl ((if0 _ _).trans (feq hc4_3).1) ?_
        show Steps p.tables e below (T1.setTop (mkF m 7 #[.val (.ref a1), .val (.ref a2), .unset, .unset] [])) _
        refine XS.aloadN X1.here hx rfl (hb hby d4_7) rfl rfl ?_
        show Steps p.tables e below (T1.setTop (mkF m 8 #[.val (.ref a1), .val (.ref a2), .unset, .unset] [(.ref a2)])) _
        refine st13 _ ?_
        exact k)
    by_cases hc11_15 : d2 = (0 : Int32)
    · obtain ⟨T16, X16, e16, st16⟩ := getF X13 hx hZ hown (host := "") (Or.inl (hw _ (List.mem_of_getElem? (i := 16) rfl))) Via.refl e13 Fr1 (g := (mkF m 21 #[.val (.ref a1), .val (.ref a2), .val (.int (0 : Int32)), .unset] [(.ref a1)])) rfl rfl (hb hby d4_21)
      have pre17 : ∀ t, Steps p.tables e below (T16.setTop (mkF m 24 #[.val (.ref a1), .val (.ref a2), .val (.int (0 : Int32)), .unset] [(.int r1)])) t → Steps p.tables e below (s₁.setTop (entryFrame m #[(.ref a1), (.ref a2)] 4)) t := fun t k => pre14 t (by
          show Steps p.tables e below (T13.setTop (mkF m 11 #[.val (.ref a1), .val (.ref a2), .unset, .unset] [(.int d2)])) _
          refine XS.ifYes X13.here hx rfl (pc0 := 11) (pc' := 18) rfl (hb hby d4_11) rfl ((if0 _ _).trans (teq hc11_15).1) (by decide) (by decide) ?_
          show Steps p.tables e below (T13.setTop (mkF m 18 #[.val (.ref a1), .val (.ref a2), .unset, .unset] [])) _
          refine XS.iconst X13.here hx rfl (hb hby d4_18) ?_
          show Steps p.tables e below (T13.setTop (mkF m 19 #[.val (.ref a1), .val (.ref a2), .unset, .unset] [(.int (0 : Int32))])) _
          refine XS.istoreN X13.here hx rfl (hb hby d4_19) rfl (l' := #[.val (.ref a1), .val (.ref a2), .val (.int (0 : Int32)), .unset]) rfl ?_
          show Steps p.tables e below (T13.setTop (mkF m 20 #[.val (.ref a1), .val (.ref a2), .val (.int (0 : Int32)), .unset] [])) _
          refine XS.aloadN X13.here hx rfl (hb hby d4_20) rfl rfl ?_
          show Steps p.tables e below (T13.setTop (mkF m 21 #[.val (.ref a1), .val (.ref a2), .val (.int (0 : Int32)), .unset] [(.ref a1)])) _
          refine st16 _ ?_
          exact k)
      by_cases hc24_18 : r1 = (0 : Int32)
      · obtain ⟨T19, X19, e19, st19⟩ := getS2 X16 hx hZ hown (host := "") (Or.inl (hw _ (List.mem_of_getElem? (i := 23) rfl))) Via.refl e16 S_NONE (g := (mkF m 68 #[.val (.ref a1), .val (.ref a2), .val (.int (0 : Int32)), .val (.int (0 : Int32))] [])) rfl (hb hby d4_68)
        obtain ⟨fs, hr, hrun, hended, hW, hsame⟩ := X19.leave (v := some (.ref wN)) (fun h => by rw [Bd.returns] at h; cases h)
        refine ⟨_, _, pre17 _ ?_, hrun, hended, _, _, rfl, ?_, ⟨_, rfl⟩, hW, hsame.mono (by decide) (by decide)⟩
        · show Steps p.tables e below (T16.setTop (mkF m 24 #[.val (.ref a1), .val (.ref a2), .val (.int (0 : Int32)), .unset] [(.int r1)])) _
          refine XS.ifYes X16.here hx rfl (pc0 := 24) (pc' := 38) rfl (hb hby d4_24) rfl ((if0 _ _).trans (teq hc24_18).1) (by decide) (by decide) ?_
          show Steps p.tables e below (T16.setTop (mkF m 38 #[.val (.ref a1), .val (.ref a2), .val (.int (0 : Int32)), .unset] [])) _
          refine XS.iconst X16.here hx rfl (hb hby d4_38) ?_
          show Steps p.tables e below (T16.setTop (mkF m 39 #[.val (.ref a1), .val (.ref a2), .val (.int (0 : Int32)), .unset] [(.int (0 : Int32))])) _
          refine XS.istoreN X16.here hx rfl (hb hby d4_39) rfl (l' := #[.val (.ref a1), .val (.ref a2), .val (.int (0 : Int32)), .val (.int (0 : Int32))]) rfl ?_
          show Steps p.tables e below (T16.setTop (mkF m 40 #[.val (.ref a1), .val (.ref a2), .val (.int (0 : Int32)), .val (.int (0 : Int32))] [])) _
          refine XS.iloadN X16.here hx rfl (hb hby d4_40) rfl ?_
          show Steps p.tables e below (T16.setTop (mkF m 41 #[.val (.ref a1), .val (.ref a2), .val (.int (0 : Int32)), .val (.int (0 : Int32))] [(.int (0 : Int32))])) _
          refine XS.ifYes X16.here hx rfl (pc0 := 41) (pc' := 58) rfl (hb hby d4_41) rfl ((if0 _ _).trans (teq (by decide : (0 : Int32) = (0 : Int32))).1) (by decide) (by decide) ?_
          show Steps p.tables e below (T16.setTop (mkF m 58 #[.val (.ref a1), .val (.ref a2), .val (.int (0 : Int32)), .val (.int (0 : Int32))] [])) _
          refine XS.iloadN X16.here hx rfl (hb hby d4_58) rfl ?_
          show Steps p.tables e below (T16.setTop (mkF m 59 #[.val (.ref a1), .val (.ref a2), .val (.int (0 : Int32)), .val (.int (0 : Int32))] [(.int (0 : Int32))])) _
          refine XS.ifYes X16.here hx rfl (pc0 := 59) (pc' := 68) rfl (hb hby d4_59) rfl ((if0 _ _).trans (teq (by decide : (0 : Int32) = (0 : Int32))).1) (by decide) (by decide) ?_
          show Steps p.tables e below (T16.setTop (mkF m 68 #[.val (.ref a1), .val (.ref a2), .val (.int (0 : Int32)), .val (.int (0 : Int32))] [])) _
          refine st19 _ ?_
          show Steps p.tables e below (T19.setTop (mkF m 71 #[.val (.ref a1), .val (.ref a2), .val (.int (0 : Int32)), .val (.int (0 : Int32))] [(.ref wN)])) _
          jvm_step X19.here [X19.here.top, hx, (hb hby d4_71), X19.method', Bd.returns, Value.isRef, FieldType.isReference]
          first | (intro acts; rw [hr _ acts rfl rfl rfl]) | rw [hr _ _ rfl rfl rfl]
          exact Steps.refl _
        · show QV (.ref r) h0 n0 _ T19.heap _
          rw [e19]
          exact ⟨by rw [← hpk]; rw [own_and, if_neg hc4_3, if_pos hc11_15, if_pos hc24_18], N0, rfl⟩
      · obtain ⟨T20, X20, e20, st20⟩ := getF X16 hx hZ hown (host := "") (Or.inl (hw _ (List.mem_of_getElem? (i := 16) rfl))) Via.refl e16 Fr2 (g := (mkF m 28 #[.val (.ref a1), .val (.ref a2), .val (.int (0 : Int32)), .unset] [(.ref a2)])) rfl rfl (hb hby d4_28)
        have pre21 : ∀ t, Steps p.tables e below (T20.setTop (mkF m 31 #[.val (.ref a1), .val (.ref a2), .val (.int (0 : Int32)), .unset] [(.int r2)])) t → Steps p.tables e below (s₁.setTop (entryFrame m #[(.ref a1), (.ref a2)] 4)) t := fun t k => pre17 t (by
            show Steps p.tables e below (T16.setTop (mkF m 24 #[.val (.ref a1), .val (.ref a2), .val (.int (0 : Int32)), .unset] [(.int r1)])) _
            refine XS.ifNo X16.here hx rfl (hb hby d4_24) rfl ((if0 _ _).trans (feq hc24_18).1) ?_
            show Steps p.tables e below (T16.setTop (mkF m 27 #[.val (.ref a1), .val (.ref a2), .val (.int (0 : Int32)), .unset] [])) _
            refine XS.aloadN X16.here hx rfl (hb hby d4_27) rfl rfl ?_
            show Steps p.tables e below (T16.setTop (mkF m 28 #[.val (.ref a1), .val (.ref a2), .val (.int (0 : Int32)), .unset] [(.ref a2)])) _
            refine st20 _ ?_
            exact k)
        by_cases hc31_22 : r2 = (0 : Int32)
        · obtain ⟨T23, X23, e23, st23⟩ := getS2 X20 hx hZ hown (host := "") (Or.inl (hw _ (List.mem_of_getElem? (i := 23) rfl))) Via.refl e20 S_NONE (g := (mkF m 68 #[.val (.ref a1), .val (.ref a2), .val (.int (0 : Int32)), .val (.int (0 : Int32))] [])) rfl (hb hby d4_68)
          obtain ⟨fs, hr, hrun, hended, hW, hsame⟩ := X23.leave (v := some (.ref wN)) (fun h => by rw [Bd.returns] at h; cases h)
          refine ⟨_, _, pre21 _ ?_, hrun, hended, _, _, rfl, ?_, ⟨_, rfl⟩, hW, hsame.mono (by decide) (by decide)⟩
          · show Steps p.tables e below (T20.setTop (mkF m 31 #[.val (.ref a1), .val (.ref a2), .val (.int (0 : Int32)), .unset] [(.int r2)])) _
            refine XS.ifYes X20.here hx rfl (pc0 := 31) (pc' := 38) rfl (hb hby d4_31) rfl ((if0 _ _).trans (teq hc31_22).1) (by decide) (by decide) ?_
            show Steps p.tables e below (T20.setTop (mkF m 38 #[.val (.ref a1), .val (.ref a2), .val (.int (0 : Int32)), .unset] [])) _
            refine XS.iconst X20.here hx rfl (hb hby d4_38) ?_
            show Steps p.tables e below (T20.setTop (mkF m 39 #[.val (.ref a1), .val (.ref a2), .val (.int (0 : Int32)), .unset] [(.int (0 : Int32))])) _
            refine XS.istoreN X20.here hx rfl (hb hby d4_39) rfl (l' := #[.val (.ref a1), .val (.ref a2), .val (.int (0 : Int32)), .val (.int (0 : Int32))]) rfl ?_
            show Steps p.tables e below (T20.setTop (mkF m 40 #[.val (.ref a1), .val (.ref a2), .val (.int (0 : Int32)), .val (.int (0 : Int32))] [])) _
            refine XS.iloadN X20.here hx rfl (hb hby d4_40) rfl ?_
            show Steps p.tables e below (T20.setTop (mkF m 41 #[.val (.ref a1), .val (.ref a2), .val (.int (0 : Int32)), .val (.int (0 : Int32))] [(.int (0 : Int32))])) _
            refine XS.ifYes X20.here hx rfl (pc0 := 41) (pc' := 58) rfl (hb hby d4_41) rfl ((if0 _ _).trans (teq (by decide : (0 : Int32) = (0 : Int32))).1) (by decide) (by decide) ?_
            show Steps p.tables e below (T20.setTop (mkF m 58 #[.val (.ref a1), .val (.ref a2), .val (.int (0 : Int32)), .val (.int (0 : Int32))] [])) _
            refine XS.iloadN X20.here hx rfl (hb hby d4_58) rfl ?_
            show Steps p.tables e below (T20.setTop (mkF m 59 #[.val (.ref a1), .val (.ref a2), .val (.int (0 : Int32)), .val (.int (0 : Int32))] [(.int (0 : Int32))])) _
            refine XS.ifYes X20.here hx rfl (pc0 := 59) (pc' := 68) rfl (hb hby d4_59) rfl ((if0 _ _).trans (teq (by decide : (0 : Int32) = (0 : Int32))).1) (by decide) (by decide) ?_
            show Steps p.tables e below (T20.setTop (mkF m 68 #[.val (.ref a1), .val (.ref a2), .val (.int (0 : Int32)), .val (.int (0 : Int32))] [])) _
            refine st23 _ ?_
            show Steps p.tables e below (T23.setTop (mkF m 71 #[.val (.ref a1), .val (.ref a2), .val (.int (0 : Int32)), .val (.int (0 : Int32))] [(.ref wN)])) _
            jvm_step X23.here [X23.here.top, hx, (hb hby d4_71), X23.method', Bd.returns, Value.isRef, FieldType.isReference]
            first | (intro acts; rw [hr _ acts rfl rfl rfl]) | rw [hr _ _ rfl rfl rfl]
            exact Steps.refl _
          · show QV (.ref r) h0 n0 _ T23.heap _
            rw [e23]
            exact ⟨by rw [← hpk]; rw [own_and, if_neg hc4_3, if_pos hc11_15, if_neg hc24_18, if_pos hc31_22], N0, rfl⟩
        · obtain ⟨T24, X24, e24, st24⟩ := getS2 X20 hx hZ hown (host := "") (Or.inl (hw _ (List.mem_of_getElem? (i := 35) rfl))) Via.refl e20 S_REPLACEABLE (g := (mkF m 62 #[.val (.ref a1), .val (.ref a2), .val (.int (0 : Int32)), .val (.int (1 : Int32))] [])) rfl (hb hby d4_62)
          obtain ⟨fs, hr, hrun, hended, hW, hsame⟩ := X24.leave (v := some (.ref wR)) (fun h => by rw [Bd.returns] at h; cases h)
          refine ⟨_, _, pre21 _ ?_, hrun, hended, _, _, rfl, ?_, ⟨_, rfl⟩, hW, hsame.mono (by decide) (by decide)⟩
          · show Steps p.tables e below (T20.setTop (mkF m 31 #[.val (.ref a1), .val (.ref a2), .val (.int (0 : Int32)), .unset] [(.int r2)])) _
            refine XS.ifNo X20.here hx rfl (hb hby d4_31) rfl ((if0 _ _).trans (feq hc31_22).1) ?_
            show Steps p.tables e below (T20.setTop (mkF m 34 #[.val (.ref a1), .val (.ref a2), .val (.int (0 : Int32)), .unset] [])) _
            refine XS.iconst X20.here hx rfl (hb hby d4_34) ?_
            show Steps p.tables e below (T20.setTop (mkF m 35 #[.val (.ref a1), .val (.ref a2), .val (.int (0 : Int32)), .unset] [(.int (1 : Int32))])) _
            refine XS.goto X20.here hx rfl (pc0 := 35) (pc' := 39) rfl (hb hby d4_35) (by decide) (by decide) ?_
            show Steps p.tables e below (T20.setTop (mkF m 39 #[.val (.ref a1), .val (.ref a2), .val (.int (0 : Int32)), .unset] [(.int (1 : Int32))])) _
            refine XS.istoreN X20.here hx rfl (hb hby d4_39) rfl (l' := #[.val (.ref a1), .val (.ref a2), .val (.int (0 : Int32)), .val (.int (1 : Int32))]) rfl ?_
            show Steps p.tables e below (T20.setTop (mkF m 40 #[.val (.ref a1), .val (.ref a2), .val (.int (0 : Int32)), .val (.int (1 : Int32))] [])) _
            refine XS.iloadN X20.here hx rfl (hb hby d4_40) rfl ?_
            show Steps p.tables e below (T20.setTop (mkF m 41 #[.val (.ref a1), .val (.ref a2), .val (.int (0 : Int32)), .val (.int (1 : Int32))] [(.int (0 : Int32))])) _
            refine XS.ifYes X20.here hx rfl (pc0 := 41) (pc' := 58) rfl (hb hby d4_41) rfl ((if0 _ _).trans (teq (by decide : (0 : Int32) = (0 : Int32))).1) (by decide) (by decide) ?_
            show Steps p.tables e below (T20.setTop (mkF m 58 #[.val (.ref a1), .val (.ref a2), .val (.int (0 : Int32)), .val (.int (1 : Int32))] [])) _
            refine XS.iloadN X20.here hx rfl (hb hby d4_58) rfl ?_
            show Steps p.tables e below (T20.setTop (mkF m 59 #[.val (.ref a1), .val (.ref a2), .val (.int (0 : Int32)), .val (.int (1 : Int32))] [(.int (1 : Int32))])) _
            refine XS.ifNo X20.here hx rfl (hb hby d4_59) rfl ((if0 _ _).trans (feq (by decide : ¬ ((1 : Int32) = (0 : Int32)))).1) ?_
            show Steps p.tables e below (T20.setTop (mkF m 62 #[.val (.ref a1), .val (.ref a2), .val (.int (0 : Int32)), .val (.int (1 : Int32))] [])) _
            refine st24 _ ?_
            show Steps p.tables e below (T24.setTop (mkF m 65 #[.val (.ref a1), .val (.ref a2), .val (.int (0 : Int32)), .val (.int (1 : Int32))] [(.ref wR)])) _
            refine XS.goto X24.here hx rfl (pc0 := 65) (pc' := 71) rfl (hb hby d4_65) (by decide) (by decide) ?_
            show Steps p.tables e below (T24.setTop (mkF m 71 #[.val (.ref a1), .val (.ref a2), .val (.int (0 : Int32)), .val (.int (1 : Int32))] [(.ref wR)])) _
            jvm_step X24.here [X24.here.top, hx, (hb hby d4_71), X24.method', Bd.returns, Value.isRef, FieldType.isReference]
            first | (intro acts; rw [hr _ acts rfl rfl rfl]) | rw [hr _ _ rfl rfl rfl]
            exact Steps.refl _
          · show QV (.ref r) h0 n0 _ T24.heap _
            rw [e24]
            exact ⟨by rw [← hpk]; rw [own_and, if_neg hc4_3, if_pos hc11_15, if_neg hc24_18, if_neg hc31_22], N0, rfl⟩
    · obtain ⟨T25, X25, e25, st25⟩ := getF X13 hx hZ hown (host := "") (Or.inl (hw _ (List.mem_of_getElem? (i := 16) rfl))) Via.refl e13 Fr1 (g := (mkF m 21 #[.val (.ref a1), .val (.ref a2), .val (.int (1 : Int32)), .unset] [(.ref a1)])) rfl rfl (hb hby d4_21)
      have pre26 : ∀ t, Steps p.tables e below (T25.setTop (mkF m 24 #[.val (.ref a1), .val (.ref a2), .val (.int (1 : Int32)), .unset] [(.int r1)])) t → Steps p.tables e below (s₁.setTop (entryFrame m #[(.ref a1), (.ref a2)] 4)) t := fun t k => pre14 t (by
          show Steps p.tables e below (T13.setTop (mkF m 11 #[.val (.ref a1), .val (.ref a2), .unset, .unset] [(.int d2)])) _
          refine XS.ifNo X13.here hx rfl (hb hby d4_11) rfl ((if0 _ _).trans (feq hc11_15).1) ?_
          show Steps p.tables e below (T13.setTop (mkF m 14 #[.val (.ref a1), .val (.ref a2), .unset, .unset] [])) _
          refine XS.iconst X13.here hx rfl (hb hby d4_14) ?_
          show Steps p.tables e below (T13.setTop (mkF m 15 #[.val (.ref a1), .val (.ref a2), .unset, .unset] [(.int (1 : Int32))])) _
          refine XS.goto X13.here hx rfl (pc0 := 15) (pc' := 19) rfl (hb hby d4_15) (by decide) (by decide) ?_
          show Steps p.tables e below (T13.setTop (mkF m 19 #[.val (.ref a1), .val (.ref a2), .unset, .unset] [(.int (1 : Int32))])) _
          refine XS.istoreN X13.here hx rfl (hb hby d4_19) rfl (l' := #[.val (.ref a1), .val (.ref a2), .val (.int (1 : Int32)), .unset]) rfl ?_
          show Steps p.tables e below (T13.setTop (mkF m 20 #[.val (.ref a1), .val (.ref a2), .val (.int (1 : Int32)), .unset] [])) _
          refine XS.aloadN X13.here hx rfl (hb hby d4_20) rfl rfl ?_
          show Steps p.tables e below (T13.setTop (mkF m 21 #[.val (.ref a1), .val (.ref a2), .val (.int (1 : Int32)), .unset] [(.ref a1)])) _
          refine st25 _ ?_
          exact k)
      by_cases hc24_27 : r1 = (0 : Int32)
      · obtain ⟨T28, X28, e28, st28⟩ := getS2 X25 hx hZ hown (host := "") (Or.inl (hw _ (List.mem_of_getElem? (i := 39) rfl))) Via.refl e25 S_DISPENSABLE (g := (mkF m 54 #[.val (.ref a1), .val (.ref a2), .val (.int (1 : Int32)), .val (.int (0 : Int32))] [])) rfl (hb hby d4_54)
        obtain ⟨fs, hr, hrun, hended, hW, hsame⟩ := X28.leave (v := some (.ref wD)) (fun h => by rw [Bd.returns] at h; cases h)
        refine ⟨_, _, pre26 _ ?_, hrun, hended, _, _, rfl, ?_, ⟨_, rfl⟩, hW, hsame.mono (by decide) (by decide)⟩
        · show Steps p.tables e below (T25.setTop (mkF m 24 #[.val (.ref a1), .val (.ref a2), .val (.int (1 : Int32)), .unset] [(.int r1)])) _
          refine XS.ifYes X25.here hx rfl (pc0 := 24) (pc' := 38) rfl (hb hby d4_24) rfl ((if0 _ _).trans (teq hc24_27).1) (by decide) (by decide) ?_
          show Steps p.tables e below (T25.setTop (mkF m 38 #[.val (.ref a1), .val (.ref a2), .val (.int (1 : Int32)), .unset] [])) _
          refine XS.iconst X25.here hx rfl (hb hby d4_38) ?_
          show Steps p.tables e below (T25.setTop (mkF m 39 #[.val (.ref a1), .val (.ref a2), .val (.int (1 : Int32)), .unset] [(.int (0 : Int32))])) _
          refine XS.istoreN X25.here hx rfl (hb hby d4_39) rfl (l' := #[.val (.ref a1), .val (.ref a2), .val (.int (1 : Int32)), .val (.int (0 : Int32))]) rfl ?_
          show Steps p.tables e below (T25.setTop (mkF m 40 #[.val (.ref a1), .val (.ref a2), .val (.int (1 : Int32)), .val (.int (0 : Int32))] [])) _
          refine XS.iloadN X25.here hx rfl (hb hby d4_40) rfl ?_
          show Steps p.tables e below (T25.setTop (mkF m 41 #[.val (.ref a1), .val (.ref a2), .val (.int (1 : Int32)), .val (.int (0 : Int32))] [(.int (1 : Int32))])) _
          refine XS.ifNo X25.here hx rfl (hb hby d4_41) rfl ((if0 _ _).trans (feq (by decide : ¬ ((1 : Int32) = (0 : Int32)))).1) ?_
          show Steps p.tables e below (T25.setTop (mkF m 44 #[.val (.ref a1), .val (.ref a2), .val (.int (1 : Int32)), .val (.int (0 : Int32))] [])) _
          refine XS.iloadN X25.here hx rfl (hb hby d4_44) rfl ?_
          show Steps p.tables e below (T25.setTop (mkF m 45 #[.val (.ref a1), .val (.ref a2), .val (.int (1 : Int32)), .val (.int (0 : Int32))] [(.int (0 : Int32))])) _
          refine XS.ifYes X25.here hx rfl (pc0 := 45) (pc' := 54) rfl (hb hby d4_45) rfl ((if0 _ _).trans (teq (by decide : (0 : Int32) = (0 : Int32))).1) (by decide) (by decide) ?_
          show Steps p.tables e below (T25.setTop (mkF m 54 #[.val (.ref a1), .val (.ref a2), .val (.int (1 : Int32)), .val (.int (0 : Int32))] [])) _
          refine st28 _ ?_
          show Steps p.tables e below (T28.setTop (mkF m 57 #[.val (.ref a1), .val (.ref a2), .val (.int (1 : Int32)), .val (.int (0 : Int32))] [(.ref wD)])) _
          jvm_step X28.here [X28.here.top, hx, (hb hby d4_57), X28.method', Bd.returns, Value.isRef, FieldType.isReference]
          first | (intro acts; rw [hr _ acts rfl rfl rfl]) | rw [hr _ _ rfl rfl rfl]
          exact Steps.refl _
        · show QV (.ref r) h0 n0 _ T28.heap _
          rw [e28]
          exact ⟨by rw [← hpk]; rw [own_and, if_neg hc4_3, if_neg hc11_15, if_pos hc24_27], N0, rfl⟩
      · obtain ⟨T29, X29, e29, st29⟩ := getF X25 hx hZ hown (host := "") (Or.inl (hw _ (List.mem_of_getElem? (i := 16) rfl))) Via.refl e25 Fr2 (g := (mkF m 28 #[.val (.ref a1), .val (.ref a2), .val (.int (1 : Int32)), .unset] [(.ref a2)])) rfl rfl (hb hby d4_28)
        have pre30 : ∀ t, Steps p.tables e below (T29.setTop (mkF m 31 #[.val (.ref a1), .val (.ref a2), .val (.int (1 : Int32)), .unset] [(.int r2)])) t → Steps p.tables e below (s₁.setTop (entryFrame m #[(.ref a1), (.ref a2)] 4)) t := fun t k => pre26 t (by
            show Steps p.tables e below (T25.setTop (mkF m 24 #[.val (.ref a1), .val (.ref a2), .val (.int (1 : Int32)), .unset] [(.int r1)])) _
            refine XS.ifNo X25.here hx rfl (hb hby d4_24) rfl ((if0 _ _).trans (feq hc24_27).1) ?_
            show Steps p.tables e below (T25.setTop (mkF m 27 #[.val (.ref a1), .val (.ref a2), .val (.int (1 : Int32)), .unset] [])) _
            refine XS.aloadN X25.here hx rfl (hb hby d4_27) rfl rfl ?_
            show Steps p.tables e below (T25.setTop (mkF m 28 #[.val (.ref a1), .val (.ref a2), .val (.int (1 : Int32)), .unset] [(.ref a2)])) _
            refine st29 _ ?_
            exact k)
        by_cases hc31_31 : r2 = (0 : Int32)
        · obtain ⟨T32, X32, e32, st32⟩ := getS2 X29 hx hZ hown (host := "") (Or.inl (hw _ (List.mem_of_getElem? (i := 39) rfl))) Via.refl e29 S_DISPENSABLE (g := (mkF m 54 #[.val (.ref a1), .val (.ref a2), .val (.int (1 : Int32)), .val (.int (0 : Int32))] [])) rfl (hb hby d4_54)
          obtain ⟨fs, hr, hrun, hended, hW, hsame⟩ := X32.leave (v := some (.ref wD)) (fun h => by rw [Bd.returns] at h; cases h)
          refine ⟨_, _, pre30 _ ?_, hrun, hended, _, _, rfl, ?_, ⟨_, rfl⟩, hW, hsame.mono (by decide) (by decide)⟩
          · show Steps p.tables e below (T29.setTop (mkF m 31 #[.val (.ref a1), .val (.ref a2), .val (.int (1 : Int32)), .unset] [(.int r2)])) _
            refine XS.ifYes X29.here hx rfl (pc0 := 31) (pc' := 38) rfl (hb hby d4_31) rfl ((if0 _ _).trans (teq hc31_31).1) (by decide) (by decide) ?_
            show Steps p.tables e below (T29.setTop (mkF m 38 #[.val (.ref a1), .val (.ref a2), .val (.int (1 : Int32)), .unset] [])) _
            refine XS.iconst X29.here hx rfl (hb hby d4_38) ?_
            show Steps p.tables e below (T29.setTop (mkF m 39 #[.val (.ref a1), .val (.ref a2), .val (.int (1 : Int32)), .unset] [(.int (0 : Int32))])) _
            refine XS.istoreN X29.here hx rfl (hb hby d4_39) rfl (l' := #[.val (.ref a1), .val (.ref a2), .val (.int (1 : Int32)), .val (.int (0 : Int32))]) rfl ?_
            show Steps p.tables e below (T29.setTop (mkF m 40 #[.val (.ref a1), .val (.ref a2), .val (.int (1 : Int32)), .val (.int (0 : Int32))] [])) _
            refine XS.iloadN X29.here hx rfl (hb hby d4_40) rfl ?_
            show Steps p.tables e below (T29.setTop (mkF m 41 #[.val (.ref a1), .val (.ref a2), .val (.int (1 : Int32)), .val (.int (0 : Int32))] [(.int (1 : Int32))])) _
            refine XS.ifNo X29.here hx rfl (hb hby d4_41) rfl ((if0 _ _).trans (feq (by decide : ¬ ((1 : Int32) = (0 : Int32)))).1) ?_
            show Steps p.tables e below (T29.setTop (mkF m 44 #[.val (.ref a1), .val (.ref a2), .val (.int (1 : Int32)), .val (.int (0 : Int32))] [])) _
            refine XS.iloadN X29.here hx rfl (hb hby d4_44) rfl ?_
            show Steps p.tables e below (T29.setTop (mkF m 45 #[.val (.ref a1), .val (.ref a2), .val (.int (1 : Int32)), .val (.int (0 : Int32))] [(.int (0 : Int32))])) _
            refine XS.ifYes X29.here hx rfl (pc0 := 45) (pc' := 54) rfl (hb hby d4_45) rfl ((if0 _ _).trans (teq (by decide : (0 : Int32) = (0 : Int32))).1) (by decide) (by decide) ?_
            show Steps p.tables e below (T29.setTop (mkF m 54 #[.val (.ref a1), .val (.ref a2), .val (.int (1 : Int32)), .val (.int (0 : Int32))] [])) _
            refine st32 _ ?_
            show Steps p.tables e below (T32.setTop (mkF m 57 #[.val (.ref a1), .val (.ref a2), .val (.int (1 : Int32)), .val (.int (0 : Int32))] [(.ref wD)])) _
            jvm_step X32.here [X32.here.top, hx, (hb hby d4_57), X32.method', Bd.returns, Value.isRef, FieldType.isReference]
            first | (intro acts; rw [hr _ acts rfl rfl rfl]) | rw [hr _ _ rfl rfl rfl]
            exact Steps.refl _
          · show QV (.ref r) h0 n0 _ T32.heap _
            rw [e32]
            exact ⟨by rw [← hpk]; rw [own_and, if_neg hc4_3, if_neg hc11_15, if_neg hc24_27, if_pos hc31_31], N0, rfl⟩
        · obtain ⟨T33, X33, e33, st33⟩ := getS2 X29 hx hZ hown (host := "") (Or.inl (hw _ (List.mem_of_getElem? (i := 37) rfl))) Via.refl e29 S_ALL (g := (mkF m 48 #[.val (.ref a1), .val (.ref a2), .val (.int (1 : Int32)), .val (.int (1 : Int32))] [])) rfl (hb hby d4_48)
          obtain ⟨fs, hr, hrun, hended, hW, hsame⟩ := X33.leave (v := some (.ref wA)) (fun h => by rw [Bd.returns] at h; cases h)
          refine ⟨_, _, pre30 _ ?_, hrun, hended, _, _, rfl, ?_, ⟨_, rfl⟩, hW, hsame.mono (by decide) (by decide)⟩
          · show Steps p.tables e below (T29.setTop (mkF m 31 #[.val (.ref a1), .val (.ref a2), .val (.int (1 : Int32)), .unset] [(.int r2)])) _
            refine XS.ifNo X29.here hx rfl (hb hby d4_31) rfl ((if0 _ _).trans (feq hc31_31).1) ?_
            show Steps p.tables e below (T29.setTop (mkF m 34 #[.val (.ref a1), .val (.ref a2), .val (.int (1 : Int32)), .unset] [])) _
            refine XS.iconst X29.here hx rfl (hb hby d4_34) ?_
            show Steps p.tables e below (T29.setTop (mkF m 35 #[.val (.ref a1), .val (.ref a2), .val (.int (1 : Int32)), .unset] [(.int (1 : Int32))])) _
            refine XS.goto X29.here hx rfl (pc0 := 35) (pc' := 39) rfl (hb hby d4_35) (by decide) (by decide) ?_
            show Steps p.tables e below (T29.setTop (mkF m 39 #[.val (.ref a1), .val (.ref a2), .val (.int (1 : Int32)), .unset] [(.int (1 : Int32))])) _
            refine XS.istoreN X29.here hx rfl (hb hby d4_39) rfl (l' := #[.val (.ref a1), .val (.ref a2), .val (.int (1 : Int32)), .val (.int (1 : Int32))]) rfl ?_
            show Steps p.tables e below (T29.setTop (mkF m 40 #[.val (.ref a1), .val (.ref a2), .val (.int (1 : Int32)), .val (.int (1 : Int32))] [])) _
            refine XS.iloadN X29.here hx rfl (hb hby d4_40) rfl ?_
            show Steps p.tables e below (T29.setTop (mkF m 41 #[.val (.ref a1), .val (.ref a2), .val (.int (1 : Int32)), .val (.int (1 : Int32))] [(.int (1 : Int32))])) _
            refine XS.ifNo X29.here hx rfl (hb hby d4_41) rfl ((if0 _ _).trans (feq (by decide : ¬ ((1 : Int32) = (0 : Int32)))).1) ?_
            show Steps p.tables e below (T29.setTop (mkF m 44 #[.val (.ref a1), .val (.ref a2), .val (.int (1 : Int32)), .val (.int (1 : Int32))] [])) _
            refine XS.iloadN X29.here hx rfl (hb hby d4_44) rfl ?_
            show Steps p.tables e below (T29.setTop (mkF m 45 #[.val (.ref a1), .val (.ref a2), .val (.int (1 : Int32)), .val (.int (1 : Int32))] [(.int (1 : Int32))])) _
            refine XS.ifNo X29.here hx rfl (hb hby d4_45) rfl ((if0 _ _).trans (feq (by decide : ¬ ((1 : Int32) = (0 : Int32)))).1) ?_
            show Steps p.tables e below (T29.setTop (mkF m 48 #[.val (.ref a1), .val (.ref a2), .val (.int (1 : Int32)), .val (.int (1 : Int32))] [])) _
            refine st33 _ ?_
            show Steps p.tables e below (T33.setTop (mkF m 51 #[.val (.ref a1), .val (.ref a2), .val (.int (1 : Int32)), .val (.int (1 : Int32))] [(.ref wA)])) _
            refine XS.goto X33.here hx rfl (pc0 := 51) (pc' := 57) rfl (hb hby d4_51) (by decide) (by decide) ?_
            show Steps p.tables e below (T33.setTop (mkF m 57 #[.val (.ref a1), .val (.ref a2), .val (.int (1 : Int32)), .val (.int (1 : Int32))] [(.ref wA)])) _
            jvm_step X33.here [X33.here.top, hx, (hb hby d4_57), X33.method', Bd.returns, Value.isRef, FieldType.isReference]
            first | (intro acts; rw [hr _ acts rfl rfl rfl]) | rw [hr _ _ rfl rfl rfl]
            exact Steps.refl _
          · show QV (.ref r) h0 n0 _ T33.heap _
            rw [e33]
            exact ⟨by rw [← hpk]; rw [own_and, if_neg hc4_3, if_neg hc11_15, if_neg hc24_27, if_neg hc31_31], N0, rfl⟩
theorem d5_0 : decode prog_156_method_6_code 0 = .ok (.aload_n 0, 1) := by decide +kernel
theorem d5_1 : decode prog_156_method_6_code 1 = .ok (.getfield 7, 3) := by decide +kernel
theorem d5_4 : decode prog_156_method_6_code 4 = .ok (.ireturn, 1) := by decide +kernel
theorem ef_5 (m : MethodId) (x0 : Addr) : entryFrame m #[(.ref x0)] 1 = mkF m 0 #[.val (.ref x0)] [] := by first | (simp [entryFrame, mkF, argsToLocals, Value.category]; done) | rfl
set_option maxRecDepth 65536 in
set_option maxHeartbeats 40000000 in
theorem rm5 (l : Launch) (Z : State) (a0 : Array Value) (hw : ∀ d ∈ tables_1, d.before a0 Z = true) (ws : List Jvm.Cond) (a1 : Addr) (x : Int32) (h0 : Heap) (n0 : Nat) (Z0 : n0 ≤ h0.size) (Fx : Fld Z h0 a1 "com/example/viewkeeper/viewkeeper/workspace/Preferences" "dispensable" "Z" (.int x)) (hnx : nar .boolean x = x) :
    MetFree l (⟨"com/example/viewkeeper/viewkeeper/workspace/Preferences", "dispensable", "()Z"⟩ : MethodName) (head1 (Jvm.Cond.code (⟨"com/example/viewkeeper/viewkeeper/workspace/Preferences", "dispensable", "()Z"⟩ : MethodName) prog_156_method_6_code 1 (some .boolean) :: ws) ({ frames := 0, cells := 0, slots := 0, locals := 0 } : Room)) (fun a U => a = #[(.ref a1)] ∧ Z.Warmed39 U.vm ∧ U.heap = h0) (fun _ _ _ _ _ => True) (fun _ U o U' => ∃ v L, o = .returned v ∧ (QV (.int x) h0 n0 v U'.heap L) ∧ FrameEnd U o U' L ({ frames := 0, cells := 0, slots := 0, locals := 0 } : Room).cells ({ frames := 0, cells := 0, slots := 0, locals := 0 } : Room).slots) := by
  refine MetFree.of_bodySF (plainFor_of_name pn_1) hisR ?_
  intro p e s m args below meth c s₁ Bd hml0 hP hK
  obtain ⟨rfl, hZ, hh⟩ := hP
  have hx := Bd.exec
  have hby := Bd.bytes
  have hml : c.maxLocals = 1 := hml0
  have hown : s.vm.findClass "com/example/viewkeeper/viewkeeper/workspace/Preferences" = some m.cls := findClass_of_methodNamed Bd.named
  have hnm := (name_of_methodNamed Bd.named Bd.method).1
  have X0 : Stand p l e ({ frames := 0, cells := 0, slots := 0, locals := 0 } : Room) s m #[(.ref a1)] below meth c s₁ [] 0 0 := Stand.of_body Bd
  have e0 : s₁.heap = h0 := by rw [← hh, Bd.state]; rfl
  have N0 := Fr.nil n0
  have pre0 : ∀ t, Steps p.tables e below (s₁.setTop (mkF m 0 #[.val (.ref a1)] [])) t → Steps p.tables e below (s₁.setTop (entryFrame m #[(.ref a1)] 1)) t := fun t k => castTop (ef_5 m a1) k
  obtain ⟨T1, X1, e1, st1⟩ := getF X0 hx hZ hown (host := "") (Or.inl (hw _ (List.mem_of_getElem? (i := 14) rfl))) Via.refl e0 Fx (g := (mkF m 1 #[.val (.ref a1)] [(.ref a1)])) rfl rfl (hb hby d5_1)
  obtain ⟨fs, hr, hrun, hended, hW, hsame⟩ := X1.leave (v := some (.int x)) (fun h => by rw [Bd.returns] at h; cases h)
  refine ⟨_, _, pre0 _ ?_, hrun, hended, _, _, rfl, ?_, ⟨_, rfl⟩, hW, hsame.mono (by decide) (by decide)⟩
  · show Steps p.tables e below (s₁.setTop (mkF m 0 #[.val (.ref a1)] [])) _
    refine XS.aloadN X0.here hx rfl (hb hby d5_0) rfl rfl ?_
    show Steps p.tables e below (s₁.setTop (mkF m 1 #[.val (.ref a1)] [(.ref a1)])) _
    refine st1 _ ?_
    show Steps p.tables e below (T1.setTop (mkF m 4 #[.val (.ref a1)] [(.int x)])) _
    exact retN X1 hx (t := .boolean) Bd.returns (by simp) (hb hby d5_4) (by rw [hnx]; exact hr)
  · show QV (.int x) h0 n0 _ T1.heap _
    rw [e1]
    exact ⟨rfl, N0, rfl⟩
theorem d6_0 : decode prog_156_method_7_code 0 = .ok (.aload_n 0, 1) := by decide +kernel
theorem d6_1 : decode prog_156_method_7_code 1 = .ok (.getfield 13, 3) := by decide +kernel
theorem d6_4 : decode prog_156_method_7_code 4 = .ok (.ireturn, 1) := by decide +kernel
theorem ef_6 (m : MethodId) (x0 : Addr) : entryFrame m #[(.ref x0)] 1 = mkF m 0 #[.val (.ref x0)] [] := by first | (simp [entryFrame, mkF, argsToLocals, Value.category]; done) | rfl
set_option maxRecDepth 65536 in
set_option maxHeartbeats 40000000 in
theorem rm6 (l : Launch) (Z : State) (a0 : Array Value) (hw : ∀ d ∈ tables_1, d.before a0 Z = true) (ws : List Jvm.Cond) (a1 : Addr) (x : Int32) (h0 : Heap) (n0 : Nat) (Z0 : n0 ≤ h0.size) (Fx : Fld Z h0 a1 "com/example/viewkeeper/viewkeeper/workspace/Preferences" "replaceable" "Z" (.int x)) (hnx : nar .boolean x = x) :
    MetFree l (⟨"com/example/viewkeeper/viewkeeper/workspace/Preferences", "replaceable", "()Z"⟩ : MethodName) (head1 (Jvm.Cond.code (⟨"com/example/viewkeeper/viewkeeper/workspace/Preferences", "replaceable", "()Z"⟩ : MethodName) prog_156_method_7_code 1 (some .boolean) :: ws) ({ frames := 0, cells := 0, slots := 0, locals := 0 } : Room)) (fun a U => a = #[(.ref a1)] ∧ Z.Warmed39 U.vm ∧ U.heap = h0) (fun _ _ _ _ _ => True) (fun _ U o U' => ∃ v L, o = .returned v ∧ (QV (.int x) h0 n0 v U'.heap L) ∧ FrameEnd U o U' L ({ frames := 0, cells := 0, slots := 0, locals := 0 } : Room).cells ({ frames := 0, cells := 0, slots := 0, locals := 0 } : Room).slots) := by
  refine MetFree.of_bodySF (plainFor_of_name pn_1) hisR ?_
  intro p e s m args below meth c s₁ Bd hml0 hP hK
  obtain ⟨rfl, hZ, hh⟩ := hP
  have hx := Bd.exec
  have hby := Bd.bytes
  have hml : c.maxLocals = 1 := hml0
  have hown : s.vm.findClass "com/example/viewkeeper/viewkeeper/workspace/Preferences" = some m.cls := findClass_of_methodNamed Bd.named
  have hnm := (name_of_methodNamed Bd.named Bd.method).1
  have X0 : Stand p l e ({ frames := 0, cells := 0, slots := 0, locals := 0 } : Room) s m #[(.ref a1)] below meth c s₁ [] 0 0 := Stand.of_body Bd
  have e0 : s₁.heap = h0 := by rw [← hh, Bd.state]; rfl
  have N0 := Fr.nil n0
  have pre0 : ∀ t, Steps p.tables e below (s₁.setTop (mkF m 0 #[.val (.ref a1)] [])) t → Steps p.tables e below (s₁.setTop (entryFrame m #[(.ref a1)] 1)) t := fun t k => castTop (ef_6 m a1) k
  obtain ⟨T1, X1, e1, st1⟩ := getF X0 hx hZ hown (host := "") (Or.inl (hw _ (List.mem_of_getElem? (i := 16) rfl))) Via.refl e0 Fx (g := (mkF m 1 #[.val (.ref a1)] [(.ref a1)])) rfl rfl (hb hby d6_1)
  obtain ⟨fs, hr, hrun, hended, hW, hsame⟩ := X1.leave (v := some (.int x)) (fun h => by rw [Bd.returns] at h; cases h)
  refine ⟨_, _, pre0 _ ?_, hrun, hended, _, _, rfl, ?_, ⟨_, rfl⟩, hW, hsame.mono (by decide) (by decide)⟩
  · show Steps p.tables e below (s₁.setTop (mkF m 0 #[.val (.ref a1)] [])) _
    refine XS.aloadN X0.here hx rfl (hb hby d6_0) rfl rfl ?_
    show Steps p.tables e below (s₁.setTop (mkF m 1 #[.val (.ref a1)] [(.ref a1)])) _
    refine st1 _ ?_
    show Steps p.tables e below (T1.setTop (mkF m 4 #[.val (.ref a1)] [(.int x)])) _
    exact retN X1 hx (t := .boolean) Bd.returns (by simp) (hb hby d6_4) (by rw [hnx]; exact hr)
  · show QV (.int x) h0 n0 _ T1.heap _
    rw [e1]
    exact ⟨rfl, N0, rfl⟩
theorem own_w_bit (a c : Int32) : own_w a c = 0 ∨ own_w a c = 1 := by
  unfold own_w; by_cases h : a = 0
  · rw [if_pos h]; exact Or.inl rfl
  · rw [if_neg h]; by_cases q : c = 0
    · rw [if_pos q]; exact Or.inl rfl
    · rw [if_neg q]; exact Or.inr rfl
theorem pn_2 : plainName "com/example/viewkeeper/viewkeeper/workspace/PreferencesAndPinLaw" = true := by first | (simp [plainName, overriddenIn]; done) | decide +kernel
theorem ef_0 (m : MethodId) (x0 : Int32) : entryFrame m #[(.int x0)] maxLocals = mkF m 0 #[.val (.int x0), .unset, .unset, .unset, .unset, .unset, .unset, .unset, .unset, .unset] [] := by first | (simp [entryFrame, mkF, argsToLocals, Value.category, maxLocals]; done) | rfl
def Q_rm0 (Z : State) (p1 : Int32) (wA wD wR wN : Addr) (h0 : Heap) (n0 : Nat) (v : Option Value) (h : Heap) (L : List Loc) : Prop := v = some (Value.int 1) ∧ Fr n0 L
theorem pd_1 : parseMethodDescriptor "(ZZ)V" = some ⟨[.boolean, .boolean], none⟩ := by decide +kernel
theorem pd_2 : parseMethodDescriptor "(Lcom/example/viewkeeper/viewkeeper/workspace/Preferences;)Lcom/example/viewkeeper/viewkeeper/workspace/Preferences;" = some ⟨[(.object "com/example/viewkeeper/viewkeeper/workspace/Preferences")], some (.object "com/example/viewkeeper/viewkeeper/workspace/Preferences")⟩ := by decide +kernel
theorem pd_3 : parseMethodDescriptor "()Z" = some ⟨[], some .boolean⟩ := by decide +kernel
set_option maxRecDepth 65536 in
set_option maxHeartbeats 40000000 in
theorem rm0 (l : Launch) (Z : State) (a0 : Array Value) (hw : ∀ d ∈ tables_1, d.before a0 Z = true) (ws : List Jvm.Cond) (p1 : Int32) (wA wD wR wN : Addr) (h0 : Heap) (n0 : Nat) (Z0 : n0 ≤ h0.size) (O0 : Old Z n0 h0) (S_ALL : Sta Z Z.heap "com/example/viewkeeper/viewkeeper/workspace/Preferences" "ALL" "Lcom/example/viewkeeper/viewkeeper/workspace/Preferences;" (.ref wA)) (S_DISPENSABLE : Sta Z Z.heap "com/example/viewkeeper/viewkeeper/workspace/Preferences" "DISPENSABLE" "Lcom/example/viewkeeper/viewkeeper/workspace/Preferences;" (.ref wD)) (S_REPLACEABLE : Sta Z Z.heap "com/example/viewkeeper/viewkeeper/workspace/Preferences" "REPLACEABLE" "Lcom/example/viewkeeper/viewkeeper/workspace/Preferences;" (.ref wR)) (S_NONE : Sta Z Z.heap "com/example/viewkeeper/viewkeeper/workspace/Preferences" "NONE" "Lcom/example/viewkeeper/viewkeeper/workspace/Preferences;" (.ref wN)) (QA : (Exa Z Z.heap wA "com/example/viewkeeper/viewkeeper/workspace/Preferences" ∧ Fld Z Z.heap wA "com/example/viewkeeper/viewkeeper/workspace/Preferences" "dispensable" "Z" (.int 1) ∧ Fld Z Z.heap wA "com/example/viewkeeper/viewkeeper/workspace/Preferences" "replaceable" "Z" (.int 1))) (QD : (Exa Z Z.heap wD "com/example/viewkeeper/viewkeeper/workspace/Preferences" ∧ Fld Z Z.heap wD "com/example/viewkeeper/viewkeeper/workspace/Preferences" "dispensable" "Z" (.int 1) ∧ Fld Z Z.heap wD "com/example/viewkeeper/viewkeeper/workspace/Preferences" "replaceable" "Z" (.int 0))) (QR : (Exa Z Z.heap wR "com/example/viewkeeper/viewkeeper/workspace/Preferences" ∧ Fld Z Z.heap wR "com/example/viewkeeper/viewkeeper/workspace/Preferences" "dispensable" "Z" (.int 0) ∧ Fld Z Z.heap wR "com/example/viewkeeper/viewkeeper/workspace/Preferences" "replaceable" "Z" (.int 1))) (QN : (Exa Z Z.heap wN "com/example/viewkeeper/viewkeeper/workspace/Preferences" ∧ Fld Z Z.heap wN "com/example/viewkeeper/viewkeeper/workspace/Preferences" "dispensable" "Z" (.int 0) ∧ Fld Z Z.heap wN "com/example/viewkeeper/viewkeeper/workspace/Preferences" "replaceable" "Z" (.int 0))) :
    MetFree l x (head1 (Jvm.Cond.code x code maxLocals ret :: ws) room_1) (fun a U => a = #[(.int p1)] ∧ Z.Warmed39 U.vm ∧ U.heap = h0) (fun _ _ _ _ _ => True) (fun _ U o U' => ∃ v L, o = .returned v ∧ (Q_rm0 Z p1 wA wD wR wN h0 n0 v U'.heap L) ∧ FrameEnd U o U' L 2 4) := by
  refine MetFree.of_bodySF (plainFor_of_name pn_2) hisR ?_
  intro p e s m args below meth c s₁ Bd hml0 hP hK
  obtain ⟨rfl, hZ, hh⟩ := hP
  have hx := Bd.exec
  have hby := Bd.bytes
  have hml : c.maxLocals = 10 := hml0
  have hown : s.vm.findClass "com/example/viewkeeper/viewkeeper/workspace/PreferencesAndPinLaw" = some m.cls := findClass_of_methodNamed Bd.named
  have hnm := (name_of_methodNamed Bd.named Bd.method).1
  have X0 : Stand p l e room_1 s m #[(.int p1)] below meth c s₁ [] 0 0 := Stand.of_body Bd
  have e0 : s₁.heap = h0 := by rw [← hh, Bd.state]; rfl
  have N0 := Fr.nil n0
  have pre0 : ∀ t, Steps p.tables e below (s₁.setTop (mkF m 0 #[.val (.int p1), .unset, .unset, .unset, .unset, .unset, .unset, .unset, .unset, .unset] [])) t → Steps p.tables e below (s₁.setTop (entryFrame m #[(.int p1)] maxLocals)) t := fun t k => castTop (ef_0 m p1) k
  have j1 : ∀ t, Steps p.tables e below (s₁.setTop (mkF m 11 #[.val (.int p1), .unset, .unset, .unset, .unset, .unset, .unset, .unset, .unset, .unset] [(.int (if (p1 &&& (1 : Int32)) = (0 : Int32) then (0 : Int32) else (1 : Int32)))])) t → Steps p.tables e below (s₁.setTop (mkF m 3 #[.val (.int p1), .unset, .unset, .unset, .unset, .unset, .unset, .unset, .unset, .unset] [(.int (p1 &&& (1 : Int32)))])) t := by
    intro t k
    by_cases hj : (p1 &&& (1 : Int32)) = (0 : Int32)
    · simp only [if_pos hj] at k
      show Steps p.tables e below (s₁.setTop (mkF m 3 #[.val (.int p1), .unset, .unset, .unset, .unset, .unset, .unset, .unset, .unset, .unset] [(.int (p1 &&& (1 : Int32)))])) _
      refine XS.ifYes X0.here hx rfl (pc0 := 3) (pc' := 10) rfl (hb hby at_3) rfl ((if0 _ _).trans (teq hj).1) (by decide) (by decide) ?_
      show Steps p.tables e below (s₁.setTop (mkF m 10 #[.val (.int p1), .unset, .unset, .unset, .unset, .unset, .unset, .unset, .unset, .unset] [])) _
      refine XS.iconst X0.here hx rfl (hb hby at_10) ?_
      exact k
    · simp only [if_neg hj] at k
      show Steps p.tables e below (s₁.setTop (mkF m 3 #[.val (.int p1), .unset, .unset, .unset, .unset, .unset, .unset, .unset, .unset, .unset] [(.int (p1 &&& (1 : Int32)))])) _
      refine XS.ifNo X0.here hx rfl (hb hby at_3) rfl ((if0 _ _).trans (feq hj).1) ?_
      show Steps p.tables e below (s₁.setTop (mkF m 6 #[.val (.int p1), .unset, .unset, .unset, .unset, .unset, .unset, .unset, .unset, .unset] [])) _
      refine XS.iconst X0.here hx rfl (hb hby at_6) ?_
      show Steps p.tables e below (s₁.setTop (mkF m 7 #[.val (.int p1), .unset, .unset, .unset, .unset, .unset, .unset, .unset, .unset, .unset] [(.int (1 : Int32))])) _
      refine XS.goto X0.here hx rfl (pc0 := 7) (pc' := 11) rfl (hb hby at_7) (by decide) (by decide) ?_
      exact k
  obtain ⟨f1, hv_f1⟩ : ∃ z : Int32, z = (if (p1 &&& (1 : Int32)) = (0 : Int32) then (0 : Int32) else (1 : Int32)) := ⟨_, rfl⟩
  rw [← hv_f1] at j1
  have j2 : ∀ t, Steps p.tables e below (s₁.setTop (mkF m 23 #[.val (.int p1), .val (.int f1), .unset, .unset, .unset, .unset, .unset, .unset, .unset, .unset] [(.int (if (p1 &&& (2 : Int32)) = (0 : Int32) then (0 : Int32) else (1 : Int32)))])) t → Steps p.tables e below (s₁.setTop (mkF m 15 #[.val (.int p1), .val (.int f1), .unset, .unset, .unset, .unset, .unset, .unset, .unset, .unset] [(.int (p1 &&& (2 : Int32)))])) t := by
    intro t k
    by_cases hj : (p1 &&& (2 : Int32)) = (0 : Int32)
    · simp only [if_pos hj] at k
      show Steps p.tables e below (s₁.setTop (mkF m 15 #[.val (.int p1), .val (.int f1), .unset, .unset, .unset, .unset, .unset, .unset, .unset, .unset] [(.int (p1 &&& (2 : Int32)))])) _
      refine XS.ifYes X0.here hx rfl (pc0 := 15) (pc' := 22) rfl (hb hby at_15) rfl ((if0 _ _).trans (teq hj).1) (by decide) (by decide) ?_
      show Steps p.tables e below (s₁.setTop (mkF m 22 #[.val (.int p1), .val (.int f1), .unset, .unset, .unset, .unset, .unset, .unset, .unset, .unset] [])) _
      refine XS.iconst X0.here hx rfl (hb hby at_22) ?_
      exact k
    · simp only [if_neg hj] at k
      show Steps p.tables e below (s₁.setTop (mkF m 15 #[.val (.int p1), .val (.int f1), .unset, .unset, .unset, .unset, .unset, .unset, .unset, .unset] [(.int (p1 &&& (2 : Int32)))])) _
      refine XS.ifNo X0.here hx rfl (hb hby at_15) rfl ((if0 _ _).trans (feq hj).1) ?_
      show Steps p.tables e below (s₁.setTop (mkF m 18 #[.val (.int p1), .val (.int f1), .unset, .unset, .unset, .unset, .unset, .unset, .unset, .unset] [])) _
      refine XS.iconst X0.here hx rfl (hb hby at_18) ?_
      show Steps p.tables e below (s₁.setTop (mkF m 19 #[.val (.int p1), .val (.int f1), .unset, .unset, .unset, .unset, .unset, .unset, .unset, .unset] [(.int (1 : Int32))])) _
      refine XS.goto X0.here hx rfl (pc0 := 19) (pc' := 23) rfl (hb hby at_19) (by decide) (by decide) ?_
      exact k
  obtain ⟨f2, hv_f2⟩ : ∃ z : Int32, z = (if (p1 &&& (2 : Int32)) = (0 : Int32) then (0 : Int32) else (1 : Int32)) := ⟨_, rfl⟩
  rw [← hv_f2] at j2
  have j3 : ∀ t, Steps p.tables e below (s₁.setTop (mkF m 35 #[.val (.int p1), .val (.int f1), .val (.int f2), .unset, .unset, .unset, .unset, .unset, .unset, .unset] [(.int (if (p1 &&& (4 : Int32)) = (0 : Int32) then (0 : Int32) else (1 : Int32)))])) t → Steps p.tables e below (s₁.setTop (mkF m 27 #[.val (.int p1), .val (.int f1), .val (.int f2), .unset, .unset, .unset, .unset, .unset, .unset, .unset] [(.int (p1 &&& (4 : Int32)))])) t := by
    intro t k
    by_cases hj : (p1 &&& (4 : Int32)) = (0 : Int32)
    · simp only [if_pos hj] at k
      show Steps p.tables e below (s₁.setTop (mkF m 27 #[.val (.int p1), .val (.int f1), .val (.int f2), .unset, .unset, .unset, .unset, .unset, .unset, .unset] [(.int (p1 &&& (4 : Int32)))])) _
      refine XS.ifYes X0.here hx rfl (pc0 := 27) (pc' := 34) rfl (hb hby at_27) rfl ((if0 _ _).trans (teq hj).1) (by decide) (by decide) ?_
      show Steps p.tables e below (s₁.setTop (mkF m 34 #[.val (.int p1), .val (.int f1), .val (.int f2), .unset, .unset, .unset, .unset, .unset, .unset, .unset] [])) _
      refine XS.iconst X0.here hx rfl (hb hby at_34) ?_
      exact k
    · simp only [if_neg hj] at k
      show Steps p.tables e below (s₁.setTop (mkF m 27 #[.val (.int p1), .val (.int f1), .val (.int f2), .unset, .unset, .unset, .unset, .unset, .unset, .unset] [(.int (p1 &&& (4 : Int32)))])) _
      refine XS.ifNo X0.here hx rfl (hb hby at_27) rfl ((if0 _ _).trans (feq hj).1) ?_
      show Steps p.tables e below (s₁.setTop (mkF m 30 #[.val (.int p1), .val (.int f1), .val (.int f2), .unset, .unset, .unset, .unset, .unset, .unset, .unset] [])) _
      refine XS.iconst X0.here hx rfl (hb hby at_30) ?_
      show Steps p.tables e below (s₁.setTop (mkF m 31 #[.val (.int p1), .val (.int f1), .val (.int f2), .unset, .unset, .unset, .unset, .unset, .unset, .unset] [(.int (1 : Int32))])) _
      refine XS.goto X0.here hx rfl (pc0 := 31) (pc' := 35) rfl (hb hby at_31) (by decide) (by decide) ?_
      exact k
  obtain ⟨f3, hv_f3⟩ : ∃ z : Int32, z = (if (p1 &&& (4 : Int32)) = (0 : Int32) then (0 : Int32) else (1 : Int32)) := ⟨_, rfl⟩
  rw [← hv_f3] at j3
  have j4 : ∀ t, Steps p.tables e below (s₁.setTop (mkF m 48 #[.val (.int p1), .val (.int f1), .val (.int f2), .val (.int f3), .unset, .unset, .unset, .unset, .unset, .unset] [(.int (if (p1 &&& (8 : Int32)) = (0 : Int32) then (0 : Int32) else (1 : Int32)))])) t → Steps p.tables e below (s₁.setTop (mkF m 40 #[.val (.int p1), .val (.int f1), .val (.int f2), .val (.int f3), .unset, .unset, .unset, .unset, .unset, .unset] [(.int (p1 &&& (8 : Int32)))])) t := by
    intro t k
    by_cases hj : (p1 &&& (8 : Int32)) = (0 : Int32)
    · simp only [if_pos hj] at k
      show Steps p.tables e below (s₁.setTop (mkF m 40 #[.val (.int p1), .val (.int f1), .val (.int f2), .val (.int f3), .unset, .unset, .unset, .unset, .unset, .unset] [(.int (p1 &&& (8 : Int32)))])) _
      refine XS.ifYes X0.here hx rfl (pc0 := 40) (pc' := 47) rfl (hb hby at_40) rfl ((if0 _ _).trans (teq hj).1) (by decide) (by decide) ?_
      show Steps p.tables e below (s₁.setTop (mkF m 47 #[.val (.int p1), .val (.int f1), .val (.int f2), .val (.int f3), .unset, .unset, .unset, .unset, .unset, .unset] [])) _
      refine XS.iconst X0.here hx rfl (hb hby at_47) ?_
      exact k
    · simp only [if_neg hj] at k
      show Steps p.tables e below (s₁.setTop (mkF m 40 #[.val (.int p1), .val (.int f1), .val (.int f2), .val (.int f3), .unset, .unset, .unset, .unset, .unset, .unset] [(.int (p1 &&& (8 : Int32)))])) _
      refine XS.ifNo X0.here hx rfl (hb hby at_40) rfl ((if0 _ _).trans (feq hj).1) ?_
      show Steps p.tables e below (s₁.setTop (mkF m 43 #[.val (.int p1), .val (.int f1), .val (.int f2), .val (.int f3), .unset, .unset, .unset, .unset, .unset, .unset] [])) _
      refine XS.iconst X0.here hx rfl (hb hby at_43) ?_
      show Steps p.tables e below (s₁.setTop (mkF m 44 #[.val (.int p1), .val (.int f1), .val (.int f2), .val (.int f3), .unset, .unset, .unset, .unset, .unset, .unset] [(.int (1 : Int32))])) _
      refine XS.goto X0.here hx rfl (pc0 := 44) (pc' := 48) rfl (hb hby at_44) (by decide) (by decide) ?_
      exact k
  obtain ⟨f4, hv_f4⟩ : ∃ z : Int32, z = (if (p1 &&& (8 : Int32)) = (0 : Int32) then (0 : Int32) else (1 : Int32)) := ⟨_, rfl⟩
  rw [← hv_f4] at j4
  obtain ⟨T5, h5, X5, e5, E5, A5, D5, -, st5⟩ := newO X0 hx hZ hown (hw _ (List.mem_of_getElem? (i := 0) rfl)) (hw _ (List.mem_of_getElem? (i := 1) rfl)) (hw _ (List.mem_of_getElem? (i := 2) rfl)) e0 (g := (mkF m 50 #[.val (.int p1), .val (.int f1), .val (.int f2), .val (.int f3), .val (.int f4), .unset, .unset, .unset, .unset, .unset] [])) rfl (hb hby at_50) (by decide) (by decide)
  obtain ⟨b5, g5⟩ : ∃ z, z = (h0).size := ⟨_, rfl⟩
  rw [← g5] at A5 D5 st5
  have ga_b5 : n0 ≤ b5 := Nat.le_trans Z0 (Nat.le_of_eq g5.symm)
  have sz_b5 : h0.size ≤ b5 := Nat.le_trans (Keep.refl h0 []).1 (Nat.le_of_eq g5.symm)
  have O5 := O0.ext E5
  have K5_ : Keep h0 h5 [] := (Keep.refl h0 []).ext E5
  have z5_ : n0 ≤ (h5).size := Nat.le_trans Z0 E5.1
  have F5_dispensable_b5 : Fld Z h5 b5 "com/example/viewkeeper/viewkeeper/workspace/Preferences" "dispensable" "Z" (.int (0 : Int32)) := D5 (Or.inr (hw _ (List.mem_of_getElem? (i := 15) rfl))) (ty := .boolean) (by decide)
  have F5_replaceable_b5 : Fld Z h5 b5 "com/example/viewkeeper/viewkeeper/workspace/Preferences" "replaceable" "Z" (.int (0 : Int32)) := D5 (Or.inr (hw _ (List.mem_of_getElem? (i := 17) rfl))) (ty := .boolean) (by decide)
  obtain ⟨_, _, ⟨T6, L6, k6, n6⟩, -, X6, ⟨Lc6, hQ6, l6, y6, z6⟩, st6⟩ := X5.specialBack hx (y := (⟨"com/example/viewkeeper/viewkeeper/workspace/Preferences", "<init>", "(ZZ)V"⟩ : MethodName)) rfl hown (mvT hZ (hw _ (List.mem_of_getElem? (i := 3) rfl))) (mvT hZ (hw _ (List.mem_of_getElem? (i := 4) rfl))) (mvT hZ (hw _ (List.mem_of_getElem? (i := 5) rfl))) (by decide) (backOf (W := 1) (rm1 l Z a0 hw [] b5 f1 f2 _ _ h5 n0 z5_ A5 F5_dispensable_b5 F5_replaceable_b5 ga_b5 (own_bit hv_f1) (own_bit hv_f2)) hZ (hw _ (List.mem_of_getElem? (i := 5) rfl)) (hw _ (List.mem_of_getElem? (i := 2) rfl)) (by decide) (by decide)) (g := (mkF m 56 #[.val (.int p1), .val (.int f1), .val (.int f2), .val (.int f3), .val (.int f4), .unset, .unset, .unset, .unset, .unset] [(.int f2), (.int f1), (.ref b5), (.ref b5)])) rfl (by rw [hml]; rfl) (Steps.refl _) (a := b5) (argsL := [(.int f1), (.int f2)]) (rest := [(.ref b5)]) (lenOf pd_1 rfl) rfl (by show 2 * 0 + _ ≤ _; exact Nat.le_of_eq rfl) (hb hby at_56) (fun _ _ => ⟨rfl, e5, (by decide : 1 + 0 ≤ _), (by decide : 2 + 0 ≤ _)⟩)
  dsimp only [Pt.U, Pt.locs, Pt.cells, Pt.slots] at X6 l6 y6 z6 st6 hQ6
  subst l6 y6 z6
  obtain ⟨rfl, N6q, K6, E6a, F6d, F6r⟩ := hQ6
  have N6 := Fr.app N0 N6q
  have O6 := O5.keep K6 (allS ga_b5 all0)
  have K6_ : Keep h0 T6.heap [] := K5_.trans K6 (allS (Or.inr sz_b5) all0)
  have z6_ : n0 ≤ (T6.heap).size := Nat.le_trans z5_ K6.1
  have E6_b5 := A5.keep K6
  obtain ⟨T7, h7, X7, e7, E7, A7, D7, -, st7⟩ := newO X6 hx hZ hown (hw _ (List.mem_of_getElem? (i := 0) rfl)) (hw _ (List.mem_of_getElem? (i := 1) rfl)) (hw _ (List.mem_of_getElem? (i := 2) rfl)) rfl (g := (mkF m 61 #[.val (.int p1), .val (.int f1), .val (.int f2), .val (.int f3), .val (.int f4), .val (.ref b5), .unset, .unset, .unset, .unset] [])) rfl (hb hby at_61) (by decide) (by decide)
  obtain ⟨b7, g7⟩ : ∃ z, z = (T6.heap).size := ⟨_, rfl⟩
  rw [← g7] at A7 D7 st7
  have ga_b7 : n0 ≤ b7 := Nat.le_trans z6_ (Nat.le_of_eq g7.symm)
  have sz_b7 : h0.size ≤ b7 := Nat.le_trans K6_.1 (Nat.le_of_eq g7.symm)
  have ne_b5_b7 : b5 ≠ b7 := Nat.ne_of_lt (Nat.lt_of_lt_of_le E6a.lt (Nat.le_of_eq g7.symm))
  have O7 := O6.ext E7
  have K7_ : Keep h0 h7 [] := K6_.ext E7
  have z7_ : n0 ≤ (h7).size := Nat.le_trans z6_ E7.1
  have F7_dispensable_b5 := F6d.ext E7
  have F7_replaceable_b5 := F6r.ext E7
  have E7_b5 := E6a.ext E7
  have F7_dispensable_b7 : Fld Z h7 b7 "com/example/viewkeeper/viewkeeper/workspace/Preferences" "dispensable" "Z" (.int (0 : Int32)) := D7 (Or.inr (hw _ (List.mem_of_getElem? (i := 15) rfl))) (ty := .boolean) (by decide)
  have F7_replaceable_b7 : Fld Z h7 b7 "com/example/viewkeeper/viewkeeper/workspace/Preferences" "replaceable" "Z" (.int (0 : Int32)) := D7 (Or.inr (hw _ (List.mem_of_getElem? (i := 17) rfl))) (ty := .boolean) (by decide)
  obtain ⟨_, _, ⟨T8, L8, k8, n8⟩, -, X8, ⟨Lc8, hQ8, l8, y8, z8⟩, st8⟩ := X7.specialBack hx (y := (⟨"com/example/viewkeeper/viewkeeper/workspace/Preferences", "<init>", "(ZZ)V"⟩ : MethodName)) rfl hown (mvT hZ (hw _ (List.mem_of_getElem? (i := 3) rfl))) (mvT hZ (hw _ (List.mem_of_getElem? (i := 4) rfl))) (mvT hZ (hw _ (List.mem_of_getElem? (i := 5) rfl))) (by decide) (backOf (W := 1) (rm1 l Z a0 hw [] b7 f3 f4 _ _ h7 n0 z7_ A7 F7_dispensable_b7 F7_replaceable_b7 ga_b7 (own_bit hv_f3) (own_bit hv_f4)) hZ (hw _ (List.mem_of_getElem? (i := 5) rfl)) (hw _ (List.mem_of_getElem? (i := 2) rfl)) (by decide) (by decide)) (g := (mkF m 68 #[.val (.int p1), .val (.int f1), .val (.int f2), .val (.int f3), .val (.int f4), .val (.ref b5), .unset, .unset, .unset, .unset] [(.int f4), (.int f3), (.ref b7), (.ref b7)])) rfl (by rw [hml]; rfl) (Steps.refl _) (a := b7) (argsL := [(.int f3), (.int f4)]) (rest := [(.ref b7)]) (lenOf pd_1 rfl) rfl (by show 2 * 0 + _ ≤ _; exact Nat.le_of_eq rfl) (hb hby at_68) (fun _ _ => ⟨rfl, e7, (by decide : 2 + 0 ≤ _), (by decide : 4 + 0 ≤ _)⟩)
  dsimp only [Pt.U, Pt.locs, Pt.cells, Pt.slots] at X8 l8 y8 z8 st8 hQ8
  subst l8 y8 z8
  obtain ⟨rfl, N8q, K8, E8a, F8d, F8r⟩ := hQ8
  have N8 := Fr.app N6 N8q
  have O8 := O7.keep K8 (allS ga_b7 all0)
  have K8_ : Keep h0 T8.heap [] := K7_.trans K8 (allS (Or.inr sz_b7) all0)
  have z8_ : n0 ≤ (T8.heap).size := Nat.le_trans z7_ K8.1
  have F8_dispensable_b5 := F7_dispensable_b5.keep K8 (ninS ne_b5_b7 nin0)
  have F8_replaceable_b5 := F7_replaceable_b5.keep K8 (ninS ne_b5_b7 nin0)
  have E8_b5 := E7_b5.keep K8
  have E8_b7 := A7.keep K8
  obtain ⟨r, hpk⟩ : ∃ z : Addr, z = own_and f1 f2 f3 f4 wA wD wR wN := ⟨_, rfl⟩
  have Q := own_and_spec (fun z x y => Exa Z Z.heap z "com/example/viewkeeper/viewkeeper/workspace/Preferences" ∧ Fld Z Z.heap z "com/example/viewkeeper/viewkeeper/workspace/Preferences" "dispensable" "Z" (.int x) ∧ Fld Z Z.heap z "com/example/viewkeeper/viewkeeper/workspace/Preferences" "replaceable" "Z" (.int y)) (d1 := f1) (r1 := f2) (d2 := f3) (r2 := f4) QA QD QR QN
  rw [← hpk] at Q
  obtain ⟨cq9, kq9, q9a, q9b, q9c⟩ := isOf hZ rfl E8_b5
  obtain ⟨_, _, ⟨T9, L9, k9, n9⟩, -, X9, ⟨Lc9, hQ9, l9, y9, z9⟩, st9⟩ := X8.virtualBack hx (y := (⟨"com/example/viewkeeper/viewkeeper/workspace/Preferences", "and", "(Lcom/example/viewkeeper/viewkeeper/workspace/Preferences;)Lcom/example/viewkeeper/viewkeeper/workspace/Preferences;"⟩ : MethodName)) (z := (⟨"com/example/viewkeeper/viewkeeper/workspace/Preferences", "and", "(Lcom/example/viewkeeper/viewkeeper/workspace/Preferences;)Lcom/example/viewkeeper/viewkeeper/workspace/Preferences;"⟩ : MethodName)) hown (mvT hZ (hw _ (List.mem_of_getElem? (i := 18) rfl))) (mvT hZ (hw _ (List.mem_of_getElem? (i := 19) rfl))) (notFace_of_selects (args := #[]) (mvT hZ (hw _ (List.mem_of_getElem? (i := 21) rfl)))) (mvT hZ (hw _ (List.mem_of_getElem? (i := 21) rfl))) (mvT hZ (hw _ (List.mem_of_getElem? (i := 20) rfl))) (by decide) (backOf (W := 0) (rm4 l Z a0 hw [] b5 b7 f1 f2 f3 f4 wA wD wR wN r T8.heap n0 z8_ F8_dispensable_b5 F8_replaceable_b5 F8d F8r (S_ALL.ext O8.2) (S_DISPENSABLE.ext O8.2) (S_REPLACEABLE.ext O8.2) (S_NONE.ext O8.2) hpk.symm) hZ (hw _ (List.mem_of_getElem? (i := 22) rfl)) (hw _ (List.mem_of_getElem? (i := 2) rfl)) (by decide) (by decide)) q9a q9c (g := (mkF m 77 #[.val (.int p1), .val (.int f1), .val (.int f2), .val (.int f3), .val (.int f4), .val (.ref b5), .val (.ref b7), .unset, .unset, .unset] [(.ref b7), (.ref b5)])) rfl (by rw [hml]; rfl) (Steps.refl _) (argsL := [(.ref b7)]) (rest := []) (lenOf pd_2 rfl) rfl (by show 2 * 0 + _ ≤ _; exact Nat.le_of_eq rfl) (hb hby at_77) (fun _ _ => ⟨rfl, rfl, (by decide : 2 + 0 ≤ _), (by decide : 4 + 0 ≤ _)⟩)
  dsimp only [Pt.U, Pt.locs, Pt.cells, Pt.slots] at X9 l9 y9 z9 st9 hQ9
  subst l9 y9 z9
  obtain ⟨rfl, N9q, e9⟩ := hQ9
  have N9 := Fr.app N8 N9q
  have j10 : ∀ t, Steps p.tables e below (T9.setTop (mkF m 103 #[.val (.int p1), .val (.int f1), .val (.int f2), .val (.int f3), .val (.int f4), .val (.ref b5), .val (.ref b7), .val (.ref r), .val (.int (if f3 = (0 : Int32) then (0 : Int32) else (1 : Int32))), .unset] [])) t → Steps p.tables e below (T9.setTop (mkF m 97 #[.val (.int p1), .val (.int f1), .val (.int f2), .val (.int f3), .val (.int f4), .val (.ref b5), .val (.ref b7), .val (.ref r), .val (.int (0 : Int32)), .unset] [(.int f3)])) t := by
    intro t k
    by_cases hj : f3 = (0 : Int32)
    · simp only [if_pos hj] at k
      show Steps p.tables e below (T9.setTop (mkF m 97 #[.val (.int p1), .val (.int f1), .val (.int f2), .val (.int f3), .val (.int f4), .val (.ref b5), .val (.ref b7), .val (.ref r), .val (.int (0 : Int32)), .unset] [(.int f3)])) _
      refine XS.ifYes X9.here hx rfl (pc0 := 97) (pc' := 103) rfl (hb hby at_97) rfl ((if0 _ _).trans (teq hj).1) (by decide) (by decide) ?_
      exact k
    · simp only [if_neg hj] at k
      show Steps p.tables e below (T9.setTop (mkF m 97 #[.val (.int p1), .val (.int f1), .val (.int f2), .val (.int f3), .val (.int f4), .val (.ref b5), .val (.ref b7), .val (.ref r), .val (.int (0 : Int32)), .unset] [(.int f3)])) _
      refine XS.ifNo X9.here hx rfl (hb hby at_97) rfl ((if0 _ _).trans (feq hj).1) ?_
      show Steps p.tables e below (T9.setTop (mkF m 100 #[.val (.int p1), .val (.int f1), .val (.int f2), .val (.int f3), .val (.int f4), .val (.ref b5), .val (.ref b7), .val (.ref r), .val (.int (0 : Int32)), .unset] [])) _
      refine XS.iconst X9.here hx rfl (hb hby at_100) ?_
      show Steps p.tables e below (T9.setTop (mkF m 101 #[.val (.int p1), .val (.int f1), .val (.int f2), .val (.int f3), .val (.int f4), .val (.ref b5), .val (.ref b7), .val (.ref r), .val (.int (0 : Int32)), .unset] [(.int (1 : Int32))])) _
      refine XS.istore X9.here hx rfl (hb hby at_101) rfl (l' := #[.val (.int p1), .val (.int f1), .val (.int f2), .val (.int f3), .val (.int f4), .val (.ref b5), .val (.ref b7), .val (.ref r), .val (.int (1 : Int32)), .unset]) rfl ?_
      exact k
  have j11 : ∀ t, Steps p.tables e below (T9.setTop (mkF m 103 #[.val (.int p1), .val (.int f1), .val (.int f2), .val (.int f3), .val (.int f4), .val (.ref b5), .val (.ref b7), .val (.ref r), .val (.int (if f1 = (0 : Int32) then (0 : Int32) else (if f3 = (0 : Int32) then (0 : Int32) else (1 : Int32)))), .unset] [])) t → Steps p.tables e below (T9.setTop (mkF m 93 #[.val (.int p1), .val (.int f1), .val (.int f2), .val (.int f3), .val (.int f4), .val (.ref b5), .val (.ref b7), .val (.ref r), .val (.int (0 : Int32)), .unset] [(.int f1)])) t := by
    intro t k
    by_cases hj : f1 = (0 : Int32)
    · simp only [if_pos hj] at k
      show Steps p.tables e below (T9.setTop (mkF m 93 #[.val (.int p1), .val (.int f1), .val (.int f2), .val (.int f3), .val (.int f4), .val (.ref b5), .val (.ref b7), .val (.ref r), .val (.int (0 : Int32)), .unset] [(.int f1)])) _
      refine XS.ifYes X9.here hx rfl (pc0 := 93) (pc' := 103) rfl (hb hby at_93) rfl ((if0 _ _).trans (teq hj).1) (by decide) (by decide) ?_
      exact k
    · simp only [if_neg hj] at k
      show Steps p.tables e below (T9.setTop (mkF m 93 #[.val (.int p1), .val (.int f1), .val (.int f2), .val (.int f3), .val (.int f4), .val (.ref b5), .val (.ref b7), .val (.ref r), .val (.int (0 : Int32)), .unset] [(.int f1)])) _
      refine XS.ifNo X9.here hx rfl (hb hby at_93) rfl ((if0 _ _).trans (feq hj).1) ?_
      show Steps p.tables e below (T9.setTop (mkF m 96 #[.val (.int p1), .val (.int f1), .val (.int f2), .val (.int f3), .val (.int f4), .val (.ref b5), .val (.ref b7), .val (.ref r), .val (.int (0 : Int32)), .unset] [])) _
      refine XS.iloadN X9.here hx rfl (hb hby at_96) rfl ?_
      show Steps p.tables e below (T9.setTop (mkF m 97 #[.val (.int p1), .val (.int f1), .val (.int f2), .val (.int f3), .val (.int f4), .val (.ref b5), .val (.ref b7), .val (.ref r), .val (.int (0 : Int32)), .unset] [(.int f3)])) _
      refine j10 _ ?_
      exact k
  have j12 : ∀ t, Steps p.tables e below (T9.setTop (mkF m 118 #[.val (.int p1), .val (.int f1), .val (.int f2), .val (.int f3), .val (.int f4), .val (.ref b5), .val (.ref b7), .val (.ref r), .val (.int (if f1 = (0 : Int32) then (0 : Int32) else (if f3 = (0 : Int32) then (0 : Int32) else (1 : Int32)))), .val (.int (if f4 = (0 : Int32) then (0 : Int32) else (1 : Int32)))] [])) t → Steps p.tables e below (T9.setTop (mkF m 112 #[.val (.int p1), .val (.int f1), .val (.int f2), .val (.int f3), .val (.int f4), .val (.ref b5), .val (.ref b7), .val (.ref r), .val (.int (if f1 = (0 : Int32) then (0 : Int32) else (if f3 = (0 : Int32) then (0 : Int32) else (1 : Int32)))), .val (.int (0 : Int32))] [(.int f4)])) t := by
    intro t k
    by_cases hj : f4 = (0 : Int32)
    · simp only [if_pos hj] at k
      show Steps p.tables e below (T9.setTop (mkF m 112 #[.val (.int p1), .val (.int f1), .val (.int f2), .val (.int f3), .val (.int f4), .val (.ref b5), .val (.ref b7), .val (.ref r), .val (.int (if f1 = (0 : Int32) then (0 : Int32) else (if f3 = (0 : Int32) then (0 : Int32) else (1 : Int32)))), .val (.int (0 : Int32))] [(.int f4)])) _
      refine XS.ifYes X9.here hx rfl (pc0 := 112) (pc' := 118) rfl (hb hby at_112) rfl ((if0 _ _).trans (teq hj).1) (by decide) (by decide) ?_
      exact k
    · simp only [if_neg hj] at k
      show Steps p.tables e below (T9.setTop (mkF m 112 #[.val (.int p1), .val (.int f1), .val (.int f2), .val (.int f3), .val (.int f4), .val (.ref b5), .val (.ref b7), .val (.ref r), .val (.int (if f1 = (0 : Int32) then (0 : Int32) else (if f3 = (0 : Int32) then (0 : Int32) else (1 : Int32)))), .val (.int (0 : Int32))] [(.int f4)])) _
      refine XS.ifNo X9.here hx rfl (hb hby at_112) rfl ((if0 _ _).trans (feq hj).1) ?_
      show Steps p.tables e below (T9.setTop (mkF m 115 #[.val (.int p1), .val (.int f1), .val (.int f2), .val (.int f3), .val (.int f4), .val (.ref b5), .val (.ref b7), .val (.ref r), .val (.int (if f1 = (0 : Int32) then (0 : Int32) else (if f3 = (0 : Int32) then (0 : Int32) else (1 : Int32)))), .val (.int (0 : Int32))] [])) _
      refine XS.iconst X9.here hx rfl (hb hby at_115) ?_
      show Steps p.tables e below (T9.setTop (mkF m 116 #[.val (.int p1), .val (.int f1), .val (.int f2), .val (.int f3), .val (.int f4), .val (.ref b5), .val (.ref b7), .val (.ref r), .val (.int (if f1 = (0 : Int32) then (0 : Int32) else (if f3 = (0 : Int32) then (0 : Int32) else (1 : Int32)))), .val (.int (0 : Int32))] [(.int (1 : Int32))])) _
      refine XS.istore X9.here hx rfl (hb hby at_116) rfl (l' := #[.val (.int p1), .val (.int f1), .val (.int f2), .val (.int f3), .val (.int f4), .val (.ref b5), .val (.ref b7), .val (.ref r), .val (.int (if f1 = (0 : Int32) then (0 : Int32) else (if f3 = (0 : Int32) then (0 : Int32) else (1 : Int32)))), .val (.int (1 : Int32))]) rfl ?_
      exact k
  have j13 : ∀ t, Steps p.tables e below (T9.setTop (mkF m 118 #[.val (.int p1), .val (.int f1), .val (.int f2), .val (.int f3), .val (.int f4), .val (.ref b5), .val (.ref b7), .val (.ref r), .val (.int (if f1 = (0 : Int32) then (0 : Int32) else (if f3 = (0 : Int32) then (0 : Int32) else (1 : Int32)))), .val (.int (if f2 = (0 : Int32) then (0 : Int32) else (if f4 = (0 : Int32) then (0 : Int32) else (1 : Int32))))] [])) t → Steps p.tables e below (T9.setTop (mkF m 107 #[.val (.int p1), .val (.int f1), .val (.int f2), .val (.int f3), .val (.int f4), .val (.ref b5), .val (.ref b7), .val (.ref r), .val (.int (if f1 = (0 : Int32) then (0 : Int32) else (if f3 = (0 : Int32) then (0 : Int32) else (1 : Int32)))), .val (.int (0 : Int32))] [(.int f2)])) t := by
    intro t k
    by_cases hj : f2 = (0 : Int32)
    · simp only [if_pos hj] at k
      show Steps p.tables e below (T9.setTop (mkF m 107 #[.val (.int p1), .val (.int f1), .val (.int f2), .val (.int f3), .val (.int f4), .val (.ref b5), .val (.ref b7), .val (.ref r), .val (.int (if f1 = (0 : Int32) then (0 : Int32) else (if f3 = (0 : Int32) then (0 : Int32) else (1 : Int32)))), .val (.int (0 : Int32))] [(.int f2)])) _
      refine XS.ifYes X9.here hx rfl (pc0 := 107) (pc' := 118) rfl (hb hby at_107) rfl ((if0 _ _).trans (teq hj).1) (by decide) (by decide) ?_
      exact k
    · simp only [if_neg hj] at k
      show Steps p.tables e below (T9.setTop (mkF m 107 #[.val (.int p1), .val (.int f1), .val (.int f2), .val (.int f3), .val (.int f4), .val (.ref b5), .val (.ref b7), .val (.ref r), .val (.int (if f1 = (0 : Int32) then (0 : Int32) else (if f3 = (0 : Int32) then (0 : Int32) else (1 : Int32)))), .val (.int (0 : Int32))] [(.int f2)])) _
      refine XS.ifNo X9.here hx rfl (hb hby at_107) rfl ((if0 _ _).trans (feq hj).1) ?_
      show Steps p.tables e below (T9.setTop (mkF m 110 #[.val (.int p1), .val (.int f1), .val (.int f2), .val (.int f3), .val (.int f4), .val (.ref b5), .val (.ref b7), .val (.ref r), .val (.int (if f1 = (0 : Int32) then (0 : Int32) else (if f3 = (0 : Int32) then (0 : Int32) else (1 : Int32)))), .val (.int (0 : Int32))] [])) _
      refine XS.iload X9.here hx rfl (hb hby at_110) rfl ?_
      show Steps p.tables e below (T9.setTop (mkF m 112 #[.val (.int p1), .val (.int f1), .val (.int f2), .val (.int f3), .val (.int f4), .val (.ref b5), .val (.ref b7), .val (.ref r), .val (.int (if f1 = (0 : Int32) then (0 : Int32) else (if f3 = (0 : Int32) then (0 : Int32) else (1 : Int32)))), .val (.int (0 : Int32))] [(.int f4)])) _
      refine j12 _ ?_
      exact k
  obtain ⟨cq14, kq14, q14a, q14b, q14c⟩ := isOf hZ e9 (Q.1.ext O8.2)
  obtain ⟨_, _, ⟨T14, L14, k14, n14⟩, -, X14, ⟨Lc14, hQ14, l14, y14, z14⟩, st14⟩ := X9.virtualBack hx (y := (⟨"com/example/viewkeeper/viewkeeper/workspace/Preferences", "dispensable", "()Z"⟩ : MethodName)) (z := (⟨"com/example/viewkeeper/viewkeeper/workspace/Preferences", "dispensable", "()Z"⟩ : MethodName)) hown (mvT hZ (hw _ (List.mem_of_getElem? (i := 25) rfl))) (mvT hZ (hw _ (List.mem_of_getElem? (i := 26) rfl))) (notFace_of_selects (args := #[]) (mvT hZ (hw _ (List.mem_of_getElem? (i := 28) rfl)))) (mvT hZ (hw _ (List.mem_of_getElem? (i := 28) rfl))) (mvT hZ (hw _ (List.mem_of_getElem? (i := 27) rfl))) (by decide) (backOf (W := 0) (rm5 l Z a0 hw [] r (own_w f1 f3) T8.heap n0 z8_ (Q.2.1.ext O8.2) (own_nar2 (own_w_bit f1 f3))) hZ (hw _ (List.mem_of_getElem? (i := 29) rfl)) (hw _ (List.mem_of_getElem? (i := 2) rfl)) (by decide) (by decide)) q14a q14c (g := (mkF m 120 #[.val (.int p1), .val (.int f1), .val (.int f2), .val (.int f3), .val (.int f4), .val (.ref b5), .val (.ref b7), .val (.ref r), .val (.int (if f1 = (0 : Int32) then (0 : Int32) else (if f3 = (0 : Int32) then (0 : Int32) else (1 : Int32)))), .val (.int (if f2 = (0 : Int32) then (0 : Int32) else (if f4 = (0 : Int32) then (0 : Int32) else (1 : Int32))))] [(.ref r)])) rfl (by rw [hml]; rfl) (Steps.refl _) (argsL := []) (rest := []) (lenOf pd_3 rfl) rfl (by show 2 * 0 + _ ≤ _; exact Nat.le_of_eq rfl) (hb hby at_120) (fun _ _ => ⟨rfl, e9, (by decide : 2 + 0 ≤ _), (by decide : 4 + 0 ≤ _)⟩)
  dsimp only [Pt.U, Pt.locs, Pt.cells, Pt.slots] at X14 l14 y14 z14 st14 hQ14
  subst l14 y14 z14
  obtain ⟨rfl, N14q, e14⟩ := hQ14
  have N14 := Fr.app N9 N14q
  obtain ⟨cq15, kq15, q15a, q15b, q15c⟩ := isOf hZ e14 (Q.1.ext O8.2)
  obtain ⟨_, _, ⟨T15, L15, k15, n15⟩, -, X15, ⟨Lc15, hQ15, l15, y15, z15⟩, st15⟩ := X14.virtualBack hx (y := (⟨"com/example/viewkeeper/viewkeeper/workspace/Preferences", "replaceable", "()Z"⟩ : MethodName)) (z := (⟨"com/example/viewkeeper/viewkeeper/workspace/Preferences", "replaceable", "()Z"⟩ : MethodName)) hown (mvT hZ (hw _ (List.mem_of_getElem? (i := 30) rfl))) (mvT hZ (hw _ (List.mem_of_getElem? (i := 31) rfl))) (notFace_of_selects (args := #[]) (mvT hZ (hw _ (List.mem_of_getElem? (i := 33) rfl)))) (mvT hZ (hw _ (List.mem_of_getElem? (i := 33) rfl))) (mvT hZ (hw _ (List.mem_of_getElem? (i := 32) rfl))) (by decide) (backOf (W := 0) (rm6 l Z a0 hw [] r (own_w f2 f4) T8.heap n0 z8_ (Q.2.2.ext O8.2) (own_nar2 (own_w_bit f2 f4))) hZ (hw _ (List.mem_of_getElem? (i := 34) rfl)) (hw _ (List.mem_of_getElem? (i := 2) rfl)) (by decide) (by decide)) q15a q15c (g := (mkF m 130 #[.val (.int p1), .val (.int f1), .val (.int f2), .val (.int f3), .val (.int f4), .val (.ref b5), .val (.ref b7), .val (.ref r), .val (.int (if f1 = (0 : Int32) then (0 : Int32) else (if f3 = (0 : Int32) then (0 : Int32) else (1 : Int32)))), .val (.int (if f2 = (0 : Int32) then (0 : Int32) else (if f4 = (0 : Int32) then (0 : Int32) else (1 : Int32))))] [(.ref r)])) rfl (by rw [hml]; rfl) (Steps.refl _) (argsL := []) (rest := []) (lenOf pd_3 rfl) rfl (by show 2 * 0 + _ ≤ _; exact Nat.le_of_eq rfl) (hb hby at_130) (fun _ _ => ⟨rfl, e14, (by decide : 2 + 0 ≤ _), (by decide : 4 + 0 ≤ _)⟩)
  dsimp only [Pt.U, Pt.locs, Pt.cells, Pt.slots] at X15 l15 y15 z15 st15 hQ15
  subst l15 y15 z15
  obtain ⟨rfl, N15q, e15⟩ := hQ15
  have N15 := Fr.app N14 N15q
  obtain ⟨fs, hr, hrun, hended, hW, hsame⟩ := X15.leave (v := some (.int (1 : Int32))) (fun h => by rw [Bd.returns] at h; cases h)
  refine ⟨_, _, pre0 _ ?_, hrun, hended, _, _, rfl, ?_, ⟨_, rfl⟩, hW, hsame.mono (by decide) (by decide)⟩
  · show Steps p.tables e below (s₁.setTop (mkF m 0 #[.val (.int p1), .unset, .unset, .unset, .unset, .unset, .unset, .unset, .unset, .unset] [])) _
    refine XS.iloadN X0.here hx rfl (hb hby at_0) rfl ?_
    show Steps p.tables e below (s₁.setTop (mkF m 1 #[.val (.int p1), .unset, .unset, .unset, .unset, .unset, .unset, .unset, .unset, .unset] [(.int p1)])) _
    refine XS.iconst X0.here hx rfl (hb hby at_1) ?_
    show Steps p.tables e below (s₁.setTop (mkF m 2 #[.val (.int p1), .unset, .unset, .unset, .unset, .unset, .unset, .unset, .unset, .unset] [(.int (1 : Int32)), (.int p1)])) _
    refine XS.iand X0.here hx rfl (hb hby at_2) rfl ?_
    show Steps p.tables e below (s₁.setTop (mkF m 3 #[.val (.int p1), .unset, .unset, .unset, .unset, .unset, .unset, .unset, .unset, .unset] [(.int (p1 &&& (1 : Int32)))])) _
    refine j1 _ ?_
    show Steps p.tables e below (s₁.setTop (mkF m 11 #[.val (.int p1), .unset, .unset, .unset, .unset, .unset, .unset, .unset, .unset, .unset] [(.int f1)])) _
    refine XS.istoreN X0.here hx rfl (hb hby at_11) rfl (l' := #[.val (.int p1), .val (.int f1), .unset, .unset, .unset, .unset, .unset, .unset, .unset, .unset]) rfl ?_
    show Steps p.tables e below (s₁.setTop (mkF m 12 #[.val (.int p1), .val (.int f1), .unset, .unset, .unset, .unset, .unset, .unset, .unset, .unset] [])) _
    refine XS.iloadN X0.here hx rfl (hb hby at_12) rfl ?_
    show Steps p.tables e below (s₁.setTop (mkF m 13 #[.val (.int p1), .val (.int f1), .unset, .unset, .unset, .unset, .unset, .unset, .unset, .unset] [(.int p1)])) _
    refine XS.iconst X0.here hx rfl (hb hby at_13) ?_
    show Steps p.tables e below (s₁.setTop (mkF m 14 #[.val (.int p1), .val (.int f1), .unset, .unset, .unset, .unset, .unset, .unset, .unset, .unset] [(.int (2 : Int32)), (.int p1)])) _
    refine XS.iand X0.here hx rfl (hb hby at_14) rfl ?_
    show Steps p.tables e below (s₁.setTop (mkF m 15 #[.val (.int p1), .val (.int f1), .unset, .unset, .unset, .unset, .unset, .unset, .unset, .unset] [(.int (p1 &&& (2 : Int32)))])) _
    refine j2 _ ?_
    show Steps p.tables e below (s₁.setTop (mkF m 23 #[.val (.int p1), .val (.int f1), .unset, .unset, .unset, .unset, .unset, .unset, .unset, .unset] [(.int f2)])) _
    refine XS.istoreN X0.here hx rfl (hb hby at_23) rfl (l' := #[.val (.int p1), .val (.int f1), .val (.int f2), .unset, .unset, .unset, .unset, .unset, .unset, .unset]) rfl ?_
    show Steps p.tables e below (s₁.setTop (mkF m 24 #[.val (.int p1), .val (.int f1), .val (.int f2), .unset, .unset, .unset, .unset, .unset, .unset, .unset] [])) _
    refine XS.iloadN X0.here hx rfl (hb hby at_24) rfl ?_
    show Steps p.tables e below (s₁.setTop (mkF m 25 #[.val (.int p1), .val (.int f1), .val (.int f2), .unset, .unset, .unset, .unset, .unset, .unset, .unset] [(.int p1)])) _
    refine XS.iconst X0.here hx rfl (hb hby at_25) ?_
    show Steps p.tables e below (s₁.setTop (mkF m 26 #[.val (.int p1), .val (.int f1), .val (.int f2), .unset, .unset, .unset, .unset, .unset, .unset, .unset] [(.int (4 : Int32)), (.int p1)])) _
    refine XS.iand X0.here hx rfl (hb hby at_26) rfl ?_
    show Steps p.tables e below (s₁.setTop (mkF m 27 #[.val (.int p1), .val (.int f1), .val (.int f2), .unset, .unset, .unset, .unset, .unset, .unset, .unset] [(.int (p1 &&& (4 : Int32)))])) _
    refine j3 _ ?_
    show Steps p.tables e below (s₁.setTop (mkF m 35 #[.val (.int p1), .val (.int f1), .val (.int f2), .unset, .unset, .unset, .unset, .unset, .unset, .unset] [(.int f3)])) _
    refine XS.istoreN X0.here hx rfl (hb hby at_35) rfl (l' := #[.val (.int p1), .val (.int f1), .val (.int f2), .val (.int f3), .unset, .unset, .unset, .unset, .unset, .unset]) rfl ?_
    show Steps p.tables e below (s₁.setTop (mkF m 36 #[.val (.int p1), .val (.int f1), .val (.int f2), .val (.int f3), .unset, .unset, .unset, .unset, .unset, .unset] [])) _
    refine XS.iloadN X0.here hx rfl (hb hby at_36) rfl ?_
    show Steps p.tables e below (s₁.setTop (mkF m 37 #[.val (.int p1), .val (.int f1), .val (.int f2), .val (.int f3), .unset, .unset, .unset, .unset, .unset, .unset] [(.int p1)])) _
    refine XS.bipush X0.here hx rfl (hb hby at_37) ?_
    show Steps p.tables e below (s₁.setTop (mkF m 39 #[.val (.int p1), .val (.int f1), .val (.int f2), .val (.int f3), .unset, .unset, .unset, .unset, .unset, .unset] [(.int (8 : Int32)), (.int p1)])) _
    refine XS.iand X0.here hx rfl (hb hby at_39) rfl ?_
    show Steps p.tables e below (s₁.setTop (mkF m 40 #[.val (.int p1), .val (.int f1), .val (.int f2), .val (.int f3), .unset, .unset, .unset, .unset, .unset, .unset] [(.int (p1 &&& (8 : Int32)))])) _
    refine j4 _ ?_
    show Steps p.tables e below (s₁.setTop (mkF m 48 #[.val (.int p1), .val (.int f1), .val (.int f2), .val (.int f3), .unset, .unset, .unset, .unset, .unset, .unset] [(.int f4)])) _
    refine XS.istore X0.here hx rfl (hb hby at_48) rfl (l' := #[.val (.int p1), .val (.int f1), .val (.int f2), .val (.int f3), .val (.int f4), .unset, .unset, .unset, .unset, .unset]) rfl ?_
    show Steps p.tables e below (s₁.setTop (mkF m 50 #[.val (.int p1), .val (.int f1), .val (.int f2), .val (.int f3), .val (.int f4), .unset, .unset, .unset, .unset, .unset] [])) _
    refine st5 _ ?_
    show Steps p.tables e below (T5.setTop (mkF m 53 #[.val (.int p1), .val (.int f1), .val (.int f2), .val (.int f3), .val (.int f4), .unset, .unset, .unset, .unset, .unset] [(.ref b5)])) _
    refine XS.dup X5.here hx rfl (hb hby at_53) rfl rfl ?_
    show Steps p.tables e below (T5.setTop (mkF m 54 #[.val (.int p1), .val (.int f1), .val (.int f2), .val (.int f3), .val (.int f4), .unset, .unset, .unset, .unset, .unset] [(.ref b5), (.ref b5)])) _
    refine XS.iloadN X5.here hx rfl (hb hby at_54) rfl ?_
    show Steps p.tables e below (T5.setTop (mkF m 55 #[.val (.int p1), .val (.int f1), .val (.int f2), .val (.int f3), .val (.int f4), .unset, .unset, .unset, .unset, .unset] [(.int f1), (.ref b5), (.ref b5)])) _
    refine XS.iloadN X5.here hx rfl (hb hby at_55) rfl ?_
    show Steps p.tables e below (T5.setTop (mkF m 56 #[.val (.int p1), .val (.int f1), .val (.int f2), .val (.int f3), .val (.int f4), .unset, .unset, .unset, .unset, .unset] [(.int f2), (.int f1), (.ref b5), (.ref b5)])) _
    refine st6.trans ?_
    show Steps p.tables e below (T6.setTop (mkF m 59 #[.val (.int p1), .val (.int f1), .val (.int f2), .val (.int f3), .val (.int f4), .unset, .unset, .unset, .unset, .unset] [(.ref b5)])) _
    refine XS.astore X6.here hx rfl (hb hby at_59) rfl rfl (l' := #[.val (.int p1), .val (.int f1), .val (.int f2), .val (.int f3), .val (.int f4), .val (.ref b5), .unset, .unset, .unset, .unset]) rfl ?_
    show Steps p.tables e below (T6.setTop (mkF m 61 #[.val (.int p1), .val (.int f1), .val (.int f2), .val (.int f3), .val (.int f4), .val (.ref b5), .unset, .unset, .unset, .unset] [])) _
    refine st7 _ ?_
    show Steps p.tables e below (T7.setTop (mkF m 64 #[.val (.int p1), .val (.int f1), .val (.int f2), .val (.int f3), .val (.int f4), .val (.ref b5), .unset, .unset, .unset, .unset] [(.ref b7)])) _
    refine XS.dup X7.here hx rfl (hb hby at_64) rfl rfl ?_
    show Steps p.tables e below (T7.setTop (mkF m 65 #[.val (.int p1), .val (.int f1), .val (.int f2), .val (.int f3), .val (.int f4), .val (.ref b5), .unset, .unset, .unset, .unset] [(.ref b7), (.ref b7)])) _
    refine XS.iloadN X7.here hx rfl (hb hby at_65) rfl ?_
    show Steps p.tables e below (T7.setTop (mkF m 66 #[.val (.int p1), .val (.int f1), .val (.int f2), .val (.int f3), .val (.int f4), .val (.ref b5), .unset, .unset, .unset, .unset] [(.int f3), (.ref b7), (.ref b7)])) _
    refine XS.iload X7.here hx rfl (hb hby at_66) rfl ?_
    show Steps p.tables e below (T7.setTop (mkF m 68 #[.val (.int p1), .val (.int f1), .val (.int f2), .val (.int f3), .val (.int f4), .val (.ref b5), .unset, .unset, .unset, .unset] [(.int f4), (.int f3), (.ref b7), (.ref b7)])) _
    refine st8.trans ?_
    show Steps p.tables e below (T8.setTop (mkF m 71 #[.val (.int p1), .val (.int f1), .val (.int f2), .val (.int f3), .val (.int f4), .val (.ref b5), .unset, .unset, .unset, .unset] [(.ref b7)])) _
    refine XS.astore X8.here hx rfl (hb hby at_71) rfl rfl (l' := #[.val (.int p1), .val (.int f1), .val (.int f2), .val (.int f3), .val (.int f4), .val (.ref b5), .val (.ref b7), .unset, .unset, .unset]) rfl ?_
    show Steps p.tables e below (T8.setTop (mkF m 73 #[.val (.int p1), .val (.int f1), .val (.int f2), .val (.int f3), .val (.int f4), .val (.ref b5), .val (.ref b7), .unset, .unset, .unset] [])) _
    refine XS.aload X8.here hx rfl (hb hby at_73) rfl rfl ?_
    show Steps p.tables e below (T8.setTop (mkF m 75 #[.val (.int p1), .val (.int f1), .val (.int f2), .val (.int f3), .val (.int f4), .val (.ref b5), .val (.ref b7), .unset, .unset, .unset] [(.ref b5)])) _
    refine XS.aload X8.here hx rfl (hb hby at_75) rfl rfl ?_
    show Steps p.tables e below (T8.setTop (mkF m 77 #[.val (.int p1), .val (.int f1), .val (.int f2), .val (.int f3), .val (.int f4), .val (.ref b5), .val (.ref b7), .unset, .unset, .unset] [(.ref b7), (.ref b5)])) _
    refine st9.trans ?_
    show Steps p.tables e below (T9.setTop (mkF m 80 #[.val (.int p1), .val (.int f1), .val (.int f2), .val (.int f3), .val (.int f4), .val (.ref b5), .val (.ref b7), .unset, .unset, .unset] [(.ref r)])) _
    refine XS.astore X9.here hx rfl (hb hby at_80) rfl rfl (l' := #[.val (.int p1), .val (.int f1), .val (.int f2), .val (.int f3), .val (.int f4), .val (.ref b5), .val (.ref b7), .val (.ref r), .unset, .unset]) rfl ?_
    show Steps p.tables e below (T9.setTop (mkF m 82 #[.val (.int p1), .val (.int f1), .val (.int f2), .val (.int f3), .val (.int f4), .val (.ref b5), .val (.ref b7), .val (.ref r), .unset, .unset] [])) _
    refine XS.aload X9.here hx rfl (hb hby at_82) rfl rfl ?_
    show Steps p.tables e below (T9.setTop (mkF m 84 #[.val (.int p1), .val (.int f1), .val (.int f2), .val (.int f3), .val (.int f4), .val (.ref b5), .val (.ref b7), .val (.ref r), .unset, .unset] [(.ref r)])) _
    refine XS.ifnonnullYes X9.here hx rfl (pc0 := 84) (pc' := 89) rfl (hb hby at_84) rfl (by decide) (by decide) ?_
    show Steps p.tables e below (T9.setTop (mkF m 89 #[.val (.int p1), .val (.int f1), .val (.int f2), .val (.int f3), .val (.int f4), .val (.ref b5), .val (.ref b7), .val (.ref r), .unset, .unset] [])) _
    refine XS.iconst X9.here hx rfl (hb hby at_89) ?_
    show Steps p.tables e below (T9.setTop (mkF m 90 #[.val (.int p1), .val (.int f1), .val (.int f2), .val (.int f3), .val (.int f4), .val (.ref b5), .val (.ref b7), .val (.ref r), .unset, .unset] [(.int (0 : Int32))])) _
    refine XS.istore X9.here hx rfl (hb hby at_90) rfl (l' := #[.val (.int p1), .val (.int f1), .val (.int f2), .val (.int f3), .val (.int f4), .val (.ref b5), .val (.ref b7), .val (.ref r), .val (.int (0 : Int32)), .unset]) rfl ?_
    show Steps p.tables e below (T9.setTop (mkF m 92 #[.val (.int p1), .val (.int f1), .val (.int f2), .val (.int f3), .val (.int f4), .val (.ref b5), .val (.ref b7), .val (.ref r), .val (.int (0 : Int32)), .unset] [])) _
    refine XS.iloadN X9.here hx rfl (hb hby at_92) rfl ?_
    show Steps p.tables e below (T9.setTop (mkF m 93 #[.val (.int p1), .val (.int f1), .val (.int f2), .val (.int f3), .val (.int f4), .val (.ref b5), .val (.ref b7), .val (.ref r), .val (.int (0 : Int32)), .unset] [(.int f1)])) _
    refine j11 _ ?_
    show Steps p.tables e below (T9.setTop (mkF m 103 #[.val (.int p1), .val (.int f1), .val (.int f2), .val (.int f3), .val (.int f4), .val (.ref b5), .val (.ref b7), .val (.ref r), .val (.int (if f1 = (0 : Int32) then (0 : Int32) else (if f3 = (0 : Int32) then (0 : Int32) else (1 : Int32)))), .unset] [])) _
    refine XS.iconst X9.here hx rfl (hb hby at_103) ?_
    show Steps p.tables e below (T9.setTop (mkF m 104 #[.val (.int p1), .val (.int f1), .val (.int f2), .val (.int f3), .val (.int f4), .val (.ref b5), .val (.ref b7), .val (.ref r), .val (.int (if f1 = (0 : Int32) then (0 : Int32) else (if f3 = (0 : Int32) then (0 : Int32) else (1 : Int32)))), .unset] [(.int (0 : Int32))])) _
    refine XS.istore X9.here hx rfl (hb hby at_104) rfl (l' := #[.val (.int p1), .val (.int f1), .val (.int f2), .val (.int f3), .val (.int f4), .val (.ref b5), .val (.ref b7), .val (.ref r), .val (.int (if f1 = (0 : Int32) then (0 : Int32) else (if f3 = (0 : Int32) then (0 : Int32) else (1 : Int32)))), .val (.int (0 : Int32))]) rfl ?_
    show Steps p.tables e below (T9.setTop (mkF m 106 #[.val (.int p1), .val (.int f1), .val (.int f2), .val (.int f3), .val (.int f4), .val (.ref b5), .val (.ref b7), .val (.ref r), .val (.int (if f1 = (0 : Int32) then (0 : Int32) else (if f3 = (0 : Int32) then (0 : Int32) else (1 : Int32)))), .val (.int (0 : Int32))] [])) _
    refine XS.iloadN X9.here hx rfl (hb hby at_106) rfl ?_
    show Steps p.tables e below (T9.setTop (mkF m 107 #[.val (.int p1), .val (.int f1), .val (.int f2), .val (.int f3), .val (.int f4), .val (.ref b5), .val (.ref b7), .val (.ref r), .val (.int (if f1 = (0 : Int32) then (0 : Int32) else (if f3 = (0 : Int32) then (0 : Int32) else (1 : Int32)))), .val (.int (0 : Int32))] [(.int f2)])) _
    refine j13 _ ?_
    show Steps p.tables e below (T9.setTop (mkF m 118 #[.val (.int p1), .val (.int f1), .val (.int f2), .val (.int f3), .val (.int f4), .val (.ref b5), .val (.ref b7), .val (.ref r), .val (.int (if f1 = (0 : Int32) then (0 : Int32) else (if f3 = (0 : Int32) then (0 : Int32) else (1 : Int32)))), .val (.int (if f2 = (0 : Int32) then (0 : Int32) else (if f4 = (0 : Int32) then (0 : Int32) else (1 : Int32))))] [])) _
    refine XS.aload X9.here hx rfl (hb hby at_118) rfl rfl ?_
    show Steps p.tables e below (T9.setTop (mkF m 120 #[.val (.int p1), .val (.int f1), .val (.int f2), .val (.int f3), .val (.int f4), .val (.ref b5), .val (.ref b7), .val (.ref r), .val (.int (if f1 = (0 : Int32) then (0 : Int32) else (if f3 = (0 : Int32) then (0 : Int32) else (1 : Int32)))), .val (.int (if f2 = (0 : Int32) then (0 : Int32) else (if f4 = (0 : Int32) then (0 : Int32) else (1 : Int32))))] [(.ref r)])) _
    refine st14.trans ?_
    show Steps p.tables e below (T14.setTop (mkF m 123 #[.val (.int p1), .val (.int f1), .val (.int f2), .val (.int f3), .val (.int f4), .val (.ref b5), .val (.ref b7), .val (.ref r), .val (.int (if f1 = (0 : Int32) then (0 : Int32) else (if f3 = (0 : Int32) then (0 : Int32) else (1 : Int32)))), .val (.int (if f2 = (0 : Int32) then (0 : Int32) else (if f4 = (0 : Int32) then (0 : Int32) else (1 : Int32))))] [(.int (own_w f1 f3))])) _
    refine XS.iload X14.here hx rfl (hb hby at_123) rfl ?_
    show Steps p.tables e below (T14.setTop (mkF m 125 #[.val (.int p1), .val (.int f1), .val (.int f2), .val (.int f3), .val (.int f4), .val (.ref b5), .val (.ref b7), .val (.ref r), .val (.int (if f1 = (0 : Int32) then (0 : Int32) else (if f3 = (0 : Int32) then (0 : Int32) else (1 : Int32)))), .val (.int (if f2 = (0 : Int32) then (0 : Int32) else (if f4 = (0 : Int32) then (0 : Int32) else (1 : Int32))))] [(.int (if f1 = (0 : Int32) then (0 : Int32) else (if f3 = (0 : Int32) then (0 : Int32) else (1 : Int32)))), (.int (own_w f1 f3))])) _
    refine XS.icmpNo X14.here hx rfl (hb hby at_125) rfl (teq (rfl : own_w f1 f3 = _)).2 ?_
    show Steps p.tables e below (T14.setTop (mkF m 128 #[.val (.int p1), .val (.int f1), .val (.int f2), .val (.int f3), .val (.int f4), .val (.ref b5), .val (.ref b7), .val (.ref r), .val (.int (if f1 = (0 : Int32) then (0 : Int32) else (if f3 = (0 : Int32) then (0 : Int32) else (1 : Int32)))), .val (.int (if f2 = (0 : Int32) then (0 : Int32) else (if f4 = (0 : Int32) then (0 : Int32) else (1 : Int32))))] [])) _
    refine XS.aload X14.here hx rfl (hb hby at_128) rfl rfl ?_
    show Steps p.tables e below (T14.setTop (mkF m 130 #[.val (.int p1), .val (.int f1), .val (.int f2), .val (.int f3), .val (.int f4), .val (.ref b5), .val (.ref b7), .val (.ref r), .val (.int (if f1 = (0 : Int32) then (0 : Int32) else (if f3 = (0 : Int32) then (0 : Int32) else (1 : Int32)))), .val (.int (if f2 = (0 : Int32) then (0 : Int32) else (if f4 = (0 : Int32) then (0 : Int32) else (1 : Int32))))] [(.ref r)])) _
    refine st15.trans ?_
    show Steps p.tables e below (T15.setTop (mkF m 133 #[.val (.int p1), .val (.int f1), .val (.int f2), .val (.int f3), .val (.int f4), .val (.ref b5), .val (.ref b7), .val (.ref r), .val (.int (if f1 = (0 : Int32) then (0 : Int32) else (if f3 = (0 : Int32) then (0 : Int32) else (1 : Int32)))), .val (.int (if f2 = (0 : Int32) then (0 : Int32) else (if f4 = (0 : Int32) then (0 : Int32) else (1 : Int32))))] [(.int (own_w f2 f4))])) _
    refine XS.iload X15.here hx rfl (hb hby at_133) rfl ?_
    show Steps p.tables e below (T15.setTop (mkF m 135 #[.val (.int p1), .val (.int f1), .val (.int f2), .val (.int f3), .val (.int f4), .val (.ref b5), .val (.ref b7), .val (.ref r), .val (.int (if f1 = (0 : Int32) then (0 : Int32) else (if f3 = (0 : Int32) then (0 : Int32) else (1 : Int32)))), .val (.int (if f2 = (0 : Int32) then (0 : Int32) else (if f4 = (0 : Int32) then (0 : Int32) else (1 : Int32))))] [(.int (if f2 = (0 : Int32) then (0 : Int32) else (if f4 = (0 : Int32) then (0 : Int32) else (1 : Int32)))), (.int (own_w f2 f4))])) _
    refine XS.icmpNo X15.here hx rfl (hb hby at_135) rfl (teq (rfl : own_w f2 f4 = _)).2 ?_
    show Steps p.tables e below (T15.setTop (mkF m 138 #[.val (.int p1), .val (.int f1), .val (.int f2), .val (.int f3), .val (.int f4), .val (.ref b5), .val (.ref b7), .val (.ref r), .val (.int (if f1 = (0 : Int32) then (0 : Int32) else (if f3 = (0 : Int32) then (0 : Int32) else (1 : Int32)))), .val (.int (if f2 = (0 : Int32) then (0 : Int32) else (if f4 = (0 : Int32) then (0 : Int32) else (1 : Int32))))] [])) _
    refine XS.iconst X15.here hx rfl (hb hby at_138) ?_
    show Steps p.tables e below (T15.setTop (mkF m 139 #[.val (.int p1), .val (.int f1), .val (.int f2), .val (.int f3), .val (.int f4), .val (.ref b5), .val (.ref b7), .val (.ref r), .val (.int (if f1 = (0 : Int32) then (0 : Int32) else (if f3 = (0 : Int32) then (0 : Int32) else (1 : Int32)))), .val (.int (if f2 = (0 : Int32) then (0 : Int32) else (if f4 = (0 : Int32) then (0 : Int32) else (1 : Int32))))] [(.int (1 : Int32))])) _
    refine XS.goto X15.here hx rfl (pc0 := 139) (pc' := 143) rfl (hb hby at_139) (by decide) (by decide) ?_
    show Steps p.tables e below (T15.setTop (mkF m 143 #[.val (.int p1), .val (.int f1), .val (.int f2), .val (.int f3), .val (.int f4), .val (.ref b5), .val (.ref b7), .val (.ref r), .val (.int (if f1 = (0 : Int32) then (0 : Int32) else (if f3 = (0 : Int32) then (0 : Int32) else (1 : Int32)))), .val (.int (if f2 = (0 : Int32) then (0 : Int32) else (if f4 = (0 : Int32) then (0 : Int32) else (1 : Int32))))] [(.int (1 : Int32))])) _
    exact retN X15 hx (t := .boolean) Bd.returns (by simp) (hb hby at_143) hr
  · show Q_rm0 Z p1 wA wD wR wN h0 n0 _ T15.heap _
    exact ⟨rfl, N15⟩
set_option maxRecDepth 65536 in
set_option maxHeartbeats 40000000 in
theorem comes_1 {Post : Tables → Env → Array Value → State → Outcome → State → Prop} (hpost : ∀ tb e args s v u, (limb_1_1.after args s (.returned v) u = true ∧ limb_1_2.after args s (.returned v) u = true ∧ True) → FrameEnd s (.returned v) u (Jvm.fieldLocs frame_1_writes args s ++ Jvm.arrayLocs frame_1_arrays args s ++ Jvm.staticLocs frame_1_statics s) 16 128 → Post tb e args s (.returned v) u) :
    ArmFor flags0 classFile x code maxLocals ret World_1 tables_1 room_1 Calls_1 rest_1 Pre_1 Post := by
  intro l hfl _ _ p e ha hc hk s m args below hf hA hF happ hP
  obtain ⟨hcalls, hrest, hpre⟩ := hP
  obtain ⟨-, -, -, hnamed, -, -, -, hat⟩ := (Spec.applies_iff hf).mp happ
  obtain ⟨hg, hn⟩ := and_e (Cond.before_iff.mp (show (Jvm.Cond.and given_1 narrow_1).before args s = true from hpre))
  obtain ⟨gc, g0⟩ := and_e hg
  obtain ⟨w0, rfl⟩ : ∃ w0 : Value, args = #[w0] := by
    have hs : args.size = 1 := by simpa [Cond.value, given_1] using gc
    obtain ⟨L⟩ := args
    match L, hs with
    | [w0], _ => exact ⟨w0, rfl⟩
  have hw := fun d (hd : d ∈ tables_1) => atoms_spec (ws := Jvm.Cond.code x code maxLocals ret :: tables_1) hat d (List.mem_cons_of_mem _ hd)
  have hfit : Fit s := fun {y c} hc i hi => by
    obtain ⟨ha, rfl⟩ := Array.getElem?_eq_some_iff.mp hc
    have q := List.all_eq_true.mp ((Array.all_eq_true_iff_forall_mem.mp hF) _ (Array.getElem_mem ha)) i (List.mem_range.mpr hi)
    simpa [Array.getElem?_eq_getElem hi] using q
  obtain ⟨i0, ei0⟩ := is_v g0
  obtain rfl : w0 = (.int i0) := Option.some.inj ei0
  obtain ⟨n1a, n1b⟩ := and_e hn
  obtain ⟨n2a, n2b⟩ := and_e n1b
  obtain ⟨n3a, n3b⟩ := and_e n2b
  obtain ⟨n4a, n4b⟩ := and_e n3b
  obtain ⟨n5a, n5b⟩ := and_e n4b
  obtain ⟨n6a, n6b⟩ := and_e n5b
  obtain ⟨n7a, n7b⟩ := and_e n6b
  obtain ⟨n8a, n8b⟩ := and_e n7b
  obtain ⟨n9a, n9b⟩ := and_e n8b
  obtain ⟨n10a, n10b⟩ := and_e n9b
  obtain ⟨n11a, n11b⟩ := and_e n10b
  obtain ⟨w_NONE, v_NONE⟩ := exa_v n1a
  have S_NONE : Sta s s.heap "com/example/viewkeeper/viewkeeper/workspace/Preferences" "NONE" "Lcom/example/viewkeeper/viewkeeper/workspace/Preferences;" (.ref w_NONE) := Sta.start v_NONE (Or.inr ⟨(hw _ (List.mem_of_getElem? (i := 2) rfl)), (hw _ (List.mem_of_getElem? (i := 24) rfl))⟩)
  have E_NONE : Exa s s.heap w_NONE "com/example/viewkeeper/viewkeeper/workspace/Preferences" := Exa.start v_NONE n1a
  obtain ⟨w_REPLACEABLE, v_REPLACEABLE⟩ := exa_v n4a
  have S_REPLACEABLE : Sta s s.heap "com/example/viewkeeper/viewkeeper/workspace/Preferences" "REPLACEABLE" "Lcom/example/viewkeeper/viewkeeper/workspace/Preferences;" (.ref w_REPLACEABLE) := Sta.start v_REPLACEABLE (Or.inr ⟨(hw _ (List.mem_of_getElem? (i := 2) rfl)), (hw _ (List.mem_of_getElem? (i := 36) rfl))⟩)
  have E_REPLACEABLE : Exa s s.heap w_REPLACEABLE "com/example/viewkeeper/viewkeeper/workspace/Preferences" := Exa.start v_REPLACEABLE n4a
  obtain ⟨w_ALL, v_ALL⟩ := exa_v n7a
  have S_ALL : Sta s s.heap "com/example/viewkeeper/viewkeeper/workspace/Preferences" "ALL" "Lcom/example/viewkeeper/viewkeeper/workspace/Preferences;" (.ref w_ALL) := Sta.start v_ALL (Or.inr ⟨(hw _ (List.mem_of_getElem? (i := 2) rfl)), (hw _ (List.mem_of_getElem? (i := 38) rfl))⟩)
  have E_ALL : Exa s s.heap w_ALL "com/example/viewkeeper/viewkeeper/workspace/Preferences" := Exa.start v_ALL n7a
  obtain ⟨w_DISPENSABLE, v_DISPENSABLE⟩ := exa_v n10a
  have S_DISPENSABLE : Sta s s.heap "com/example/viewkeeper/viewkeeper/workspace/Preferences" "DISPENSABLE" "Lcom/example/viewkeeper/viewkeeper/workspace/Preferences;" (.ref w_DISPENSABLE) := Sta.start v_DISPENSABLE (Or.inr ⟨(hw _ (List.mem_of_getElem? (i := 2) rfl)), (hw _ (List.mem_of_getElem? (i := 40) rfl))⟩)
  have E_DISPENSABLE : Exa s s.heap w_DISPENSABLE "com/example/viewkeeper/viewkeeper/workspace/Preferences" := Exa.start v_DISPENSABLE n10a
  have F_dispensable_NONE : Fld s s.heap w_NONE "com/example/viewkeeper/viewkeeper/workspace/Preferences" "dispensable" "Z" (.int (0 : Int32)) := own_fld v_NONE (own_eqI n2a)
  have F_replaceable_NONE : Fld s s.heap w_NONE "com/example/viewkeeper/viewkeeper/workspace/Preferences" "replaceable" "Z" (.int (0 : Int32)) := own_fld v_NONE (own_eqI n3a)
  have F_dispensable_REPLACEABLE : Fld s s.heap w_REPLACEABLE "com/example/viewkeeper/viewkeeper/workspace/Preferences" "dispensable" "Z" (.int (0 : Int32)) := own_fld v_REPLACEABLE (own_eqI n5a)
  have F_replaceable_REPLACEABLE : Fld s s.heap w_REPLACEABLE "com/example/viewkeeper/viewkeeper/workspace/Preferences" "replaceable" "Z" (.int (1 : Int32)) := own_fld v_REPLACEABLE (own_eqI n6a)
  have F_dispensable_ALL : Fld s s.heap w_ALL "com/example/viewkeeper/viewkeeper/workspace/Preferences" "dispensable" "Z" (.int (1 : Int32)) := own_fld v_ALL (own_eqI n8a)
  have F_replaceable_ALL : Fld s s.heap w_ALL "com/example/viewkeeper/viewkeeper/workspace/Preferences" "replaceable" "Z" (.int (1 : Int32)) := own_fld v_ALL (own_eqI n9a)
  have F_dispensable_DISPENSABLE : Fld s s.heap w_DISPENSABLE "com/example/viewkeeper/viewkeeper/workspace/Preferences" "dispensable" "Z" (.int (1 : Int32)) := own_fld v_DISPENSABLE (own_eqI n11a)
  have F_replaceable_DISPENSABLE : Fld s s.heap w_DISPENSABLE "com/example/viewkeeper/viewkeeper/workspace/Preferences" "replaceable" "Z" (.int (0 : Int32)) := own_fld v_DISPENSABLE (own_eqI n11b)
  obtain ⟨n, o, h1, h2, h3, _, L, rfl, ⟨rfl, N⟩, hq⟩ := rm0 l s _ hw tables_1 i0 w_ALL w_DISPENSABLE w_REPLACEABLE w_NONE s.heap s.heap.size (Nat.le_refl _) (Old.start s) S_ALL S_DISPENSABLE S_REPLACEABLE S_NONE ⟨E_ALL, F_dispensable_ALL, F_replaceable_ALL⟩ ⟨E_DISPENSABLE, F_dispensable_DISPENSABLE, F_replaceable_DISPENSABLE⟩ ⟨E_REPLACEABLE, F_dispensable_REPLACEABLE, F_replaceable_REPLACEABLE⟩ ⟨E_NONE, F_dispensable_NONE, F_replaceable_NONE⟩ p e ha hc hk s m _ below hf ((Spec.applies_iff_loose hf).mp happ).1 ⟨rfl, State.Warmed39.refl s, rfl⟩ trivial
  refine ⟨n, _, h1, h2, h3, hpost _ _ _ _ _ _ ⟨Cond.after_iff.mpr rfl, Cond.after_iff.mpr (eq_i res_at (Term.int_eval (1)) rfl), trivial⟩ ⟨hq.1, hq.2.1, (hq.2.2.sift fun y hy => Or.inr (N y hy)).mono (by decide) (by decide)⟩⟩
theorem main_1_1 : Claimed_1_1 := comes_1 fun _ _ _ _ _ _ h hF => ⟨h.1, hF⟩
theorem main_1_2 : Claimed_1_2 := comes_1 fun _ _ _ _ _ _ h hF => ⟨h.2.1, hF⟩
end Jvm.Pilot.@@N@@
namespace Jvm.Pilot.@@N@@
open Jvm Jvm.ClassFile Sem Op Lib Jvm.Free Jvm.Stand Jvm.Pilot.@@N@@.Jvm.D
/-! MADE BY PROGRAM (witnessworld.py) out of the Statement's table words and the real class files: 10 classes; the members and pool entries that the words name. The judged class is class 1, her method 1. -/
namespace start1
open Jvm.ClassFile
def u (s : String) : CpInfo := .utf8 (stringToUtf16 s)
/-- a pool by its gaps: so many unusable entries, then the entry; so many at the end -/
def gap : Nat → List CpInfo → List CpInfo
  | 0, r => r
  | n + 1, r => .unusable :: gap n r
def poolList (es : List (Nat × CpInfo)) (last : Nat) : List CpInfo := es.foldr (fun e r => gap e.1 (e.2 :: r)) (gap last [])
def pool (es : List (Nat × CpInfo)) (last : Nat) : Array CpInfo := ⟨poolList es last⟩
def fileOf (pool : Array CpInfo) (this : Nat) (attrs : Array Attribute := #[]) (ms : Array MethodInfo := #[]) (fl : Nat := 33) (sup : Nat := 0) (ifs : Array Nat := #[]) (fds : Array FieldInfo := #[]) : ClassFile where
  minorVersion := 0
  majorVersion := 65
  constantPool := pool
  accessFlags := fl
  thisClass := this
  superClass := sup
  interfaces := ifs
  fields := fds
  methods := ms
  attributes := attrs
def plain (name : String) (sup : Option ClassId) : Class where
  name := name
  kind := .ordinary
  loader := none
  accessFlags := 33
  super := sup
  interfaces := #[]
  cf := none
  fields := #[]
  methods := #[]
  instanceTypes := #[]
  staticTypes := #[]
  resolved := #[]
  callSites := []
  init := .initialized
  statics := none
  mirror := none

def pool0 : Array CpInfo := pool [(5, u "<init>"), (0, u "()V"), (1, .class_ 10), (1, u "java/lang/Object")] 113

def k0c0 : Code := { maxStack := 0, maxLocals := 1, code := object_method_1_code, exceptionTable := #[], attributes := #[] }
def k0m0 : Method := { name := "<init>", desc := "()V", sig := { parameters := [], returnType := none }, accessFlags := 1, code := some k0c0 }
/-- java/lang/Object -/
def k0 : Class := { plain "java/lang/Object" none with
  accessFlags := 33
  interfaces := #[]
  cf := some (fileOf pool0 8 #[] #[{ accessFlags := 1, nameIndex := 5, descriptorIndex := 6, attributes := #[] }] 33 0 #[] #[])
  fields := #[]
  methods := #[k0m0]
  instanceTypes := #[]
  staticTypes := #[]
  resolved := Array.replicate 124 none
  statics := none }

def pool1 : Array CpInfo := pool [(2, .class_ 4), (1, u "java/lang/Object"), (0, u "<init>"), (0, u "()V"), (0, .class_ 8), (0, u "com/example/viewkeeper/viewkeeper/workspace/Preferences"), (0, .methodref 7 10), (0, .nameAndType 5 11), (0, u "(ZZ)V"), (0, .methodref 7 13), (0, .nameAndType 14 15), (0, u "and"), (0, u "(Lcom/example/viewkeeper/viewkeeper/workspace/Preferences;)Lcom/example/viewkeeper/viewkeeper/workspace/Preferences;"), (0, .methodref 7 17), (0, .nameAndType 18 19), (0, u "dispensable"), (0, u "()Z"), (0, .methodref 7 21), (0, .nameAndType 22 19), (0, u "replaceable"), (0, .class_ 24), (0, u "com/example/viewkeeper/viewkeeper/workspace/PreferencesAndPinLaw"), (2, u "law"), (0, u "(I)Z")] 3

def k1m0 : Method := { name := "<init>", desc := "()V", sig := { parameters := [], returnType := none }, accessFlags := 2, code := none }
def k1c1 : Code := { maxStack := 4, maxLocals := 10, code := code, exceptionTable := #[], attributes := #[] }
def k1m1 : Method := { name := "law", desc := "(I)Z", sig := { parameters := [.int], returnType := some .boolean }, accessFlags := 9, code := some k1c1 }
/-- com/example/viewkeeper/viewkeeper/workspace/PreferencesAndPinLaw -/
def k1 : Class := { plain "com/example/viewkeeper/viewkeeper/workspace/PreferencesAndPinLaw" (some 0) with
  accessFlags := 49
  interfaces := #[]
  cf := some (fileOf pool1 23 #[] #[{ accessFlags := 2, nameIndex := 5, descriptorIndex := 6, attributes := #[] }, { accessFlags := 9, nameIndex := 27, descriptorIndex := 28, attributes := #[] }] 49 2 #[] #[])
  fields := #[]
  methods := #[k1m0, k1m1]
  instanceTypes := #[]
  staticTypes := #[]
  resolved := Array.replicate 32 none
  statics := none }

def pool2 : Array CpInfo := pool [(1, .methodref 2 3), (0, .class_ 4), (0, .nameAndType 5 6), (0, u "java/lang/Object"), (0, u "<init>"), (0, u "()V"), (0, .class_ 8), (0, u "java/lang/Record")] 13

def k2c0 : Code := { maxStack := 1, maxLocals := 1, code := jdk_30_method_1_code, exceptionTable := #[], attributes := #[] }
def k2m0 : Method := { name := "<init>", desc := "()V", sig := { parameters := [], returnType := none }, accessFlags := 4, code := some k2c0 }
/-- java/lang/Record -/
def k2 : Class := { plain "java/lang/Record" (some 0) with
  accessFlags := 1057
  interfaces := #[]
  cf := some (fileOf pool2 7 #[] #[{ accessFlags := 4, nameIndex := 5, descriptorIndex := 6, attributes := #[] }] 1057 2 #[] #[])
  fields := #[]
  methods := #[k2m0]
  instanceTypes := #[]
  staticTypes := #[]
  resolved := Array.replicate 22 none
  statics := none }

def pool3 : Array CpInfo := pool [(1, .methodref 2 3), (0, .class_ 4), (0, .nameAndType 5 6), (0, u "java/lang/Record"), (0, u "<init>"), (0, u "()V"), (0, .fieldref 8 9), (0, .class_ 10), (0, .nameAndType 11 12), (0, u "com/example/viewkeeper/viewkeeper/workspace/Preferences"), (0, u "dispensable"), (0, u "Z"), (0, .fieldref 8 14), (0, .nameAndType 15 12), (0, u "replaceable"), (0, .fieldref 8 17), (0, .nameAndType 18 19), (0, u "ALL"), (0, u "Lcom/example/viewkeeper/viewkeeper/workspace/Preferences;"), (0, .fieldref 8 21), (0, .nameAndType 22 19), (0, u "DISPENSABLE"), (0, .fieldref 8 24), (0, .nameAndType 25 19), (0, u "REPLACEABLE"), (0, .fieldref 8 27), (0, .nameAndType 28 19), (0, u "NONE"), (6, u "(ZZ)V"), (3, u "and"), (0, u "(Lcom/example/viewkeeper/viewkeeper/workspace/Preferences;)Lcom/example/viewkeeper/viewkeeper/workspace/Preferences;"), (6, u "()Z")] 22

def k3c0 : Code := { maxStack := 2, maxLocals := 3, code := prog_156_method_1_code, exceptionTable := #[], attributes := #[] }
def k3m0 : Method := { name := "<init>", desc := "(ZZ)V", sig := { parameters := [.boolean, .boolean], returnType := none }, accessFlags := 1, code := some k3c0 }
def k3c1 : Code := { maxStack := 1, maxLocals := 4, code := prog_156_method_2_code, exceptionTable := #[], attributes := #[] }
def k3m1 : Method := { name := "and", desc := "(Lcom/example/viewkeeper/viewkeeper/workspace/Preferences;)Lcom/example/viewkeeper/viewkeeper/workspace/Preferences;", sig := { parameters := [(.object "com/example/viewkeeper/viewkeeper/workspace/Preferences")], returnType := some (.object "com/example/viewkeeper/viewkeeper/workspace/Preferences") }, accessFlags := 1, code := some k3c1 }
def k3c2 : Code := { maxStack := 1, maxLocals := 1, code := prog_156_method_6_code, exceptionTable := #[], attributes := #[] }
def k3m2 : Method := { name := "dispensable", desc := "()Z", sig := { parameters := [], returnType := some .boolean }, accessFlags := 1, code := some k3c2 }
def k3c3 : Code := { maxStack := 1, maxLocals := 1, code := prog_156_method_7_code, exceptionTable := #[], attributes := #[] }
def k3m3 : Method := { name := "replaceable", desc := "()Z", sig := { parameters := [], returnType := some .boolean }, accessFlags := 1, code := some k3c3 }
/-- com/example/viewkeeper/viewkeeper/workspace/Preferences -/
def k3 : Class := { plain "com/example/viewkeeper/viewkeeper/workspace/Preferences" (some 2) with
  accessFlags := 49
  interfaces := #[]
  cf := some (fileOf pool3 8 #[] #[{ accessFlags := 1, nameIndex := 5, descriptorIndex := 35, attributes := #[] }, { accessFlags := 1, nameIndex := 39, descriptorIndex := 40, attributes := #[] }, { accessFlags := 1, nameIndex := 11, descriptorIndex := 47, attributes := #[] }, { accessFlags := 1, nameIndex := 15, descriptorIndex := 47, attributes := #[] }] 49 2 #[] #[{ accessFlags := 18, nameIndex := 11, descriptorIndex := 12, attributes := #[] }, { accessFlags := 18, nameIndex := 15, descriptorIndex := 12, attributes := #[] }, { accessFlags := 25, nameIndex := 28, descriptorIndex := 19, attributes := #[] }, { accessFlags := 25, nameIndex := 18, descriptorIndex := 19, attributes := #[] }, { accessFlags := 26, nameIndex := 22, descriptorIndex := 19, attributes := #[] }, { accessFlags := 26, nameIndex := 25, descriptorIndex := 19, attributes := #[] }])
  fields := #[{ name := "dispensable", type := .boolean, accessFlags := 18, slot := 0, constantValue := 0 }, { name := "replaceable", type := .boolean, accessFlags := 18, slot := 1, constantValue := 0 }, { name := "NONE", type := (.object "com/example/viewkeeper/viewkeeper/workspace/Preferences"), accessFlags := 25, slot := 0, constantValue := 0 }, { name := "ALL", type := (.object "com/example/viewkeeper/viewkeeper/workspace/Preferences"), accessFlags := 25, slot := 1, constantValue := 0 }, { name := "DISPENSABLE", type := (.object "com/example/viewkeeper/viewkeeper/workspace/Preferences"), accessFlags := 26, slot := 2, constantValue := 0 }, { name := "REPLACEABLE", type := (.object "com/example/viewkeeper/viewkeeper/workspace/Preferences"), accessFlags := 26, slot := 3, constantValue := 0 }]
  methods := #[k3m0, k3m1, k3m2, k3m3]
  instanceTypes := #[.boolean, .boolean]
  staticTypes := #[(.object "com/example/viewkeeper/viewkeeper/workspace/Preferences"), (.object "com/example/viewkeeper/viewkeeper/workspace/Preferences"), (.object "com/example/viewkeeper/viewkeeper/workspace/Preferences"), (.object "com/example/viewkeeper/viewkeeper/workspace/Preferences")]
  resolved := Array.replicate 70 none
  statics := some 0 }

def pool4 : Array CpInfo := pool [(1, u "java/lang/Cloneable"), (0, .class_ 1), (0, u "java/lang/Object"), (0, .class_ 3)] 3

/-- java/lang/Cloneable -/
def k4 : Class := { plain "java/lang/Cloneable" (some 0) with
  accessFlags := 1537
  interfaces := #[]
  cf := some (fileOf pool4 2 #[] #[] 1537 4 #[] #[])
  fields := #[]
  methods := #[]
  instanceTypes := #[]
  staticTypes := #[]
  resolved := Array.replicate 8 none
  statics := none }

def pool5 : Array CpInfo := pool [(1, u "java/io/Serializable"), (0, .class_ 1), (0, u "java/lang/Object"), (0, .class_ 3)] 3

/-- java/io/Serializable -/
def k5 : Class := { plain "java/io/Serializable" (some 0) with
  accessFlags := 1537
  interfaces := #[]
  cf := some (fileOf pool5 2 #[] #[] 1537 4 #[] #[])
  fields := #[]
  methods := #[]
  instanceTypes := #[]
  staticTypes := #[]
  resolved := Array.replicate 8 none
  statics := none }

/-- the primitive byte -/
def k6 : Class := { plain "byte" none with kind := .primitive 'B', accessFlags := 0x411 }
/-- [B -/
def k7 : Class := { plain "[B" (some 0) with kind := .array 6 .byte, interfaces := #[4, 5], accessFlags := 1041 }

/-- the primitive int -/
def k8 : Class := { plain "int" none with kind := .primitive 'I', accessFlags := 0x411 }
/-- [I -/
def k9 : Class := { plain "[I" (some 0) with kind := .array 8 .int, interfaces := #[4, 5], accessFlags := 1041 }

def heap : Heap := #[{ cls := 3, slots := #[.ref 1, .ref 3, .ref 4, .ref 2], vm := .statics 3 },
  { cls := 3, slots := #[.int 0, .int 0], vm := .none },
  { cls := 3, slots := #[.int 0, .int 1], vm := .none },
  { cls := 3, slots := #[.int 1, .int 1], vm := .none },
  { cls := 3, slots := #[.int 1, .int 0], vm := .none }]
def classes : Array Class := #[k0, k1, k2, k3, k4, k5, k6, k7, k8, k9]
def interned : List (Array UInt16 × Addr) := []
def slotsUsed : Nat := 12
def theMethod : MethodId := ⟨1, 1⟩
def args0 : Array Value := #[.int 5]
def aboutOver (below : List Frame) : State where
  vm := { classes := classes, interned := interned.toArray }
  heap := heap
  slotsUsed := slotsUsed
  threads := #[{ frames := .invoking theMethod args0 :: below }]
def below0 : List Frame := [.native { method := ⟨0, 0⟩, args := #[] }]
def about1 : State := aboutOver below0
def p0 : Program := .bare "" "" ""
def e0 : Env := launch0.env 0 0 0
theorem w_frames : about1.frames = Frame.invoking theMethod args0 :: below0 := rfl
set_option maxRecDepth 65536 in
theorem w_args : argsFit about1.vm theMethod args0 = true := by decide +kernel
set_option maxRecDepth 65536 in
theorem w_heap : heapFits about1 = true := by decide +kernel
set_option maxRecDepth 65536 in
theorem w_runnable : about1.curStatus? = some .runnable := by decide +kernel
set_option maxRecDepth 65536 in
theorem w_alone : about1.alone = true := by decide +kernel
set_option maxRecDepth 65536 in
theorem w_named : about1.methodNamed? x = some theMethod := by decide +kernel
set_option maxRecDepth 65536 in
theorem w_hears : about1.hears theMethod below0 = true := by decide +kernel
set_option maxRecDepth 65536 in
theorem w_ripe : about1.ripe theMethod args0 below0 = true := by decide +kernel
theorem w_running : about1.status = .running := rfl
set_option maxRecDepth 65536 in
theorem w_room : about1.hasRoom e0.platform room_1 = true :=
  launch0.hasRoom_least _ room_1 (by decide +kernel) (by decide +kernel) (by decide +kernel) (by decide +kernel) (by decide +kernel) (by decide +kernel)
theorem allAtoms_all (ts : List Jvm.Cond) (a : Array Jvm.Value) (st : Jvm.State) : (allAtoms ts).before a st = ts.all (fun c => c.before a st) := by
  induction ts with
  | nil => rfl
  | cons c t ih =>
    show (Jvm.Cond.and c (allAtoms t)).before a st = _
    rw [Jvm.Cond.before_and, ih, List.all_cons]
def words1 : List Jvm.Cond := Jvm.Cond.code x code maxLocals ret :: tables_1
/-- a 'code' word, met by the world's own term for the bytes: nothing is compared byte by byte -/
theorem code_word {y : MethodName} {bytes : ByteArray} {mx : Nat} {rt : Option FieldType} {a : Array Value} {s : State} {m : MethodId} {meth : Method} {c : Code} (h1 : s.methodNamed? y = some m) (h2 : s.vm.method? m = some meth) (h3 : meth.code = some c) (h4 : c.code = bytes)
    (h5 : (c.maxLocals == mx && c.exceptionTable.isEmpty && decide (c.maxStack ≤ mostOperands) && decide (meth.sig.returnType = rt) && !meth.locks && decide (parseMethodDescriptor y.desc = some meth.sig)) = true) : (Jvm.Cond.code y bytes mx rt).before a s = true := by
  simp only [Bool.and_eq_true, beq_iff_eq, Bool.not_eq_true', decide_eq_true_eq] at h5
  obtain ⟨⟨⟨⟨⟨g1, g2⟩, g3⟩, g4⟩, g5⟩, g6⟩ := h5
  simp [Cond.before, Cond.holds, Cond.value, h1, h2, h3, h4, g1, g2, g3, g4, g5, g6]
def isCode : Jvm.Cond → Bool
  | .code _ _ _ _ => true
  | _ => false
theorem all_split {L : List Jvm.Cond} {P : Jvm.Cond → Bool} (h1 : L.all (fun c => isCode c || P c) = true) (h2 : ∀ c ∈ L.filter isCode, P c = true) : L.all P = true := by
  refine List.all_eq_true.mpr fun c hc => ?_
  have h := List.all_eq_true.mp h1 c hc
  rcases Bool.eq_false_or_eq_true (isCode c) with hi | hi
  · exact h2 c (List.mem_filter.mpr ⟨hc, hi⟩)
  · simpa [hi] using h
set_option maxRecDepth 65536 in
theorem w_c0 : (Jvm.Cond.code x code maxLocals ret).before args0 about1 = true := code_word (m := ⟨1, 1⟩) (meth := k1m1) (c := k1c1) (by decide +kernel) rfl rfl rfl (by decide +kernel)
set_option maxRecDepth 65536 in
theorem w_c1 : (Jvm.Cond.code ({ cls := "com/example/viewkeeper/viewkeeper/workspace/Preferences", name := "<init>", desc := "(ZZ)V" } : Jvm.MethodName) prog_156_method_1_code (3 : Nat) (Option.none : Option Jvm.ClassFile.FieldType)).before args0 about1 = true := code_word (m := ⟨3, 0⟩) (meth := k3m0) (c := k3c0) (by decide +kernel) rfl rfl rfl (by decide +kernel)
set_option maxRecDepth 65536 in
theorem w_c2 : (Jvm.Cond.code ({ cls := "java/lang/Record", name := "<init>", desc := "()V" } : Jvm.MethodName) jdk_30_method_1_code (1 : Nat) (Option.none : Option Jvm.ClassFile.FieldType)).before args0 about1 = true := code_word (m := ⟨2, 0⟩) (meth := k2m0) (c := k2c0) (by decide +kernel) rfl rfl rfl (by decide +kernel)
set_option maxRecDepth 65536 in
theorem w_c3 : (Jvm.Cond.code ({ cls := "java/lang/Object", name := "<init>", desc := "()V" } : Jvm.MethodName) object_method_1_code (1 : Nat) (Option.none : Option Jvm.ClassFile.FieldType)).before args0 about1 = true := code_word (m := ⟨0, 0⟩) (meth := k0m0) (c := k0c0) (by decide +kernel) rfl rfl rfl (by decide +kernel)
set_option maxRecDepth 65536 in
theorem w_c4 : (Jvm.Cond.code ({ cls := "com/example/viewkeeper/viewkeeper/workspace/Preferences", name := "and", desc := "(Lcom/example/viewkeeper/viewkeeper/workspace/Preferences;)Lcom/example/viewkeeper/viewkeeper/workspace/Preferences;" } : Jvm.MethodName) prog_156_method_2_code (4 : Nat) (Option.some (Jvm.ClassFile.FieldType.object "com/example/viewkeeper/viewkeeper/workspace/Preferences"))).before args0 about1 = true := code_word (m := ⟨3, 1⟩) (meth := k3m1) (c := k3c1) (by decide +kernel) rfl rfl rfl (by decide +kernel)
set_option maxRecDepth 65536 in
theorem w_c5 : (Jvm.Cond.code ({ cls := "com/example/viewkeeper/viewkeeper/workspace/Preferences", name := "dispensable", desc := "()Z" } : Jvm.MethodName) prog_156_method_6_code (1 : Nat) (Option.some Jvm.ClassFile.FieldType.boolean)).before args0 about1 = true := code_word (m := ⟨3, 2⟩) (meth := k3m2) (c := k3c2) (by decide +kernel) rfl rfl rfl (by decide +kernel)
set_option maxRecDepth 65536 in
theorem w_c6 : (Jvm.Cond.code ({ cls := "com/example/viewkeeper/viewkeeper/workspace/Preferences", name := "replaceable", desc := "()Z" } : Jvm.MethodName) prog_156_method_7_code (1 : Nat) (Option.some Jvm.ClassFile.FieldType.boolean)).before args0 about1 = true := code_word (m := ⟨3, 3⟩) (meth := k3m3) (c := k3c3) (by decide +kernel) rfl rfl rfl (by decide +kernel)
def codes1 : List Jvm.Cond := [Jvm.Cond.code x code maxLocals ret, Jvm.Cond.code ({ cls := "com/example/viewkeeper/viewkeeper/workspace/Preferences", name := "<init>", desc := "(ZZ)V" } : Jvm.MethodName) prog_156_method_1_code (3 : Nat) (Option.none : Option Jvm.ClassFile.FieldType), Jvm.Cond.code ({ cls := "java/lang/Record", name := "<init>", desc := "()V" } : Jvm.MethodName) jdk_30_method_1_code (1 : Nat) (Option.none : Option Jvm.ClassFile.FieldType), Jvm.Cond.code ({ cls := "java/lang/Object", name := "<init>", desc := "()V" } : Jvm.MethodName) object_method_1_code (1 : Nat) (Option.none : Option Jvm.ClassFile.FieldType), Jvm.Cond.code ({ cls := "com/example/viewkeeper/viewkeeper/workspace/Preferences", name := "and", desc := "(Lcom/example/viewkeeper/viewkeeper/workspace/Preferences;)Lcom/example/viewkeeper/viewkeeper/workspace/Preferences;" } : Jvm.MethodName) prog_156_method_2_code (4 : Nat) (Option.some (Jvm.ClassFile.FieldType.object "com/example/viewkeeper/viewkeeper/workspace/Preferences")), Jvm.Cond.code ({ cls := "com/example/viewkeeper/viewkeeper/workspace/Preferences", name := "dispensable", desc := "()Z" } : Jvm.MethodName) prog_156_method_6_code (1 : Nat) (Option.some Jvm.ClassFile.FieldType.boolean), Jvm.Cond.code ({ cls := "com/example/viewkeeper/viewkeeper/workspace/Preferences", name := "replaceable", desc := "()Z" } : Jvm.MethodName) prog_156_method_7_code (1 : Nat) (Option.some Jvm.ClassFile.FieldType.boolean)]
set_option maxRecDepth 65536 in
theorem codes_eq : words1.filter isCode = codes1 := rfl
theorem w_codes : ∀ c ∈ words1.filter isCode, c.before args0 about1 = true := by
  rw [codes_eq]
  intro c hc
  simp only [codes1, List.mem_cons, List.not_mem_nil, or_false] at hc
  rcases hc with rfl | rfl | rfl | rfl | rfl | rfl | rfl
  · exact w_c0
  · exact w_c1
  · exact w_c2
  · exact w_c3
  · exact w_c4
  · exact w_c5
  · exact w_c6
set_option maxRecDepth 65536 in
theorem w_t1 : (words1.take 24).all (fun c => isCode c || c.before args0 about1) = true := by decide +kernel
set_option maxRecDepth 65536 in
theorem w_t2 : (words1.drop 24).all (fun c => isCode c || c.before args0 about1) = true := by decide +kernel
theorem w_tables : (allAtoms (Jvm.Cond.code x code maxLocals ret :: tables_1)).before args0 about1 = true := by
  rw [allAtoms_all]
  show words1.all (fun c => c.before args0 about1) = true
  refine all_split ?_ w_codes
  rw [← List.take_append_drop 24 words1, List.all_append, w_t1, w_t2]
  rfl
set_option maxRecDepth 65536 in
theorem w_case : (Jvm.Cond.and given_1 narrow_1).before args0 about1 = true := by decide +kernel
theorem w_applies : (headSpec (Jvm.Cond.code x code maxLocals ret :: tables_1) room_1).applies x e0.platform about1 = true :=
  (Spec.applies_iff w_frames).mpr ⟨w_running, w_runnable, w_alone, w_named, w_hears, w_ripe, w_room, w_tables⟩
theorem atStart : AtStart classFile x code maxLocals ret World_1 tables_1 room_1 Calls_1 rest_1 Pre_1 launch0 p0 e0 about1 theMethod args0 below0 :=
  ⟨lists_1, trivial, launch0.admits_env _ _ _, launch0.least_env, fairChoices_fair.cas, fairChoices_fair.clock, w_frames, w_args, w_heap, w_applies, trivial, trivial, w_case⟩
end start1
theorem witness_1 : WitnessClaimed_1 := ⟨start1.p0, start1.e0, start1.about1, start1.theMethod, start1.args0, start1.below0, start1.atStart⟩
end Jvm.Pilot.@@N@@
