import JvmDerived
import JvmDerived.Pilot.@@N@@Statement
import JvmDerived.Pilot.@@N@@Code
set_option linter.unusedVariables false
set_option linter.unusedSimpArgs false
namespace Jvm.RoadKit
open Sem ClassFile Op Lib Jvm.Stand Jvm.Free Jvm.LawKit
section New
variable {p : Program} {l : Launch} {e : Env} {R : Room} {s : State} {m : MethodId} {args : Array Value} {below : List Frame} {meth : Method} {c : Code} {T : State} {locs : List Loc} {cells slots : Nat}
theorem retI (X : Stand p l e R s m args below meth c T locs cells slots) (hx : p.tables.exec = Jvm.exec) {pc : Nat} {Ls : Array Slot} {z : Int32} {rest : List Value} (hret : meth.sig.returnType = some .int) (hd : decode c.code pc = .ok (.ireturn, 1)) {fs : List Frame}
    (hl : ∀ (f : JFrame) (acts : List Action), f.method = m → f.locked = none → f.entered = [] → (doReturn e (T.setTop f) acts (some (.int z))).1 = T.setFrames fs) : Steps p.tables e below (T.setTop (mkF m pc Ls (.int z :: rest))) (T.setFrames fs) := by
  have hm' : T.vm.method? m = some meth := X.method'
  have hn : narrow .int (.int z) = .int z := rfl
  show Steps p.tables e below (T.setTop { method := m, pc := pc, locals := Ls, stack := _ :: rest, locked := none }) _
  jvm_step X.here [X.here.top, hx, hd, hm', hret, hn]
  first | (intro acts; rw [hl _ acts rfl rfl rfl]) | rw [hl _ _ rfl rfl rfl]
  exact Steps.refl _
end New
end Jvm.RoadKit
@@BLOCK:Masks.lean.txt@@
namespace Jvm.Pilot.@@N@@
open Jvm Jvm.ClassFile Sem Op Lib Jvm.Free Jvm.Stand Jvm.LawKit Jvm.RoadKit Bundle Jvm.Pilot.@@N@@.Jvm.D
theorem own_eqI {args : Array Value} {first s : State} {o : Option Outcome} {idx : List Nat} {a : Term} {k : Int32} (h : (Jvm.Cond.eq a (Term.int k)).value args first o s idx = some true) : a.eval args first o idx s = some (.int k) := by
  simp only [Cond.value, Term.eval] at h
  cases ha : a.eval args first o idx s with
  | none => simp [ha] at h
  | some x => cases x <;> simp [ha] at h ⊢; exact h
theorem own_eqR {args : Array Value} {first s : State} {o : Option Outcome} {idx : List Nat} {a b : Term} {y : Addr} (h : (Jvm.Cond.eq a b).value args first o s idx = some true) (hb : b.eval args first o idx s = some (.ref y)) : a.eval args first o idx s = some (.ref y) := by
  simp only [Cond.value, hb] at h
  cases ha : a.eval args first o idx s with
  | none => simp [ha] at h
  | some x => cases x <;> simp [ha] at h ⊢; exact h
theorem own_elemI {args : Array Value} {s : State} {t : Term} {a : Addr} {cell : Cell} {i : Int32} {v : Value} (ht : t.eval args s none [] s = some (.ref a)) (hAt : s.arrayAt? a = some cell) (h : (Term.elem t (.int i)).eval args s none [] s = some v) : cell.slots[i.toNatClampNeg]? = some v := by
  obtain ⟨a', j', cell', ht', hi', hAt', hin, hslot⟩ := Term.elem_spec h
  cases ht.symm.trans ht'
  cases hAt.symm.trans hAt'
  have q : (Term.int i).eval args s none [] s = some (.int i) := rfl
  cases q.symm.trans hi'
  exact hslot
theorem own_fld {args : Array Value} {s : State} {t : Term} {C n d : String} {x : Addr} {v : Value} (ht : t.eval args s none [] s = some (.ref x)) (h : (Term.field t C n d).eval args s none [] s = some v) : Fld s s.heap x C n d v := Fld.start ((fld_at ht).symm.trans h)
def QV (r : Value) (h0 : Heap) (n0 : Nat) (v : Option Value) (h : Heap) (L : List Loc) : Prop := v = some r ∧ Fr n0 L ∧ h = h0
def own_kind (p : Int32) (w0 w1 w2 w3 w4 w5 w6 w7 : Addr) : Value := if p = 1 then .ref w0 else if p = 2 then .ref w1 else if p = 3 then .ref w2 else if p = 4 then .ref w3 else if p = 5 then .ref w4 else if p = 6 then .ref w5 else if p = 7 then .ref w6 else if p = 8 then .ref w7 else .null
theorem own_and7 (p : Int32) : (p &&& (7 : Int32)) = 0 ∨ (p &&& (7 : Int32)) = 1 ∨ (p &&& (7 : Int32)) = 2 ∨ (p &&& (7 : Int32)) = 3 ∨ (p &&& (7 : Int32)) = 4 ∨ (p &&& (7 : Int32)) = 5 ∨ (p &&& (7 : Int32)) = 6 ∨ (p &&& (7 : Int32)) = 7 := by
  have h := Jvm.Kit.i32_and_bounds p (m := 7) (by decide)
  generalize p &&& (7 : Int32) = q at h ⊢
  rw [Int32.le_iff_toInt_le, Int32.le_iff_toInt_le] at h
  have h1 : (0 : Int) ≤ q.toInt := h.1
  have h2 : q.toInt ≤ 7 := h.2
  have e : q.toInt = 0 ∨ q.toInt = 1 ∨ q.toInt = 2 ∨ q.toInt = 3 ∨ q.toInt = 4 ∨ q.toInt = 5 ∨ q.toInt = 6 ∨ q.toInt = 7 := by omega
  rcases e with e | e | e | e | e | e | e | e
  · exact Or.inl (Int32.toInt_inj.mp e)
  · exact Or.inr (Or.inl (Int32.toInt_inj.mp e))
  · exact Or.inr (Or.inr (Or.inl (Int32.toInt_inj.mp e)))
  · exact Or.inr (Or.inr (Or.inr (Or.inl (Int32.toInt_inj.mp e))))
  · exact Or.inr (Or.inr (Or.inr (Or.inr (Or.inl (Int32.toInt_inj.mp e)))))
  · exact Or.inr (Or.inr (Or.inr (Or.inr (Or.inr (Or.inl (Int32.toInt_inj.mp e))))))
  · exact Or.inr (Or.inr (Or.inr (Or.inr (Or.inr (Or.inr (Or.inl (Int32.toInt_inj.mp e)))))))
  · exact Or.inr (Or.inr (Or.inr (Or.inr (Or.inr (Or.inr (Or.inr ((Int32.toInt_inj.mp e))))))))
theorem own_kind_ref (p : Int32) (w0 w1 w2 w3 w4 w5 w6 w7 : Addr) : (own_kind p w0 w1 w2 w3 w4 w5 w6 w7).isRef = true := by
  unfold own_kind; repeat' split
  all_goals rfl
theorem d2_0 : decode prog_20_method_1_code 0 = .ok (.getstatic 28, 3) := by decide +kernel
theorem d2_3 : decode prog_20_method_1_code 3 = .ok (.invokevirtual 32, 3) := by decide +kernel
theorem d2_6 : decode prog_20_method_1_code 6 = .ok (.checkcast 33, 3) := by decide +kernel
theorem d2_9 : decode prog_20_method_1_code 9 = .ok (.areturn, 1) := by decide +kernel
theorem pn_0 : plainName "com/example/curtaincall/curtaincall/rpc/Frame$Kind" = true := by first | (simp [plainName, overriddenIn]; done) | decide +kernel
theorem ef_2 (m : MethodId)  : entryFrame m #[] 0 = mkF m 0 #[] [] := by first | (simp [entryFrame, mkF, argsToLocals, Value.category]; done) | rfl
def Q_rm2 (Z : State) (w0 w1 w2 w3 w4 w5 w6 w7 wv : Addr) (kk : ClassId) (h0 : Heap) (n0 : Nat) (v : Option Value) (h : Heap) (L : List Loc) : Prop := ∃ b : Addr, v = some (.ref b) ∧ Fr n0 L ∧ Keep h0 h [] ∧ Arh Z h b kk (.object "com/example/curtaincall/curtaincall/rpc/Frame$Kind") (8 : Int32) [] [(.ref w0), (.ref w1), (.ref w2), (.ref w3), (.ref w4), (.ref w5), (.ref w6), (.ref w7)] .null
set_option maxRecDepth 65536 in
set_option maxHeartbeats 40000000 in
theorem rm2 (l : Launch) (Z : State) (a0 : Array Value) (hw : ∀ d ∈ tables_1, d.before a0 Z = true) (ws : List Jvm.Cond) (w0 w1 w2 w3 w4 w5 w6 w7 wv : Addr) (kk : ClassId) (h0 : Heap) (n0 : Nat) (Z0 : n0 ≤ h0.size) (SV : Sta Z h0 "com/example/curtaincall/curtaincall/rpc/Frame$Kind" "$VALUES" "[Lcom/example/curtaincall/curtaincall/rpc/Frame$Kind;" (.ref wv)) (AV : Arh Z h0 wv kk (.object "com/example/curtaincall/curtaincall/rpc/Frame$Kind") (8 : Int32) [] [(.ref w0), (.ref w1), (.ref w2), (.ref w3), (.ref w4), (.ref w5), (.ref w6), (.ref w7)] .null) (EV : Exa Z h0 wv "[Lcom/example/curtaincall/curtaincall/rpc/Frame$Kind;") :
    MetFree l (⟨"com/example/curtaincall/curtaincall/rpc/Frame$Kind", "values", "()[Lcom/example/curtaincall/curtaincall/rpc/Frame$Kind;"⟩ : MethodName) (head1 (Jvm.Cond.code (⟨"com/example/curtaincall/curtaincall/rpc/Frame$Kind", "values", "()[Lcom/example/curtaincall/curtaincall/rpc/Frame$Kind;"⟩ : MethodName) prog_20_method_1_code 0 (some (.array (.object "com/example/curtaincall/curtaincall/rpc/Frame$Kind"))) :: ws) ({ frames := 1, cells := 1, slots := 8, locals := 14 } : Room)) (fun a U => a = #[] ∧ Z.Warmed39 U.vm ∧ U.heap = h0) (fun _ _ _ _ _ => True) (fun _ U o U' => ∃ v L, o = .returned v ∧ (Q_rm2 Z w0 w1 w2 w3 w4 w5 w6 w7 wv kk h0 n0 v U'.heap L) ∧ FrameEnd U o U' L ({ frames := 1, cells := 1, slots := 8, locals := 14 } : Room).cells ({ frames := 1, cells := 1, slots := 8, locals := 14 } : Room).slots) := by
  refine MetFree.of_bodySF (plainFor_of_name pn_0) hisR ?_
  intro p e s m args below meth c s₁ Bd hml0 hP hK
  obtain ⟨rfl, hZ, hh⟩ := hP
  have hx := Bd.exec
  have hby := Bd.bytes
  have hml : c.maxLocals = 0 := hml0
  have hown : s.vm.findClass "com/example/curtaincall/curtaincall/rpc/Frame$Kind" = some m.cls := findClass_of_methodNamed Bd.named
  have hnm := (name_of_methodNamed Bd.named Bd.method).1
  have X0 : Stand p l e ({ frames := 1, cells := 1, slots := 8, locals := 14 } : Room) s m #[] below meth c s₁ [] 0 0 := Stand.of_body Bd
  have e0 : s₁.heap = h0 := by rw [← hh, Bd.state]; rfl
  have N0 := Fr.nil n0
  have pre0 : ∀ t, Steps p.tables e below (s₁.setTop (mkF m 0 #[] [])) t → Steps p.tables e below (s₁.setTop (entryFrame m #[] 0)) t := fun t k => castTop (ef_2 m ) k
  obtain ⟨T1, X1, e1, st1⟩ := getS2 X0 hx hZ hown (host := "") (Or.inl (hw _ (List.mem_of_getElem? (i := 7) rfl))) Via.refl e0 SV (g := (mkF m 0 #[] [])) rfl (hb hby d2_0)
  obtain ⟨T2, h2, X2, e2, E2, V2, A2, st2⟩ := cloneH X1 hx hZ hown (hw _ (List.mem_of_getElem? (i := 9) rfl)) (hw _ (List.mem_of_getElem? (i := 10) rfl)) (hw _ (List.mem_of_getElem? (i := 14) rfl)) (hw _ (List.mem_of_getElem? (i := 12) rfl)) (hw _ (List.mem_of_getElem? (i := 13) rfl)) (hw _ (List.mem_of_getElem? (i := 15) rfl)) e1 AV EV (g := (mkF m 3 #[] [(.ref wv)])) rfl (by rw [hml]; rfl) rfl (hb hby d2_3) (by decide) (W := 0) (cap := 8) (by show 2 * 0 + _ ≤ _; exact Nat.le_of_eq rfl) (by decide) (by decide) (by decide) (by decide)
  obtain ⟨b2, g2⟩ : ∃ z, z = (h0).size := ⟨_, rfl⟩
  rw [← g2] at V2 A2 st2
  have K2_ : Keep h0 h2 [] := (Keep.refl h0 []).ext E2
  have z2_ : n0 ≤ (h2).size := Nat.le_trans Z0 E2.1
  obtain ⟨T3, X3, e3, st3⟩ := castY X2 hx hZ hown (hw _ (List.mem_of_getElem? (i := 25) rfl)) e2 (Ins.self A2) (g := (mkF m 6 #[] [(.ref b2)])) rfl rfl (hb hby d2_6)
  obtain ⟨fs, hr, hrun, hended, hW, hsame⟩ := X3.leave (v := some (.ref b2)) (fun h => by rw [Bd.returns] at h; cases h)
  refine ⟨_, _, pre0 _ ?_, hrun, hended, _, _, rfl, ?_, ⟨_, rfl⟩, hW, hsame.mono (by decide) (by decide)⟩
  · show Steps p.tables e below (s₁.setTop (mkF m 0 #[] [])) _
    refine st1 _ ?_
    show Steps p.tables e below (T1.setTop (mkF m 3 #[] [(.ref wv)])) _
    refine st2 _ ?_
    show Steps p.tables e below (T2.setTop (mkF m 6 #[] [(.ref b2)])) _
    refine st3 _ ?_
    show Steps p.tables e below (T3.setTop (mkF m 9 #[] [(.ref b2)])) _
    jvm_step X3.here [X3.here.top, hx, (hb hby d2_9), X3.method', Bd.returns, Value.isRef, FieldType.isReference]
    first | (intro acts; rw [hr _ acts rfl rfl rfl]) | rw [hr _ _ rfl rfl rfl]
    exact Steps.refl _
  · show Q_rm2 Z w0 w1 w2 w3 w4 w5 w6 w7 wv kk h0 n0 _ T3.heap _
    rw [e3]
    exact ⟨b2, rfl, N0, K2_, V2⟩
theorem d1_0 : decode prog_20_method_4_code 0 = .ok (.invokestatic 51, 3) := by decide +kernel
theorem d1_3 : decode prog_20_method_4_code 3 = .ok (.astore_n 1, 1) := by decide +kernel
theorem d1_4 : decode prog_20_method_4_code 4 = .ok (.aload_n 1, 1) := by decide +kernel
theorem d1_5 : decode prog_20_method_4_code 5 = .ok (.arraylength, 1) := by decide +kernel
theorem d1_6 : decode prog_20_method_4_code 6 = .ok (.istore_n 2, 1) := by decide +kernel
theorem d1_7 : decode prog_20_method_4_code 7 = .ok (.iconst 0, 1) := by decide +kernel
theorem d1_8 : decode prog_20_method_4_code 8 = .ok (.istore_n 3, 1) := by decide +kernel
theorem d1_9 : decode prog_20_method_4_code 9 = .ok (.iload_n 3, 1) := by decide +kernel
theorem d1_10 : decode prog_20_method_4_code 10 = .ok (.iload_n 2, 1) := by decide +kernel
theorem d1_11 : decode prog_20_method_4_code 11 = .ok (.if_icmp .ge 26, 3) := by decide +kernel
theorem d1_14 : decode prog_20_method_4_code 14 = .ok (.aload_n 1, 1) := by decide +kernel
theorem d1_15 : decode prog_20_method_4_code 15 = .ok (.iload_n 3, 1) := by decide +kernel
theorem d1_16 : decode prog_20_method_4_code 16 = .ok (.aaload, 1) := by decide +kernel
theorem d1_17 : decode prog_20_method_4_code 17 = .ok (.astore 4, 2) := by decide +kernel
theorem d1_19 : decode prog_20_method_4_code 19 = .ok (.aload 4, 2) := by decide +kernel
theorem d1_21 : decode prog_20_method_4_code 21 = .ok (.getfield 47, 3) := by decide +kernel
theorem d1_24 : decode prog_20_method_4_code 24 = .ok (.iload_n 0, 1) := by decide +kernel
theorem d1_25 : decode prog_20_method_4_code 25 = .ok (.if_icmp .ne 6, 3) := by decide +kernel
theorem d1_28 : decode prog_20_method_4_code 28 = .ok (.aload 4, 2) := by decide +kernel
theorem d1_30 : decode prog_20_method_4_code 30 = .ok (.areturn, 1) := by decide +kernel
theorem d1_31 : decode prog_20_method_4_code 31 = .ok (.iinc 3 1, 3) := by decide +kernel
theorem d1_34 : decode prog_20_method_4_code 34 = .ok (.goto (-25), 3) := by decide +kernel
theorem d1_37 : decode prog_20_method_4_code 37 = .ok (.aconst_null, 1) := by decide +kernel
theorem d1_38 : decode prog_20_method_4_code 38 = .ok (.areturn, 1) := by decide +kernel
theorem ef_1 (m : MethodId) (x0 : Int32) : entryFrame m #[(.int x0)] 5 = mkF m 0 #[.val (.int x0), .unset, .unset, .unset, .unset] [] := by first | (simp [entryFrame, mkF, argsToLocals, Value.category]; done) | rfl
def Q_rm1 (Z : State) (p1 : Int32) (w0 w1 w2 w3 w4 w5 w6 w7 wv : Addr) (kk : ClassId) (r : Value) (h0 : Heap) (n0 : Nat) (v : Option Value) (h : Heap) (L : List Loc) : Prop := v = some r ∧ Fr n0 L ∧ Keep h0 h []
theorem pd_0 : parseMethodDescriptor "()[Lcom/example/curtaincall/curtaincall/rpc/Frame$Kind;" = some ⟨[], some (.array (.object "com/example/curtaincall/curtaincall/rpc/Frame$Kind"))⟩ := by decide +kernel
set_option maxRecDepth 65536 in
set_option maxHeartbeats 40000000 in
theorem rm1 (l : Launch) (Z : State) (a0 : Array Value) (hw : ∀ d ∈ tables_1, d.before a0 Z = true) (ws : List Jvm.Cond) (p1 : Int32) (w0 w1 w2 w3 w4 w5 w6 w7 wv : Addr) (kk : ClassId) (r : Value) (h0 : Heap) (n0 : Nat) (Z0 : n0 ≤ h0.size) (SV : Sta Z h0 "com/example/curtaincall/curtaincall/rpc/Frame$Kind" "$VALUES" "[Lcom/example/curtaincall/curtaincall/rpc/Frame$Kind;" (.ref wv)) (AV : Arh Z h0 wv kk (.object "com/example/curtaincall/curtaincall/rpc/Frame$Kind") (8 : Int32) [] [(.ref w0), (.ref w1), (.ref w2), (.ref w3), (.ref w4), (.ref w5), (.ref w6), (.ref w7)] .null) (EV : Exa Z h0 wv "[Lcom/example/curtaincall/curtaincall/rpc/Frame$Kind;") (F0 : Fld Z h0 w0 "com/example/curtaincall/curtaincall/rpc/Frame$Kind" "code" "I" (.int (1 : Int32))) (F1 : Fld Z h0 w1 "com/example/curtaincall/curtaincall/rpc/Frame$Kind" "code" "I" (.int (2 : Int32))) (F2 : Fld Z h0 w2 "com/example/curtaincall/curtaincall/rpc/Frame$Kind" "code" "I" (.int (3 : Int32))) (F3 : Fld Z h0 w3 "com/example/curtaincall/curtaincall/rpc/Frame$Kind" "code" "I" (.int (4 : Int32))) (F4 : Fld Z h0 w4 "com/example/curtaincall/curtaincall/rpc/Frame$Kind" "code" "I" (.int (5 : Int32))) (F5 : Fld Z h0 w5 "com/example/curtaincall/curtaincall/rpc/Frame$Kind" "code" "I" (.int (6 : Int32))) (F6 : Fld Z h0 w6 "com/example/curtaincall/curtaincall/rpc/Frame$Kind" "code" "I" (.int (7 : Int32))) (F7 : Fld Z h0 w7 "com/example/curtaincall/curtaincall/rpc/Frame$Kind" "code" "I" (.int (8 : Int32))) (hpk : own_kind p1 w0 w1 w2 w3 w4 w5 w6 w7 = r) :
    MetFree l (⟨"com/example/curtaincall/curtaincall/rpc/Frame$Kind", "of", "(I)Lcom/example/curtaincall/curtaincall/rpc/Frame$Kind;"⟩ : MethodName) (head1 (Jvm.Cond.code (⟨"com/example/curtaincall/curtaincall/rpc/Frame$Kind", "of", "(I)Lcom/example/curtaincall/curtaincall/rpc/Frame$Kind;"⟩ : MethodName) prog_20_method_4_code 5 (some (.object "com/example/curtaincall/curtaincall/rpc/Frame$Kind")) :: ws) ({ frames := 2, cells := 1, slots := 8, locals := 25 } : Room)) (fun a U => a = #[(.int p1)] ∧ Z.Warmed39 U.vm ∧ U.heap = h0) (fun _ _ _ _ _ => True) (fun _ U o U' => ∃ v L, o = .returned v ∧ (Q_rm1 Z p1 w0 w1 w2 w3 w4 w5 w6 w7 wv kk r h0 n0 v U'.heap L) ∧ FrameEnd U o U' L ({ frames := 2, cells := 1, slots := 8, locals := 25 } : Room).cells ({ frames := 2, cells := 1, slots := 8, locals := 25 } : Room).slots) := by
  refine MetFree.of_bodySF (plainFor_of_name pn_0) hisR ?_
  intro p e s m args below meth c s₁ Bd hml0 hP hK
  obtain ⟨rfl, hZ, hh⟩ := hP
  have hx := Bd.exec
  have hby := Bd.bytes
  have hml : c.maxLocals = 5 := hml0
  have hown : s.vm.findClass "com/example/curtaincall/curtaincall/rpc/Frame$Kind" = some m.cls := findClass_of_methodNamed Bd.named
  have hnm := (name_of_methodNamed Bd.named Bd.method).1
  have X0 : Stand p l e ({ frames := 2, cells := 1, slots := 8, locals := 25 } : Room) s m #[(.int p1)] below meth c s₁ [] 0 0 := Stand.of_body Bd
  have e0 : s₁.heap = h0 := by rw [← hh, Bd.state]; rfl
  have N0 := Fr.nil n0
  have pre0 : ∀ t, Steps p.tables e below (s₁.setTop (mkF m 0 #[.val (.int p1), .unset, .unset, .unset, .unset] [])) t → Steps p.tables e below (s₁.setTop (entryFrame m #[(.int p1)] 5)) t := fun t k => castTop (ef_1 m p1) k
  obtain ⟨_, _, ⟨T1, L1, k1, n1⟩, -, X1, ⟨Lc1, hQ1, l1, y1, z1⟩, st1⟩ := Jvm.LawKit.callS X0 hx (y := (⟨"com/example/curtaincall/curtaincall/rpc/Frame$Kind", "values", "()[Lcom/example/curtaincall/curtaincall/rpc/Frame$Kind;"⟩ : MethodName)) hown (mvT hZ (hw _ (List.mem_of_getElem? (i := 4) rfl))) (mvT hZ (hw _ (List.mem_of_getElem? (i := 5) rfl))) (mvT hZ (hw _ (List.mem_of_getElem? (i := 2) rfl))) (mvT hZ (hw _ (List.mem_of_getElem? (i := 6) rfl))) (by decide) (backOf (W := 0) (rm2 l Z a0 hw [] w0 w1 w2 w3 w4 w5 w6 w7 wv kk h0 n0 Z0 SV AV EV) hZ (hw _ (List.mem_of_getElem? (i := 6) rfl)) (hw _ (List.mem_of_getElem? (i := 2) rfl)) (by decide) (by decide)) (g := (mkF m 0 #[.val (.int p1), .unset, .unset, .unset, .unset] [])) rfl (by rw [hml]; rfl) (argsL := []) (rest := []) (lenOf pd_0 rfl) rfl (by show 2 * 0 + _ ≤ _; exact Nat.le_of_eq rfl) (hb hby d1_0) (fun _ _ => ⟨rfl, e0, (by decide : 0 + 1 ≤ _), (by decide : 0 + 8 ≤ _)⟩)
  dsimp only [Pt.U, Pt.locs, Pt.cells, Pt.slots] at X1 l1 y1 z1 st1 hQ1
  subst l1 y1 z1
  obtain ⟨b1, rfl, N1q, K1, V1⟩ := hQ1
  have N1 := Fr.app N0 N1q
  have K1_ : Keep h0 T1.heap [] := (Keep.refl h0 []).trans K1 all0
  have z1_ : n0 ≤ (T1.heap).size := Nat.le_trans Z0 K1.1
  obtain ⟨cl, Ar, -, Sz, Nz, Hh, -⟩ := V1
  have Ex : Ext h0 T1.heap := ⟨K1.1, fun a c q => K1.2.1 a c q nin0⟩
  obtain ⟨T2, X2, e2, st2⟩ := getF X1 hx hZ hown (host := "") (Or.inl (hw _ (List.mem_of_getElem? (i := 27) rfl))) Via.refl rfl (F0.ext Ex) (g := (mkF m 21 #[.val (.int p1), .val (.ref b1), .val (.int (8 : Int32)), .val (.int (0 : Int32)), .val (.ref w0)] [(.ref w0)])) rfl rfl (hb hby d1_21)
  have pre3 : ∀ t, Steps p.tables e below (T2.setTop (mkF m 25 #[.val (.int p1), .val (.ref b1), .val (.int (8 : Int32)), .val (.int (0 : Int32)), .val (.ref w0)] [(.int p1), (.int (1 : Int32))])) t → Steps p.tables e below (s₁.setTop (entryFrame m #[(.int p1)] 5)) t := fun t k => pre0 t (by
      show Steps p.tables e below (s₁.setTop (mkF m 0 #[.val (.int p1), .unset, .unset, .unset, .unset] [])) _
      refine st1 _ ?_
      show Steps p.tables e below (T1.setTop (mkF m 3 #[.val (.int p1), .unset, .unset, .unset, .unset] [(.ref b1)])) _
      refine XS.astoreN X1.here hx rfl (hb hby d1_3) rfl rfl (l' := #[.val (.int p1), .val (.ref b1), .unset, .unset, .unset]) rfl ?_
      show Steps p.tables e below (T1.setTop (mkF m 4 #[.val (.int p1), .val (.ref b1), .unset, .unset, .unset] [])) _
      refine XS.aloadN X1.here hx rfl (hb hby d1_4) rfl rfl ?_
      show Steps p.tables e below (T1.setTop (mkF m 5 #[.val (.int p1), .val (.ref b1), .unset, .unset, .unset] [(.ref b1)])) _
      refine X1.arraylength hx Ar.1 (State.isArrayOf_alike hZ.alike Ar.2.1) (g := (mkF m 5 #[.val (.int p1), .val (.ref b1), .unset, .unset, .unset] [(.ref b1)])) rfl rfl (hb hby d1_5) _ ?_
      rw [len_of Sz Nz]
      show Steps p.tables e below (T1.setTop (mkF m 6 #[.val (.int p1), .val (.ref b1), .unset, .unset, .unset] [(.int (8 : Int32))])) _
      refine XS.istoreN X1.here hx rfl (hb hby d1_6) rfl (l' := #[.val (.int p1), .val (.ref b1), .val (.int (8 : Int32)), .unset, .unset]) rfl ?_
      show Steps p.tables e below (T1.setTop (mkF m 7 #[.val (.int p1), .val (.ref b1), .val (.int (8 : Int32)), .unset, .unset] [])) _
      refine XS.iconst X1.here hx rfl (hb hby d1_7) ?_
      show Steps p.tables e below (T1.setTop (mkF m 8 #[.val (.int p1), .val (.ref b1), .val (.int (8 : Int32)), .unset, .unset] [(.int (0 : Int32))])) _
      refine XS.istoreN X1.here hx rfl (hb hby d1_8) rfl (l' := #[.val (.int p1), .val (.ref b1), .val (.int (8 : Int32)), .val (.int (0 : Int32)), .unset]) rfl ?_
      show Steps p.tables e below (T1.setTop (mkF m 9 #[.val (.int p1), .val (.ref b1), .val (.int (8 : Int32)), .val (.int (0 : Int32)), .unset] [])) _
      refine XS.iloadN X1.here hx rfl (hb hby d1_9) rfl ?_
      show Steps p.tables e below (T1.setTop (mkF m 10 #[.val (.int p1), .val (.ref b1), .val (.int (8 : Int32)), .val (.int (0 : Int32)), .unset] [(.int (0 : Int32))])) _
      refine XS.iloadN X1.here hx rfl (hb hby d1_10) rfl ?_
      show Steps p.tables e below (T1.setTop (mkF m 11 #[.val (.int p1), .val (.ref b1), .val (.int (8 : Int32)), .val (.int (0 : Int32)), .unset] [(.int (8 : Int32)), (.int (0 : Int32))])) _
      refine XS.icmpNo X1.here hx rfl (hb hby d1_11) rfl (tlt (by decide : (0 : Int32) < (8 : Int32))).2.1 ?_
      show Steps p.tables e below (T1.setTop (mkF m 14 #[.val (.int p1), .val (.ref b1), .val (.int (8 : Int32)), .val (.int (0 : Int32)), .unset] [])) _
      refine XS.aloadN X1.here hx rfl (hb hby d1_14) rfl rfl ?_
      show Steps p.tables e below (T1.setTop (mkF m 15 #[.val (.int p1), .val (.ref b1), .val (.int (8 : Int32)), .val (.int (0 : Int32)), .unset] [(.ref b1)])) _
      refine XS.iloadN X1.here hx rfl (hb hby d1_15) rfl ?_
      show Steps p.tables e below (T1.setTop (mkF m 16 #[.val (.int p1), .val (.ref b1), .val (.int (8 : Int32)), .val (.int (0 : Int32)), .unset] [(.int (0 : Int32)), (.ref b1)])) _
      refine X1.aaload hx (j := (0 : Int32)) (v := (.ref w0)) Ar.1 (State.isArrayOf_alike hZ.alike Ar.2.1) rfl Ar.2.2 (inb_of Sz ⟨by decide, by decide⟩) (atH Hh (inb_of Sz ⟨by decide, by decide⟩) rfl) (g := (mkF m 16 #[.val (.int p1), .val (.ref b1), .val (.int (8 : Int32)), .val (.int (0 : Int32)), .unset] [(.int (0 : Int32)), (.ref b1)])) rfl rfl (hb hby d1_16) _ ?_
      show Steps p.tables e below (T1.setTop (mkF m 17 #[.val (.int p1), .val (.ref b1), .val (.int (8 : Int32)), .val (.int (0 : Int32)), .unset] [(.ref w0)])) _
      refine XS.astore X1.here hx rfl (hb hby d1_17) rfl rfl (l' := #[.val (.int p1), .val (.ref b1), .val (.int (8 : Int32)), .val (.int (0 : Int32)), .val (.ref w0)]) rfl ?_
      show Steps p.tables e below (T1.setTop (mkF m 19 #[.val (.int p1), .val (.ref b1), .val (.int (8 : Int32)), .val (.int (0 : Int32)), .val (.ref w0)] [])) _
      refine XS.aload X1.here hx rfl (hb hby d1_19) rfl rfl ?_
      show Steps p.tables e below (T1.setTop (mkF m 21 #[.val (.int p1), .val (.ref b1), .val (.int (8 : Int32)), .val (.int (0 : Int32)), .val (.ref w0)] [(.ref w0)])) _
      refine st2 _ ?_
      show Steps p.tables e below (T2.setTop (mkF m 24 #[.val (.int p1), .val (.ref b1), .val (.int (8 : Int32)), .val (.int (0 : Int32)), .val (.ref w0)] [(.int (1 : Int32))])) _
      refine XS.iloadN X2.here hx rfl (hb hby d1_24) rfl ?_
      exact k)
  by_cases hc25_4 : (1 : Int32) = p1
  · obtain ⟨fs, hr, hrun, hended, hW, hsame⟩ := X2.leave (v := some (.ref w0)) (fun h => by rw [Bd.returns] at h; cases h)
    refine ⟨_, _, pre3 _ ?_, hrun, hended, _, _, rfl, ?_, ⟨_, rfl⟩, hW, hsame.mono (by decide) (by decide)⟩
    · show Steps p.tables e below (T2.setTop (mkF m 25 #[.val (.int p1), .val (.ref b1), .val (.int (8 : Int32)), .val (.int (0 : Int32)), .val (.ref w0)] [(.int p1), (.int (1 : Int32))])) _
      refine XS.icmpNo X2.here hx rfl (hb hby d1_25) rfl (teq hc25_4).2 ?_
      show Steps p.tables e below (T2.setTop (mkF m 28 #[.val (.int p1), .val (.ref b1), .val (.int (8 : Int32)), .val (.int (0 : Int32)), .val (.ref w0)] [])) _
      refine XS.aload X2.here hx rfl (hb hby d1_28) rfl rfl ?_
      show Steps p.tables e below (T2.setTop (mkF m 30 #[.val (.int p1), .val (.ref b1), .val (.int (8 : Int32)), .val (.int (0 : Int32)), .val (.ref w0)] [(.ref w0)])) _
      jvm_step X2.here [X2.here.top, hx, (hb hby d1_30), X2.method', Bd.returns, Value.isRef, FieldType.isReference]
      first | (intro acts; rw [hr _ acts rfl rfl rfl]) | rw [hr _ _ rfl rfl rfl]
      exact Steps.refl _
    · show Q_rm1 Z p1 w0 w1 w2 w3 w4 w5 w6 w7 wv kk r h0 n0 _ T2.heap _
      rw [e2]
      exact ⟨by rw [← hpk]; rw [own_kind, if_pos hc25_4.symm], N1, K1_⟩
  · obtain ⟨T5, X5, e5, st5⟩ := getF X2 hx hZ hown (host := "") (Or.inl (hw _ (List.mem_of_getElem? (i := 27) rfl))) Via.refl e2 (F1.ext Ex) (g := (mkF m 21 #[.val (.int p1), .val (.ref b1), .val (.int (8 : Int32)), .val (.int (1 : Int32)), .val (.ref w1)] [(.ref w1)])) rfl rfl (hb hby d1_21)
    have pre6 : ∀ t, Steps p.tables e below (T5.setTop (mkF m 25 #[.val (.int p1), .val (.ref b1), .val (.int (8 : Int32)), .val (.int (1 : Int32)), .val (.ref w1)] [(.int p1), (.int (2 : Int32))])) t → Steps p.tables e below (s₁.setTop (entryFrame m #[(.int p1)] 5)) t := fun t k => pre3 t (by
        show Steps p.tables e below (T2.setTop (mkF m 25 #[.val (.int p1), .val (.ref b1), .val (.int (8 : Int32)), .val (.int (0 : Int32)), .val (.ref w0)] [(.int p1), (.int (1 : Int32))])) _
        refine XS.icmpYes X2.here hx rfl (pc0 := 25) (pc' := 31) rfl (hb hby d1_25) rfl (feq hc25_4).2 (by decide) (by decide) ?_
        show Steps p.tables e below (T2.setTop (mkF m 31 #[.val (.int p1), .val (.ref b1), .val (.int (8 : Int32)), .val (.int (0 : Int32)), .val (.ref w0)] [])) _
        refine XS.iinc X2.here hx rfl (hb hby d1_31) rfl (l' := #[.val (.int p1), .val (.ref b1), .val (.int (8 : Int32)), .val (.int (1 : Int32)), .val (.ref w0)]) rfl ?_
        show Steps p.tables e below (T2.setTop (mkF m 34 #[.val (.int p1), .val (.ref b1), .val (.int (8 : Int32)), .val (.int (1 : Int32)), .val (.ref w0)] [])) _
        refine XS.goto X2.here hx rfl (pc0 := 34) (pc' := 9) rfl (hb hby d1_34) (by decide) (by decide) ?_
        show Steps p.tables e below (T2.setTop (mkF m 9 #[.val (.int p1), .val (.ref b1), .val (.int (8 : Int32)), .val (.int (1 : Int32)), .val (.ref w0)] [])) _
        refine XS.iloadN X2.here hx rfl (hb hby d1_9) rfl ?_
        show Steps p.tables e below (T2.setTop (mkF m 10 #[.val (.int p1), .val (.ref b1), .val (.int (8 : Int32)), .val (.int (1 : Int32)), .val (.ref w0)] [(.int (1 : Int32))])) _
        refine XS.iloadN X2.here hx rfl (hb hby d1_10) rfl ?_
        show Steps p.tables e below (T2.setTop (mkF m 11 #[.val (.int p1), .val (.ref b1), .val (.int (8 : Int32)), .val (.int (1 : Int32)), .val (.ref w0)] [(.int (8 : Int32)), (.int (1 : Int32))])) _
        refine XS.icmpNo X2.here hx rfl (hb hby d1_11) rfl (tlt (by decide : (1 : Int32) < (8 : Int32))).2.1 ?_
        show Steps p.tables e below (T2.setTop (mkF m 14 #[.val (.int p1), .val (.ref b1), .val (.int (8 : Int32)), .val (.int (1 : Int32)), .val (.ref w0)] [])) _
        refine XS.aloadN X2.here hx rfl (hb hby d1_14) rfl rfl ?_
        show Steps p.tables e below (T2.setTop (mkF m 15 #[.val (.int p1), .val (.ref b1), .val (.int (8 : Int32)), .val (.int (1 : Int32)), .val (.ref w0)] [(.ref b1)])) _
        refine XS.iloadN X2.here hx rfl (hb hby d1_15) rfl ?_
        show Steps p.tables e below (T2.setTop (mkF m 16 #[.val (.int p1), .val (.ref b1), .val (.int (8 : Int32)), .val (.int (1 : Int32)), .val (.ref w0)] [(.int (1 : Int32)), (.ref b1)])) _
        refine X2.aaload hx (j := (1 : Int32)) (v := (.ref w1)) (by rw [e2]; exact Ar.1) (State.isArrayOf_alike hZ.alike Ar.2.1) rfl Ar.2.2 (inb_of Sz ⟨by decide, by decide⟩) (atH Hh (inb_of Sz ⟨by decide, by decide⟩) rfl) (g := (mkF m 16 #[.val (.int p1), .val (.ref b1), .val (.int (8 : Int32)), .val (.int (1 : Int32)), .val (.ref w0)] [(.int (1 : Int32)), (.ref b1)])) rfl rfl (hb hby d1_16) _ ?_
        show Steps p.tables e below (T2.setTop (mkF m 17 #[.val (.int p1), .val (.ref b1), .val (.int (8 : Int32)), .val (.int (1 : Int32)), .val (.ref w0)] [(.ref w1)])) _
        refine XS.astore X2.here hx rfl (hb hby d1_17) rfl rfl (l' := #[.val (.int p1), .val (.ref b1), .val (.int (8 : Int32)), .val (.int (1 : Int32)), .val (.ref w1)]) rfl ?_
        show Steps p.tables e below (T2.setTop (mkF m 19 #[.val (.int p1), .val (.ref b1), .val (.int (8 : Int32)), .val (.int (1 : Int32)), .val (.ref w1)] [])) _
        refine XS.aload X2.here hx rfl (hb hby d1_19) rfl rfl ?_
        show Steps p.tables e below (T2.setTop (mkF m 21 #[.val (.int p1), .val (.ref b1), .val (.int (8 : Int32)), .val (.int (1 : Int32)), .val (.ref w1)] [(.ref w1)])) _
        refine st5 _ ?_
        show Steps p.tables e below (T5.setTop (mkF m 24 #[.val (.int p1), .val (.ref b1), .val (.int (8 : Int32)), .val (.int (1 : Int32)), .val (.ref w1)] [(.int (2 : Int32))])) _
        refine XS.iloadN X5.here hx rfl (hb hby d1_24) rfl ?_
        exact k)
    by_cases hc25_7 : (2 : Int32) = p1
    · obtain ⟨fs, hr, hrun, hended, hW, hsame⟩ := X5.leave (v := some (.ref w1)) (fun h => by rw [Bd.returns] at h; cases h)
      refine ⟨_, _, pre6 _ ?_, hrun, hended, _, _, rfl, ?_, ⟨_, rfl⟩, hW, hsame.mono (by decide) (by decide)⟩
      · show Steps p.tables e below (T5.setTop (mkF m 25 #[.val (.int p1), .val (.ref b1), .val (.int (8 : Int32)), .val (.int (1 : Int32)), .val (.ref w1)] [(.int p1), (.int (2 : Int32))])) _
        refine XS.icmpNo X5.here hx rfl (hb hby d1_25) rfl (teq hc25_7).2 ?_
        show Steps p.tables e below (T5.setTop (mkF m 28 #[.val (.int p1), .val (.ref b1), .val (.int (8 : Int32)), .val (.int (1 : Int32)), .val (.ref w1)] [])) _
        refine XS.aload X5.here hx rfl (hb hby d1_28) rfl rfl ?_
        show Steps p.tables e below (T5.setTop (mkF m 30 #[.val (.int p1), .val (.ref b1), .val (.int (8 : Int32)), .val (.int (1 : Int32)), .val (.ref w1)] [(.ref w1)])) _
        jvm_step X5.here [X5.here.top, hx, (hb hby d1_30), X5.method', Bd.returns, Value.isRef, FieldType.isReference]
        first | (intro acts; rw [hr _ acts rfl rfl rfl]) | rw [hr _ _ rfl rfl rfl]
        exact Steps.refl _
      · show Q_rm1 Z p1 w0 w1 w2 w3 w4 w5 w6 w7 wv kk r h0 n0 _ T5.heap _
        rw [e5]
        exact ⟨by rw [← hpk]; rw [own_kind, if_neg (fun q => hc25_4 q.symm), if_pos hc25_7.symm], N1, K1_⟩
    · obtain ⟨T8, X8, e8, st8⟩ := getF X5 hx hZ hown (host := "") (Or.inl (hw _ (List.mem_of_getElem? (i := 27) rfl))) Via.refl e5 (F2.ext Ex) (g := (mkF m 21 #[.val (.int p1), .val (.ref b1), .val (.int (8 : Int32)), .val (.int (2 : Int32)), .val (.ref w2)] [(.ref w2)])) rfl rfl (hb hby d1_21)
      have pre9 : ∀ t, Steps p.tables e below (T8.setTop (mkF m 25 #[.val (.int p1), .val (.ref b1), .val (.int (8 : Int32)), .val (.int (2 : Int32)), .val (.ref w2)] [(.int p1), (.int (3 : Int32))])) t → Steps p.tables e below (s₁.setTop (entryFrame m #[(.int p1)] 5)) t := fun t k => pre6 t (by
          show Steps p.tables e below (T5.setTop (mkF m 25 #[.val (.int p1), .val (.ref b1), .val (.int (8 : Int32)), .val (.int (1 : Int32)), .val (.ref w1)] [(.int p1), (.int (2 : Int32))])) _
          refine XS.icmpYes X5.here hx rfl (pc0 := 25) (pc' := 31) rfl (hb hby d1_25) rfl (feq hc25_7).2 (by decide) (by decide) ?_
          show Steps p.tables e below (T5.setTop (mkF m 31 #[.val (.int p1), .val (.ref b1), .val (.int (8 : Int32)), .val (.int (1 : Int32)), .val (.ref w1)] [])) _
          refine XS.iinc X5.here hx rfl (hb hby d1_31) rfl (l' := #[.val (.int p1), .val (.ref b1), .val (.int (8 : Int32)), .val (.int (2 : Int32)), .val (.ref w1)]) rfl ?_
          show Steps p.tables e below (T5.setTop (mkF m 34 #[.val (.int p1), .val (.ref b1), .val (.int (8 : Int32)), .val (.int (2 : Int32)), .val (.ref w1)] [])) _
          refine XS.goto X5.here hx rfl (pc0 := 34) (pc' := 9) rfl (hb hby d1_34) (by decide) (by decide) ?_
          show Steps p.tables e below (T5.setTop (mkF m 9 #[.val (.int p1), .val (.ref b1), .val (.int (8 : Int32)), .val (.int (2 : Int32)), .val (.ref w1)] [])) _
          refine XS.iloadN X5.here hx rfl (hb hby d1_9) rfl ?_
          show Steps p.tables e below (T5.setTop (mkF m 10 #[.val (.int p1), .val (.ref b1), .val (.int (8 : Int32)), .val (.int (2 : Int32)), .val (.ref w1)] [(.int (2 : Int32))])) _
          refine XS.iloadN X5.here hx rfl (hb hby d1_10) rfl ?_
          show Steps p.tables e below (T5.setTop (mkF m 11 #[.val (.int p1), .val (.ref b1), .val (.int (8 : Int32)), .val (.int (2 : Int32)), .val (.ref w1)] [(.int (8 : Int32)), (.int (2 : Int32))])) _
          refine XS.icmpNo X5.here hx rfl (hb hby d1_11) rfl (tlt (by decide : (2 : Int32) < (8 : Int32))).2.1 ?_
          show Steps p.tables e below (T5.setTop (mkF m 14 #[.val (.int p1), .val (.ref b1), .val (.int (8 : Int32)), .val (.int (2 : Int32)), .val (.ref w1)] [])) _
          refine XS.aloadN X5.here hx rfl (hb hby d1_14) rfl rfl ?_
          show Steps p.tables e below (T5.setTop (mkF m 15 #[.val (.int p1), .val (.ref b1), .val (.int (8 : Int32)), .val (.int (2 : Int32)), .val (.ref w1)] [(.ref b1)])) _
          refine XS.iloadN X5.here hx rfl (hb hby d1_15) rfl ?_
          show Steps p.tables e below (T5.setTop (mkF m 16 #[.val (.int p1), .val (.ref b1), .val (.int (8 : Int32)), .val (.int (2 : Int32)), .val (.ref w1)] [(.int (2 : Int32)), (.ref b1)])) _
          refine X5.aaload hx (j := (2 : Int32)) (v := (.ref w2)) (by rw [e5]; exact Ar.1) (State.isArrayOf_alike hZ.alike Ar.2.1) rfl Ar.2.2 (inb_of Sz ⟨by decide, by decide⟩) (atH Hh (inb_of Sz ⟨by decide, by decide⟩) rfl) (g := (mkF m 16 #[.val (.int p1), .val (.ref b1), .val (.int (8 : Int32)), .val (.int (2 : Int32)), .val (.ref w1)] [(.int (2 : Int32)), (.ref b1)])) rfl rfl (hb hby d1_16) _ ?_
          show Steps p.tables e below (T5.setTop (mkF m 17 #[.val (.int p1), .val (.ref b1), .val (.int (8 : Int32)), .val (.int (2 : Int32)), .val (.ref w1)] [(.ref w2)])) _
          refine XS.astore X5.here hx rfl (hb hby d1_17) rfl rfl (l' := #[.val (.int p1), .val (.ref b1), .val (.int (8 : Int32)), .val (.int (2 : Int32)), .val (.ref w2)]) rfl ?_
          show Steps p.tables e below (T5.setTop (mkF m 19 #[.val (.int p1), .val (.ref b1), .val (.int (8 : Int32)), .val (.int (2 : Int32)), .val (.ref w2)] [])) _
          refine XS.aload X5.here hx rfl (hb hby d1_19) rfl rfl ?_
          show Steps p.tables e below (T5.setTop (mkF m 21 #[.val (.int p1), .val (.ref b1), .val (.int (8 : Int32)), .val (.int (2 : Int32)), .val (.ref w2)] [(.ref w2)])) _
          refine st8 _ ?_
          show Steps p.tables e below (T8.setTop (mkF m 24 #[.val (.int p1), .val (.ref b1), .val (.int (8 : Int32)), .val (.int (2 : Int32)), .val (.ref w2)] [(.int (3 : Int32))])) _
          refine XS.iloadN X8.here hx rfl (hb hby d1_24) rfl ?_
          exact k)
      by_cases hc25_10 : (3 : Int32) = p1
      · obtain ⟨fs, hr, hrun, hended, hW, hsame⟩ := X8.leave (v := some (.ref w2)) (fun h => by rw [Bd.returns] at h; cases h)
        refine ⟨_, _, pre9 _ ?_, hrun, hended, _, _, rfl, ?_, ⟨_, rfl⟩, hW, hsame.mono (by decide) (by decide)⟩
        · show Steps p.tables e below (T8.setTop (mkF m 25 #[.val (.int p1), .val (.ref b1), .val (.int (8 : Int32)), .val (.int (2 : Int32)), .val (.ref w2)] [(.int p1), (.int (3 : Int32))])) _
          refine XS.icmpNo X8.here hx rfl (hb hby d1_25) rfl (teq hc25_10).2 ?_
          show Steps p.tables e below (T8.setTop (mkF m 28 #[.val (.int p1), .val (.ref b1), .val (.int (8 : Int32)), .val (.int (2 : Int32)), .val (.ref w2)] [])) _
          refine XS.aload X8.here hx rfl (hb hby d1_28) rfl rfl ?_
          show Steps p.tables e below (T8.setTop (mkF m 30 #[.val (.int p1), .val (.ref b1), .val (.int (8 : Int32)), .val (.int (2 : Int32)), .val (.ref w2)] [(.ref w2)])) _
          jvm_step X8.here [X8.here.top, hx, (hb hby d1_30), X8.method', Bd.returns, Value.isRef, FieldType.isReference]
          first | (intro acts; rw [hr _ acts rfl rfl rfl]) | rw [hr _ _ rfl rfl rfl]
          exact Steps.refl _
        · show Q_rm1 Z p1 w0 w1 w2 w3 w4 w5 w6 w7 wv kk r h0 n0 _ T8.heap _
          rw [e8]
          exact ⟨by rw [← hpk]; rw [own_kind, if_neg (fun q => hc25_4 q.symm), if_neg (fun q => hc25_7 q.symm), if_pos hc25_10.symm], N1, K1_⟩
      · obtain ⟨T11, X11, e11, st11⟩ := getF X8 hx hZ hown (host := "") (Or.inl (hw _ (List.mem_of_getElem? (i := 27) rfl))) Via.refl e8 (F3.ext Ex) (g := (mkF m 21 #[.val (.int p1), .val (.ref b1), .val (.int (8 : Int32)), .val (.int (3 : Int32)), .val (.ref w3)] [(.ref w3)])) rfl rfl (hb hby d1_21)
        have pre12 : ∀ t, Steps p.tables e below (T11.setTop (mkF m 25 #[.val (.int p1), .val (.ref b1), .val (.int (8 : Int32)), .val (.int (3 : Int32)), .val (.ref w3)] [(.int p1), (.int (4 : Int32))])) t → Steps p.tables e below (s₁.setTop (entryFrame m #[(.int p1)] 5)) t := fun t k => pre9 t (by
            show Steps p.tables e below (T8.setTop (mkF m 25 #[.val (.int p1), .val (.ref b1), .val (.int (8 : Int32)), .val (.int (2 : Int32)), .val (.ref w2)] [(.int p1), (.int (3 : Int32))])) _
            refine XS.icmpYes X8.here hx rfl (pc0 := 25) (pc' := 31) rfl (hb hby d1_25) rfl (feq hc25_10).2 (by decide) (by decide) ?_
            show Steps p.tables e below (T8.setTop (mkF m 31 #[.val (.int p1), .val (.ref b1), .val (.int (8 : Int32)), .val (.int (2 : Int32)), .val (.ref w2)] [])) _
            refine XS.iinc X8.here hx rfl (hb hby d1_31) rfl (l' := #[.val (.int p1), .val (.ref b1), .val (.int (8 : Int32)), .val (.int (3 : Int32)), .val (.ref w2)]) rfl ?_
            show Steps p.tables e below (T8.setTop (mkF m 34 #[.val (.int p1), .val (.ref b1), .val (.int (8 : Int32)), .val (.int (3 : Int32)), .val (.ref w2)] [])) _
            refine XS.goto X8.here hx rfl (pc0 := 34) (pc' := 9) rfl (hb hby d1_34) (by decide) (by decide) ?_
            show Steps p.tables e below (T8.setTop (mkF m 9 #[.val (.int p1), .val (.ref b1), .val (.int (8 : Int32)), .val (.int (3 : Int32)), .val (.ref w2)] [])) _
            refine XS.iloadN X8.here hx rfl (hb hby d1_9) rfl ?_
            show Steps p.tables e below (T8.setTop (mkF m 10 #[.val (.int p1), .val (.ref b1), .val (.int (8 : Int32)), .val (.int (3 : Int32)), .val (.ref w2)] [(.int (3 : Int32))])) _
            refine XS.iloadN X8.here hx rfl (hb hby d1_10) rfl ?_
            show Steps p.tables e below (T8.setTop (mkF m 11 #[.val (.int p1), .val (.ref b1), .val (.int (8 : Int32)), .val (.int (3 : Int32)), .val (.ref w2)] [(.int (8 : Int32)), (.int (3 : Int32))])) _
            refine XS.icmpNo X8.here hx rfl (hb hby d1_11) rfl (tlt (by decide : (3 : Int32) < (8 : Int32))).2.1 ?_
            show Steps p.tables e below (T8.setTop (mkF m 14 #[.val (.int p1), .val (.ref b1), .val (.int (8 : Int32)), .val (.int (3 : Int32)), .val (.ref w2)] [])) _
            refine XS.aloadN X8.here hx rfl (hb hby d1_14) rfl rfl ?_
            show Steps p.tables e below (T8.setTop (mkF m 15 #[.val (.int p1), .val (.ref b1), .val (.int (8 : Int32)), .val (.int (3 : Int32)), .val (.ref w2)] [(.ref b1)])) _
            refine XS.iloadN X8.here hx rfl (hb hby d1_15) rfl ?_
            show Steps p.tables e below (T8.setTop (mkF m 16 #[.val (.int p1), .val (.ref b1), .val (.int (8 : Int32)), .val (.int (3 : Int32)), .val (.ref w2)] [(.int (3 : Int32)), (.ref b1)])) _
            refine X8.aaload hx (j := (3 : Int32)) (v := (.ref w3)) (by rw [e8]; exact Ar.1) (State.isArrayOf_alike hZ.alike Ar.2.1) rfl Ar.2.2 (inb_of Sz ⟨by decide, by decide⟩) (atH Hh (inb_of Sz ⟨by decide, by decide⟩) rfl) (g := (mkF m 16 #[.val (.int p1), .val (.ref b1), .val (.int (8 : Int32)), .val (.int (3 : Int32)), .val (.ref w2)] [(.int (3 : Int32)), (.ref b1)])) rfl rfl (hb hby d1_16) _ ?_
            show Steps p.tables e below (T8.setTop (mkF m 17 #[.val (.int p1), .val (.ref b1), .val (.int (8 : Int32)), .val (.int (3 : Int32)), .val (.ref w2)] [(.ref w3)])) _
            refine XS.astore X8.here hx rfl (hb hby d1_17) rfl rfl (l' := #[.val (.int p1), .val (.ref b1), .val (.int (8 : Int32)), .val (.int (3 : Int32)), .val (.ref w3)]) rfl ?_
            show Steps p.tables e below (T8.setTop (mkF m 19 #[.val (.int p1), .val (.ref b1), .val (.int (8 : Int32)), .val (.int (3 : Int32)), .val (.ref w3)] [])) _
            refine XS.aload X8.here hx rfl (hb hby d1_19) rfl rfl ?_
            show Steps p.tables e below (T8.setTop (mkF m 21 #[.val (.int p1), .val (.ref b1), .val (.int (8 : Int32)), .val (.int (3 : Int32)), .val (.ref w3)] [(.ref w3)])) _
            refine st11 _ ?_
            show Steps p.tables e below (T11.setTop (mkF m 24 #[.val (.int p1), .val (.ref b1), .val (.int (8 : Int32)), .val (.int (3 : Int32)), .val (.ref w3)] [(.int (4 : Int32))])) _
            refine XS.iloadN X11.here hx rfl (hb hby d1_24) rfl ?_
            exact k)
        by_cases hc25_13 : (4 : Int32) = p1
        · obtain ⟨fs, hr, hrun, hended, hW, hsame⟩ := X11.leave (v := some (.ref w3)) (fun h => by rw [Bd.returns] at h; cases h)
          refine ⟨_, _, pre12 _ ?_, hrun, hended, _, _, rfl, ?_, ⟨_, rfl⟩, hW, hsame.mono (by decide) (by decide)⟩
          · show Steps p.tables e below (T11.setTop (mkF m 25 #[.val (.int p1), .val (.ref b1), .val (.int (8 : Int32)), .val (.int (3 : Int32)), .val (.ref w3)] [(.int p1), (.int (4 : Int32))])) _
            refine XS.icmpNo X11.here hx rfl (hb hby d1_25) rfl (teq hc25_13).2 ?_
            show Steps p.tables e below (T11.setTop (mkF m 28 #[.val (.int p1), .val (.ref b1), .val (.int (8 : Int32)), .val (.int (3 : Int32)), .val (.ref w3)] [])) _
            refine XS.aload X11.here hx rfl (hb hby d1_28) rfl rfl ?_
            show Steps p.tables e below (T11.setTop (mkF m 30 #[.val (.int p1), .val (.ref b1), .val (.int (8 : Int32)), .val (.int (3 : Int32)), .val (.ref w3)] [(.ref w3)])) _
            jvm_step X11.here [X11.here.top, hx, (hb hby d1_30), X11.method', Bd.returns, Value.isRef, FieldType.isReference]
            first | (intro acts; rw [hr _ acts rfl rfl rfl]) | rw [hr _ _ rfl rfl rfl]
            exact Steps.refl _
          · show Q_rm1 Z p1 w0 w1 w2 w3 w4 w5 w6 w7 wv kk r h0 n0 _ T11.heap _
            rw [e11]
            exact ⟨by rw [← hpk]; rw [own_kind, if_neg (fun q => hc25_4 q.symm), if_neg (fun q => hc25_7 q.symm), if_neg (fun q => hc25_10 q.symm), if_pos hc25_13.symm], N1, K1_⟩
        · obtain ⟨T14, X14, e14, st14⟩ := getF X11 hx hZ hown (host := "") (Or.inl (hw _ (List.mem_of_getElem? (i := 27) rfl))) Via.refl e11 (F4.ext Ex) (g := (mkF m 21 #[.val (.int p1), .val (.ref b1), .val (.int (8 : Int32)), .val (.int (4 : Int32)), .val (.ref w4)] [(.ref w4)])) rfl rfl (hb hby d1_21)
          have pre15 : ∀ t, Steps p.tables e below (T14.setTop (mkF m 25 #[.val (.int p1), .val (.ref b1), .val (.int (8 : Int32)), .val (.int (4 : Int32)), .val (.ref w4)] [(.int p1), (.int (5 : Int32))])) t → Steps p.tables e below (s₁.setTop (entryFrame m #[(.int p1)] 5)) t := fun t k => pre12 t (by
              show Steps p.tables e below (T11.setTop (mkF m 25 #[.val (.int p1), .val (.ref b1), .val (.int (8 : Int32)), .val (.int (3 : Int32)), .val (.ref w3)] [(.int p1), (.int (4 : Int32))])) _
              refine XS.icmpYes X11.here hx rfl (pc0 := 25) (pc' := 31) rfl (hb hby d1_25) rfl (feq hc25_13).2 (by decide) (by decide) ?_
              show Steps p.tables e below (T11.setTop (mkF m 31 #[.val (.int p1), .val (.ref b1), .val (.int (8 : Int32)), .val (.int (3 : Int32)), .val (.ref w3)] [])) _
              refine XS.iinc X11.here hx rfl (hb hby d1_31) rfl (l' := #[.val (.int p1), .val (.ref b1), .val (.int (8 : Int32)), .val (.int (4 : Int32)), .val (.ref w3)]) rfl ?_
              show Steps p.tables e below (T11.setTop (mkF m 34 #[.val (.int p1), .val (.ref b1), .val (.int (8 : Int32)), .val (.int (4 : Int32)), .val (.ref w3)] [])) _
              refine XS.goto X11.here hx rfl (pc0 := 34) (pc' := 9) rfl (hb hby d1_34) (by decide) (by decide) ?_
              show Steps p.tables e below (T11.setTop (mkF m 9 #[.val (.int p1), .val (.ref b1), .val (.int (8 : Int32)), .val (.int (4 : Int32)), .val (.ref w3)] [])) _
              refine XS.iloadN X11.here hx rfl (hb hby d1_9) rfl ?_
              show Steps p.tables e below (T11.setTop (mkF m 10 #[.val (.int p1), .val (.ref b1), .val (.int (8 : Int32)), .val (.int (4 : Int32)), .val (.ref w3)] [(.int (4 : Int32))])) _
              refine XS.iloadN X11.here hx rfl (hb hby d1_10) rfl ?_
              show Steps p.tables e below (T11.setTop (mkF m 11 #[.val (.int p1), .val (.ref b1), .val (.int (8 : Int32)), .val (.int (4 : Int32)), .val (.ref w3)] [(.int (8 : Int32)), (.int (4 : Int32))])) _
              refine XS.icmpNo X11.here hx rfl (hb hby d1_11) rfl (tlt (by decide : (4 : Int32) < (8 : Int32))).2.1 ?_
              show Steps p.tables e below (T11.setTop (mkF m 14 #[.val (.int p1), .val (.ref b1), .val (.int (8 : Int32)), .val (.int (4 : Int32)), .val (.ref w3)] [])) _
              refine XS.aloadN X11.here hx rfl (hb hby d1_14) rfl rfl ?_
              show Steps p.tables e below (T11.setTop (mkF m 15 #[.val (.int p1), .val (.ref b1), .val (.int (8 : Int32)), .val (.int (4 : Int32)), .val (.ref w3)] [(.ref b1)])) _
              refine XS.iloadN X11.here hx rfl (hb hby d1_15) rfl ?_
              show Steps p.tables e below (T11.setTop (mkF m 16 #[.val (.int p1), .val (.ref b1), .val (.int (8 : Int32)), .val (.int (4 : Int32)), .val (.ref w3)] [(.int (4 : Int32)), (.ref b1)])) _
              refine X11.aaload hx (j := (4 : Int32)) (v := (.ref w4)) (by rw [e11]; exact Ar.1) (State.isArrayOf_alike hZ.alike Ar.2.1) rfl Ar.2.2 (inb_of Sz ⟨by decide, by decide⟩) (atH Hh (inb_of Sz ⟨by decide, by decide⟩) rfl) (g := (mkF m 16 #[.val (.int p1), .val (.ref b1), .val (.int (8 : Int32)), .val (.int (4 : Int32)), .val (.ref w3)] [(.int (4 : Int32)), (.ref b1)])) rfl rfl (hb hby d1_16) _ ?_
              show Steps p.tables e below (T11.setTop (mkF m 17 #[.val (.int p1), .val (.ref b1), .val (.int (8 : Int32)), .val (.int (4 : Int32)), .val (.ref w3)] [(.ref w4)])) _
              refine XS.astore X11.here hx rfl (hb hby d1_17) rfl rfl (l' := #[.val (.int p1), .val (.ref b1), .val (.int (8 : Int32)), .val (.int (4 : Int32)), .val (.ref w4)]) rfl ?_
              show Steps p.tables e below (T11.setTop (mkF m 19 #[.val (.int p1), .val (.ref b1), .val (.int (8 : Int32)), .val (.int (4 : Int32)), .val (.ref w4)] [])) _
              refine XS.aload X11.here hx rfl (hb hby d1_19) rfl rfl ?_
              show Steps p.tables e below (T11.setTop (mkF m 21 #[.val (.int p1), .val (.ref b1), .val (.int (8 : Int32)), .val (.int (4 : Int32)), .val (.ref w4)] [(.ref w4)])) _
              refine st14 _ ?_
              show Steps p.tables e below (T14.setTop (mkF m 24 #[.val (.int p1), .val (.ref b1), .val (.int (8 : Int32)), .val (.int (4 : Int32)), .val (.ref w4)] [(.int (5 : Int32))])) _
              refine XS.iloadN X14.here hx rfl (hb hby d1_24) rfl ?_
              exact k)
          by_cases hc25_16 : (5 : Int32) = p1
          · obtain ⟨fs, hr, hrun, hended, hW, hsame⟩ := X14.leave (v := some (.ref w4)) (fun h => by rw [Bd.returns] at h; cases h)
            refine ⟨_, _, pre15 _ ?_, hrun, hended, _, _, rfl, ?_, ⟨_, rfl⟩, hW, hsame.mono (by decide) (by decide)⟩
            · show Steps p.tables e below (T14.setTop (mkF m 25 #[.val (.int p1), .val (.ref b1), .val (.int (8 : Int32)), .val (.int (4 : Int32)), .val (.ref w4)] [(.int p1), (.int (5 : Int32))])) _
              refine XS.icmpNo X14.here hx rfl (hb hby d1_25) rfl (teq hc25_16).2 ?_
              show Steps p.tables e below (T14.setTop (mkF m 28 #[.val (.int p1), .val (.ref b1), .val (.int (8 : Int32)), .val (.int (4 : Int32)), .val (.ref w4)] [])) _
              refine XS.aload X14.here hx rfl (hb hby d1_28) rfl rfl ?_
              show Steps p.tables e below (T14.setTop (mkF m 30 #[.val (.int p1), .val (.ref b1), .val (.int (8 : Int32)), .val (.int (4 : Int32)), .val (.ref w4)] [(.ref w4)])) _
              jvm_step X14.here [X14.here.top, hx, (hb hby d1_30), X14.method', Bd.returns, Value.isRef, FieldType.isReference]
              first | (intro acts; rw [hr _ acts rfl rfl rfl]) | rw [hr _ _ rfl rfl rfl]
              exact Steps.refl _
            · show Q_rm1 Z p1 w0 w1 w2 w3 w4 w5 w6 w7 wv kk r h0 n0 _ T14.heap _
              rw [e14]
              exact ⟨by rw [← hpk]; rw [own_kind, if_neg (fun q => hc25_4 q.symm), if_neg (fun q => hc25_7 q.symm), if_neg (fun q => hc25_10 q.symm), if_neg (fun q => hc25_13 q.symm), if_pos hc25_16.symm], N1, K1_⟩
          · obtain ⟨T17, X17, e17, st17⟩ := getF X14 hx hZ hown (host := "") (Or.inl (hw _ (List.mem_of_getElem? (i := 27) rfl))) Via.refl e14 (F5.ext Ex) (g := (mkF m 21 #[.val (.int p1), .val (.ref b1), .val (.int (8 : Int32)), .val (.int (5 : Int32)), .val (.ref w5)] [(.ref w5)])) rfl rfl (hb hby d1_21)
            have pre18 : ∀ t, Steps p.tables e below (T17.setTop (mkF m 25 #[.val (.int p1), .val (.ref b1), .val (.int (8 : Int32)), .val (.int (5 : Int32)), .val (.ref w5)] [(.int p1), (.int (6 : Int32))])) t → Steps p.tables e below (s₁.setTop (entryFrame m #[(.int p1)] 5)) t := fun t k => pre15 t (by
                show Steps p.tables e below (T14.setTop (mkF m 25 #[.val (.int p1), .val (.ref b1), .val (.int (8 : Int32)), .val (.int (4 : Int32)), .val (.ref w4)] [(.int p1), (.int (5 : Int32))])) _
                refine XS.icmpYes X14.here hx rfl (pc0 := 25) (pc' := 31) rfl (hb hby d1_25) rfl (feq hc25_16).2 (by decide) (by decide) ?_
                show Steps p.tables e below (T14.setTop (mkF m 31 #[.val (.int p1), .val (.ref b1), .val (.int (8 : Int32)), .val (.int (4 : Int32)), .val (.ref w4)] [])) _
                refine XS.iinc X14.here hx rfl (hb hby d1_31) rfl (l' := #[.val (.int p1), .val (.ref b1), .val (.int (8 : Int32)), .val (.int (5 : Int32)), .val (.ref w4)]) rfl ?_
                show Steps p.tables e below (T14.setTop (mkF m 34 #[.val (.int p1), .val (.ref b1), .val (.int (8 : Int32)), .val (.int (5 : Int32)), .val (.ref w4)] [])) _
                refine XS.goto X14.here hx rfl (pc0 := 34) (pc' := 9) rfl (hb hby d1_34) (by decide) (by decide) ?_
                show Steps p.tables e below (T14.setTop (mkF m 9 #[.val (.int p1), .val (.ref b1), .val (.int (8 : Int32)), .val (.int (5 : Int32)), .val (.ref w4)] [])) _
                refine XS.iloadN X14.here hx rfl (hb hby d1_9) rfl ?_
                show Steps p.tables e below (T14.setTop (mkF m 10 #[.val (.int p1), .val (.ref b1), .val (.int (8 : Int32)), .val (.int (5 : Int32)), .val (.ref w4)] [(.int (5 : Int32))])) _
                refine XS.iloadN X14.here hx rfl (hb hby d1_10) rfl ?_
                show Steps p.tables e below (T14.setTop (mkF m 11 #[.val (.int p1), .val (.ref b1), .val (.int (8 : Int32)), .val (.int (5 : Int32)), .val (.ref w4)] [(.int (8 : Int32)), (.int (5 : Int32))])) _
                refine XS.icmpNo X14.here hx rfl (hb hby d1_11) rfl (tlt (by decide : (5 : Int32) < (8 : Int32))).2.1 ?_
                show Steps p.tables e below (T14.setTop (mkF m 14 #[.val (.int p1), .val (.ref b1), .val (.int (8 : Int32)), .val (.int (5 : Int32)), .val (.ref w4)] [])) _
                refine XS.aloadN X14.here hx rfl (hb hby d1_14) rfl rfl ?_
                show Steps p.tables e below (T14.setTop (mkF m 15 #[.val (.int p1), .val (.ref b1), .val (.int (8 : Int32)), .val (.int (5 : Int32)), .val (.ref w4)] [(.ref b1)])) _
                refine XS.iloadN X14.here hx rfl (hb hby d1_15) rfl ?_
                show Steps p.tables e below (T14.setTop (mkF m 16 #[.val (.int p1), .val (.ref b1), .val (.int (8 : Int32)), .val (.int (5 : Int32)), .val (.ref w4)] [(.int (5 : Int32)), (.ref b1)])) _
                refine X14.aaload hx (j := (5 : Int32)) (v := (.ref w5)) (by rw [e14]; exact Ar.1) (State.isArrayOf_alike hZ.alike Ar.2.1) rfl Ar.2.2 (inb_of Sz ⟨by decide, by decide⟩) (atH Hh (inb_of Sz ⟨by decide, by decide⟩) rfl) (g := (mkF m 16 #[.val (.int p1), .val (.ref b1), .val (.int (8 : Int32)), .val (.int (5 : Int32)), .val (.ref w4)] [(.int (5 : Int32)), (.ref b1)])) rfl rfl (hb hby d1_16) _ ?_
                show Steps p.tables e below (T14.setTop (mkF m 17 #[.val (.int p1), .val (.ref b1), .val (.int (8 : Int32)), .val (.int (5 : Int32)), .val (.ref w4)] [(.ref w5)])) _
                refine XS.astore X14.here hx rfl (hb hby d1_17) rfl rfl (l' := #[.val (.int p1), .val (.ref b1), .val (.int (8 : Int32)), .val (.int (5 : Int32)), .val (.ref w5)]) rfl ?_
                show Steps p.tables e below (T14.setTop (mkF m 19 #[.val (.int p1), .val (.ref b1), .val (.int (8 : Int32)), .val (.int (5 : Int32)), .val (.ref w5)] [])) _
                refine XS.aload X14.here hx rfl (hb hby d1_19) rfl rfl ?_
                show Steps p.tables e below (T14.setTop (mkF m 21 #[.val (.int p1), .val (.ref b1), .val (.int (8 : Int32)), .val (.int (5 : Int32)), .val (.ref w5)] [(.ref w5)])) _
                refine st17 _ ?_
                show Steps p.tables e below (T17.setTop (mkF m 24 #[.val (.int p1), .val (.ref b1), .val (.int (8 : Int32)), .val (.int (5 : Int32)), .val (.ref w5)] [(.int (6 : Int32))])) _
                refine XS.iloadN X17.here hx rfl (hb hby d1_24) rfl ?_
                exact k)
            by_cases hc25_19 : (6 : Int32) = p1
            · obtain ⟨fs, hr, hrun, hended, hW, hsame⟩ := X17.leave (v := some (.ref w5)) (fun h => by rw [Bd.returns] at h; cases h)
              refine ⟨_, _, pre18 _ ?_, hrun, hended, _, _, rfl, ?_, ⟨_, rfl⟩, hW, hsame.mono (by decide) (by decide)⟩
              · show Steps p.tables e below (T17.setTop (mkF m 25 #[.val (.int p1), .val (.ref b1), .val (.int (8 : Int32)), .val (.int (5 : Int32)), .val (.ref w5)] [(.int p1), (.int (6 : Int32))])) _
                refine XS.icmpNo X17.here hx rfl (hb hby d1_25) rfl (teq hc25_19).2 ?_
                show Steps p.tables e below (T17.setTop (mkF m 28 #[.val (.int p1), .val (.ref b1), .val (.int (8 : Int32)), .val (.int (5 : Int32)), .val (.ref w5)] [])) _
                refine XS.aload X17.here hx rfl (hb hby d1_28) rfl rfl ?_
                show Steps p.tables e below (T17.setTop (mkF m 30 #[.val (.int p1), .val (.ref b1), .val (.int (8 : Int32)), .val (.int (5 : Int32)), .val (.ref w5)] [(.ref w5)])) _
                jvm_step X17.here [X17.here.top, hx, (hb hby d1_30), X17.method', Bd.returns, Value.isRef, FieldType.isReference]
                first | (intro acts; rw [hr _ acts rfl rfl rfl]) | rw [hr _ _ rfl rfl rfl]
                exact Steps.refl _
              · show Q_rm1 Z p1 w0 w1 w2 w3 w4 w5 w6 w7 wv kk r h0 n0 _ T17.heap _
                rw [e17]
                exact ⟨by rw [← hpk]; rw [own_kind, if_neg (fun q => hc25_4 q.symm), if_neg (fun q => hc25_7 q.symm), if_neg (fun q => hc25_10 q.symm), if_neg (fun q => hc25_13 q.symm), if_neg (fun q => hc25_16 q.symm), if_pos hc25_19.symm], N1, K1_⟩
            · obtain ⟨T20, X20, e20, st20⟩ := getF X17 hx hZ hown (host := "") (Or.inl (hw _ (List.mem_of_getElem? (i := 27) rfl))) Via.refl e17 (F6.ext Ex) (g := (mkF m 21 #[.val (.int p1), .val (.ref b1), .val (.int (8 : Int32)), .val (.int (6 : Int32)), .val (.ref w6)] [(.ref w6)])) rfl rfl (hb hby d1_21)
              have pre21 : ∀ t, Steps p.tables e below (T20.setTop (mkF m 25 #[.val (.int p1), .val (.ref b1), .val (.int (8 : Int32)), .val (.int (6 : Int32)), .val (.ref w6)] [(.int p1), (.int (7 : Int32))])) t → Steps p.tables e below (s₁.setTop (entryFrame m #[(.int p1)] 5)) t := fun t k => pre18 t (by
                  show Steps p.tables e below (T17.setTop (mkF m 25 #[.val (.int p1), .val (.ref b1), .val (.int (8 : Int32)), .val (.int (5 : Int32)), .val (.ref w5)] [(.int p1), (.int (6 : Int32))])) _
                  refine XS.icmpYes X17.here hx rfl (pc0 := 25) (pc' := 31) rfl (hb hby d1_25) rfl (feq hc25_19).2 (by decide) (by decide) ?_
                  show Steps p.tables e below (T17.setTop (mkF m 31 #[.val (.int p1), .val (.ref b1), .val (.int (8 : Int32)), .val (.int (5 : Int32)), .val (.ref w5)] [])) _
                  refine XS.iinc X17.here hx rfl (hb hby d1_31) rfl (l' := #[.val (.int p1), .val (.ref b1), .val (.int (8 : Int32)), .val (.int (6 : Int32)), .val (.ref w5)]) rfl ?_
                  show Steps p.tables e below (T17.setTop (mkF m 34 #[.val (.int p1), .val (.ref b1), .val (.int (8 : Int32)), .val (.int (6 : Int32)), .val (.ref w5)] [])) _
                  refine XS.goto X17.here hx rfl (pc0 := 34) (pc' := 9) rfl (hb hby d1_34) (by decide) (by decide) ?_
                  show Steps p.tables e below (T17.setTop (mkF m 9 #[.val (.int p1), .val (.ref b1), .val (.int (8 : Int32)), .val (.int (6 : Int32)), .val (.ref w5)] [])) _
                  refine XS.iloadN X17.here hx rfl (hb hby d1_9) rfl ?_
                  show Steps p.tables e below (T17.setTop (mkF m 10 #[.val (.int p1), .val (.ref b1), .val (.int (8 : Int32)), .val (.int (6 : Int32)), .val (.ref w5)] [(.int (6 : Int32))])) _
                  refine XS.iloadN X17.here hx rfl (hb hby d1_10) rfl ?_
                  show Steps p.tables e below (T17.setTop (mkF m 11 #[.val (.int p1), .val (.ref b1), .val (.int (8 : Int32)), .val (.int (6 : Int32)), .val (.ref w5)] [(.int (8 : Int32)), (.int (6 : Int32))])) _
                  refine XS.icmpNo X17.here hx rfl (hb hby d1_11) rfl (tlt (by decide : (6 : Int32) < (8 : Int32))).2.1 ?_
                  show Steps p.tables e below (T17.setTop (mkF m 14 #[.val (.int p1), .val (.ref b1), .val (.int (8 : Int32)), .val (.int (6 : Int32)), .val (.ref w5)] [])) _
                  refine XS.aloadN X17.here hx rfl (hb hby d1_14) rfl rfl ?_
                  show Steps p.tables e below (T17.setTop (mkF m 15 #[.val (.int p1), .val (.ref b1), .val (.int (8 : Int32)), .val (.int (6 : Int32)), .val (.ref w5)] [(.ref b1)])) _
                  refine XS.iloadN X17.here hx rfl (hb hby d1_15) rfl ?_
                  show Steps p.tables e below (T17.setTop (mkF m 16 #[.val (.int p1), .val (.ref b1), .val (.int (8 : Int32)), .val (.int (6 : Int32)), .val (.ref w5)] [(.int (6 : Int32)), (.ref b1)])) _
                  refine X17.aaload hx (j := (6 : Int32)) (v := (.ref w6)) (by rw [e17]; exact Ar.1) (State.isArrayOf_alike hZ.alike Ar.2.1) rfl Ar.2.2 (inb_of Sz ⟨by decide, by decide⟩) (atH Hh (inb_of Sz ⟨by decide, by decide⟩) rfl) (g := (mkF m 16 #[.val (.int p1), .val (.ref b1), .val (.int (8 : Int32)), .val (.int (6 : Int32)), .val (.ref w5)] [(.int (6 : Int32)), (.ref b1)])) rfl rfl (hb hby d1_16) _ ?_
                  show Steps p.tables e below (T17.setTop (mkF m 17 #[.val (.int p1), .val (.ref b1), .val (.int (8 : Int32)), .val (.int (6 : Int32)), .val (.ref w5)] [(.ref w6)])) _
                  refine XS.astore X17.here hx rfl (hb hby d1_17) rfl rfl (l' := #[.val (.int p1), .val (.ref b1), .val (.int (8 : Int32)), .val (.int (6 : Int32)), .val (.ref w6)]) rfl ?_
                  show Steps p.tables e below (T17.setTop (mkF m 19 #[.val (.int p1), .val (.ref b1), .val (.int (8 : Int32)), .val (.int (6 : Int32)), .val (.ref w6)] [])) _
                  refine XS.aload X17.here hx rfl (hb hby d1_19) rfl rfl ?_
                  show Steps p.tables e below (T17.setTop (mkF m 21 #[.val (.int p1), .val (.ref b1), .val (.int (8 : Int32)), .val (.int (6 : Int32)), .val (.ref w6)] [(.ref w6)])) _
                  refine st20 _ ?_
                  show Steps p.tables e below (T20.setTop (mkF m 24 #[.val (.int p1), .val (.ref b1), .val (.int (8 : Int32)), .val (.int (6 : Int32)), .val (.ref w6)] [(.int (7 : Int32))])) _
                  refine XS.iloadN X20.here hx rfl (hb hby d1_24) rfl ?_
                  exact k)
              by_cases hc25_22 : (7 : Int32) = p1
              · obtain ⟨fs, hr, hrun, hended, hW, hsame⟩ := X20.leave (v := some (.ref w6)) (fun h => by rw [Bd.returns] at h; cases h)
                refine ⟨_, _, pre21 _ ?_, hrun, hended, _, _, rfl, ?_, ⟨_, rfl⟩, hW, hsame.mono (by decide) (by decide)⟩
                · show Steps p.tables e below (T20.setTop (mkF m 25 #[.val (.int p1), .val (.ref b1), .val (.int (8 : Int32)), .val (.int (6 : Int32)), .val (.ref w6)] [(.int p1), (.int (7 : Int32))])) _
                  refine XS.icmpNo X20.here hx rfl (hb hby d1_25) rfl (teq hc25_22).2 ?_
                  show Steps p.tables e below (T20.setTop (mkF m 28 #[.val (.int p1), .val (.ref b1), .val (.int (8 : Int32)), .val (.int (6 : Int32)), .val (.ref w6)] [])) _
                  refine XS.aload X20.here hx rfl (hb hby d1_28) rfl rfl ?_
                  show Steps p.tables e below (T20.setTop (mkF m 30 #[.val (.int p1), .val (.ref b1), .val (.int (8 : Int32)), .val (.int (6 : Int32)), .val (.ref w6)] [(.ref w6)])) _
                  jvm_step X20.here [X20.here.top, hx, (hb hby d1_30), X20.method', Bd.returns, Value.isRef, FieldType.isReference]
                  first | (intro acts; rw [hr _ acts rfl rfl rfl]) | rw [hr _ _ rfl rfl rfl]
                  exact Steps.refl _
                · show Q_rm1 Z p1 w0 w1 w2 w3 w4 w5 w6 w7 wv kk r h0 n0 _ T20.heap _
                  rw [e20]
                  exact ⟨by rw [← hpk]; rw [own_kind, if_neg (fun q => hc25_4 q.symm), if_neg (fun q => hc25_7 q.symm), if_neg (fun q => hc25_10 q.symm), if_neg (fun q => hc25_13 q.symm), if_neg (fun q => hc25_16 q.symm), if_neg (fun q => hc25_19 q.symm), if_pos hc25_22.symm], N1, K1_⟩
              · obtain ⟨T23, X23, e23, st23⟩ := getF X20 hx hZ hown (host := "") (Or.inl (hw _ (List.mem_of_getElem? (i := 27) rfl))) Via.refl e20 (F7.ext Ex) (g := (mkF m 21 #[.val (.int p1), .val (.ref b1), .val (.int (8 : Int32)), .val (.int (7 : Int32)), .val (.ref w7)] [(.ref w7)])) rfl rfl (hb hby d1_21)
                have pre24 : ∀ t, Steps p.tables e below (T23.setTop (mkF m 25 #[.val (.int p1), .val (.ref b1), .val (.int (8 : Int32)), .val (.int (7 : Int32)), .val (.ref w7)] [(.int p1), (.int (8 : Int32))])) t → Steps p.tables e below (s₁.setTop (entryFrame m #[(.int p1)] 5)) t := fun t k => pre21 t (by
                    show Steps p.tables e below (T20.setTop (mkF m 25 #[.val (.int p1), .val (.ref b1), .val (.int (8 : Int32)), .val (.int (6 : Int32)), .val (.ref w6)] [(.int p1), (.int (7 : Int32))])) _
                    refine XS.icmpYes X20.here hx rfl (pc0 := 25) (pc' := 31) rfl (hb hby d1_25) rfl (feq hc25_22).2 (by decide) (by decide) ?_
                    show Steps p.tables e below (T20.setTop (mkF m 31 #[.val (.int p1), .val (.ref b1), .val (.int (8 : Int32)), .val (.int (6 : Int32)), .val (.ref w6)] [])) _
                    refine XS.iinc X20.here hx rfl (hb hby d1_31) rfl (l' := #[.val (.int p1), .val (.ref b1), .val (.int (8 : Int32)), .val (.int (7 : Int32)), .val (.ref w6)]) rfl ?_
                    show Steps p.tables e below (T20.setTop (mkF m 34 #[.val (.int p1), .val (.ref b1), .val (.int (8 : Int32)), .val (.int (7 : Int32)), .val (.ref w6)] [])) _
                    refine XS.goto X20.here hx rfl (pc0 := 34) (pc' := 9) rfl (hb hby d1_34) (by decide) (by decide) ?_
                    show Steps p.tables e below (T20.setTop (mkF m 9 #[.val (.int p1), .val (.ref b1), .val (.int (8 : Int32)), .val (.int (7 : Int32)), .val (.ref w6)] [])) _
                    refine XS.iloadN X20.here hx rfl (hb hby d1_9) rfl ?_
                    show Steps p.tables e below (T20.setTop (mkF m 10 #[.val (.int p1), .val (.ref b1), .val (.int (8 : Int32)), .val (.int (7 : Int32)), .val (.ref w6)] [(.int (7 : Int32))])) _
                    refine XS.iloadN X20.here hx rfl (hb hby d1_10) rfl ?_
                    show Steps p.tables e below (T20.setTop (mkF m 11 #[.val (.int p1), .val (.ref b1), .val (.int (8 : Int32)), .val (.int (7 : Int32)), .val (.ref w6)] [(.int (8 : Int32)), (.int (7 : Int32))])) _
                    refine XS.icmpNo X20.here hx rfl (hb hby d1_11) rfl (tlt (by decide : (7 : Int32) < (8 : Int32))).2.1 ?_
                    show Steps p.tables e below (T20.setTop (mkF m 14 #[.val (.int p1), .val (.ref b1), .val (.int (8 : Int32)), .val (.int (7 : Int32)), .val (.ref w6)] [])) _
                    refine XS.aloadN X20.here hx rfl (hb hby d1_14) rfl rfl ?_
                    show Steps p.tables e below (T20.setTop (mkF m 15 #[.val (.int p1), .val (.ref b1), .val (.int (8 : Int32)), .val (.int (7 : Int32)), .val (.ref w6)] [(.ref b1)])) _
                    refine XS.iloadN X20.here hx rfl (hb hby d1_15) rfl ?_
                    show Steps p.tables e below (T20.setTop (mkF m 16 #[.val (.int p1), .val (.ref b1), .val (.int (8 : Int32)), .val (.int (7 : Int32)), .val (.ref w6)] [(.int (7 : Int32)), (.ref b1)])) _
                    refine X20.aaload hx (j := (7 : Int32)) (v := (.ref w7)) (by rw [e20]; exact Ar.1) (State.isArrayOf_alike hZ.alike Ar.2.1) rfl Ar.2.2 (inb_of Sz ⟨by decide, by decide⟩) (atH Hh (inb_of Sz ⟨by decide, by decide⟩) rfl) (g := (mkF m 16 #[.val (.int p1), .val (.ref b1), .val (.int (8 : Int32)), .val (.int (7 : Int32)), .val (.ref w6)] [(.int (7 : Int32)), (.ref b1)])) rfl rfl (hb hby d1_16) _ ?_
                    show Steps p.tables e below (T20.setTop (mkF m 17 #[.val (.int p1), .val (.ref b1), .val (.int (8 : Int32)), .val (.int (7 : Int32)), .val (.ref w6)] [(.ref w7)])) _
                    refine XS.astore X20.here hx rfl (hb hby d1_17) rfl rfl (l' := #[.val (.int p1), .val (.ref b1), .val (.int (8 : Int32)), .val (.int (7 : Int32)), .val (.ref w7)]) rfl ?_
                    show Steps p.tables e below (T20.setTop (mkF m 19 #[.val (.int p1), .val (.ref b1), .val (.int (8 : Int32)), .val (.int (7 : Int32)), .val (.ref w7)] [])) _
                    refine XS.aload X20.here hx rfl (hb hby d1_19) rfl rfl ?_
                    show Steps p.tables e below (T20.setTop (mkF m 21 #[.val (.int p1), .val (.ref b1), .val (.int (8 : Int32)), .val (.int (7 : Int32)), .val (.ref w7)] [(.ref w7)])) _
                    refine st23 _ ?_
                    show Steps p.tables e below (T23.setTop (mkF m 24 #[.val (.int p1), .val (.ref b1), .val (.int (8 : Int32)), .val (.int (7 : Int32)), .val (.ref w7)] [(.int (8 : Int32))])) _
                    refine XS.iloadN X23.here hx rfl (hb hby d1_24) rfl ?_
                    exact k)
                by_cases hc25_25 : (8 : Int32) = p1
                · obtain ⟨fs, hr, hrun, hended, hW, hsame⟩ := X23.leave (v := some (.ref w7)) (fun h => by rw [Bd.returns] at h; cases h)
                  refine ⟨_, _, pre24 _ ?_, hrun, hended, _, _, rfl, ?_, ⟨_, rfl⟩, hW, hsame.mono (by decide) (by decide)⟩
                  · show Steps p.tables e below (T23.setTop (mkF m 25 #[.val (.int p1), .val (.ref b1), .val (.int (8 : Int32)), .val (.int (7 : Int32)), .val (.ref w7)] [(.int p1), (.int (8 : Int32))])) _
                    refine XS.icmpNo X23.here hx rfl (hb hby d1_25) rfl (teq hc25_25).2 ?_
                    show Steps p.tables e below (T23.setTop (mkF m 28 #[.val (.int p1), .val (.ref b1), .val (.int (8 : Int32)), .val (.int (7 : Int32)), .val (.ref w7)] [])) _
                    refine XS.aload X23.here hx rfl (hb hby d1_28) rfl rfl ?_
                    show Steps p.tables e below (T23.setTop (mkF m 30 #[.val (.int p1), .val (.ref b1), .val (.int (8 : Int32)), .val (.int (7 : Int32)), .val (.ref w7)] [(.ref w7)])) _
                    jvm_step X23.here [X23.here.top, hx, (hb hby d1_30), X23.method', Bd.returns, Value.isRef, FieldType.isReference]
                    first | (intro acts; rw [hr _ acts rfl rfl rfl]) | rw [hr _ _ rfl rfl rfl]
                    exact Steps.refl _
                  · show Q_rm1 Z p1 w0 w1 w2 w3 w4 w5 w6 w7 wv kk r h0 n0 _ T23.heap _
                    rw [e23]
                    exact ⟨by rw [← hpk]; rw [own_kind, if_neg (fun q => hc25_4 q.symm), if_neg (fun q => hc25_7 q.symm), if_neg (fun q => hc25_10 q.symm), if_neg (fun q => hc25_13 q.symm), if_neg (fun q => hc25_16 q.symm), if_neg (fun q => hc25_19 q.symm), if_neg (fun q => hc25_22 q.symm), if_pos hc25_25.symm], N1, K1_⟩
                · obtain ⟨fs, hr, hrun, hended, hW, hsame⟩ := X23.leave (v := some .null) (fun h => by rw [Bd.returns] at h; cases h)
                  refine ⟨_, _, pre24 _ ?_, hrun, hended, _, _, rfl, ?_, ⟨_, rfl⟩, hW, hsame.mono (by decide) (by decide)⟩
                  · show Steps p.tables e below (T23.setTop (mkF m 25 #[.val (.int p1), .val (.ref b1), .val (.int (8 : Int32)), .val (.int (7 : Int32)), .val (.ref w7)] [(.int p1), (.int (8 : Int32))])) _
                    refine XS.icmpYes X23.here hx rfl (pc0 := 25) (pc' := 31) rfl (hb hby d1_25) rfl (feq hc25_25).2 (by decide) (by decide) ?_
                    show Steps p.tables e below (T23.setTop (mkF m 31 #[.val (.int p1), .val (.ref b1), .val (.int (8 : Int32)), .val (.int (7 : Int32)), .val (.ref w7)] [])) _
                    refine XS.iinc X23.here hx rfl (hb hby d1_31) rfl (l' := #[.val (.int p1), .val (.ref b1), .val (.int (8 : Int32)), .val (.int (8 : Int32)), .val (.ref w7)]) rfl ?_
                    show Steps p.tables e below (T23.setTop (mkF m 34 #[.val (.int p1), .val (.ref b1), .val (.int (8 : Int32)), .val (.int (8 : Int32)), .val (.ref w7)] [])) _
                    refine XS.goto X23.here hx rfl (pc0 := 34) (pc' := 9) rfl (hb hby d1_34) (by decide) (by decide) ?_
                    show Steps p.tables e below (T23.setTop (mkF m 9 #[.val (.int p1), .val (.ref b1), .val (.int (8 : Int32)), .val (.int (8 : Int32)), .val (.ref w7)] [])) _
                    refine XS.iloadN X23.here hx rfl (hb hby d1_9) rfl ?_
                    show Steps p.tables e below (T23.setTop (mkF m 10 #[.val (.int p1), .val (.ref b1), .val (.int (8 : Int32)), .val (.int (8 : Int32)), .val (.ref w7)] [(.int (8 : Int32))])) _
                    refine XS.iloadN X23.here hx rfl (hb hby d1_10) rfl ?_
                    show Steps p.tables e below (T23.setTop (mkF m 11 #[.val (.int p1), .val (.ref b1), .val (.int (8 : Int32)), .val (.int (8 : Int32)), .val (.ref w7)] [(.int (8 : Int32)), (.int (8 : Int32))])) _
                    refine XS.icmpYes X23.here hx rfl (pc0 := 11) (pc' := 37) rfl (hb hby d1_11) rfl (flt (by decide : ¬ ((8 : Int32) < (8 : Int32)))).2.1 (by decide) (by decide) ?_
                    show Steps p.tables e below (T23.setTop (mkF m 37 #[.val (.int p1), .val (.ref b1), .val (.int (8 : Int32)), .val (.int (8 : Int32)), .val (.ref w7)] [])) _
                    refine XS.aconstNull X23.here hx rfl (hb hby d1_37) ?_
                    show Steps p.tables e below (T23.setTop (mkF m 38 #[.val (.int p1), .val (.ref b1), .val (.int (8 : Int32)), .val (.int (8 : Int32)), .val (.ref w7)] [.null])) _
                    jvm_step X23.here [X23.here.top, hx, (hb hby d1_38), X23.method', Bd.returns, Value.isRef, FieldType.isReference]
                    first | (intro acts; rw [hr _ acts rfl rfl rfl]) | rw [hr _ _ rfl rfl rfl]
                    exact Steps.refl _
                  · show Q_rm1 Z p1 w0 w1 w2 w3 w4 w5 w6 w7 wv kk r h0 n0 _ T23.heap _
                    rw [e23]
                    exact ⟨by rw [← hpk]; rw [own_kind, if_neg (fun q => hc25_4 q.symm), if_neg (fun q => hc25_7 q.symm), if_neg (fun q => hc25_10 q.symm), if_neg (fun q => hc25_13 q.symm), if_neg (fun q => hc25_16 q.symm), if_neg (fun q => hc25_19 q.symm), if_neg (fun q => hc25_22 q.symm), if_neg (fun q => hc25_25 q.symm)], N1, K1_⟩
theorem d3_0 : decode method_2_code 0 = .ok (.iload_n 0, 1) := by decide +kernel
theorem d3_1 : decode method_2_code 1 = .ok (.iconst 1, 1) := by decide +kernel
theorem d3_2 : decode method_2_code 2 = .ok (.if_icmp .ne 7, 3) := by decide +kernel
theorem d3_5 : decode method_2_code 5 = .ok (.getstatic 7, 3) := by decide +kernel
theorem d3_8 : decode method_2_code 8 = .ok (.areturn, 1) := by decide +kernel
theorem d3_9 : decode method_2_code 9 = .ok (.iload_n 0, 1) := by decide +kernel
theorem d3_10 : decode method_2_code 10 = .ok (.iconst 2, 1) := by decide +kernel
theorem d3_11 : decode method_2_code 11 = .ok (.if_icmp .ne 7, 3) := by decide +kernel
theorem d3_14 : decode method_2_code 14 = .ok (.getstatic 13, 3) := by decide +kernel
theorem d3_17 : decode method_2_code 17 = .ok (.areturn, 1) := by decide +kernel
theorem d3_18 : decode method_2_code 18 = .ok (.iload_n 0, 1) := by decide +kernel
theorem d3_19 : decode method_2_code 19 = .ok (.iconst 3, 1) := by decide +kernel
theorem d3_20 : decode method_2_code 20 = .ok (.if_icmp .ne 7, 3) := by decide +kernel
theorem d3_23 : decode method_2_code 23 = .ok (.getstatic 16, 3) := by decide +kernel
theorem d3_26 : decode method_2_code 26 = .ok (.areturn, 1) := by decide +kernel
theorem d3_27 : decode method_2_code 27 = .ok (.iload_n 0, 1) := by decide +kernel
theorem d3_28 : decode method_2_code 28 = .ok (.iconst 4, 1) := by decide +kernel
theorem d3_29 : decode method_2_code 29 = .ok (.if_icmp .ne 7, 3) := by decide +kernel
theorem d3_32 : decode method_2_code 32 = .ok (.getstatic 19, 3) := by decide +kernel
theorem d3_35 : decode method_2_code 35 = .ok (.areturn, 1) := by decide +kernel
theorem d3_36 : decode method_2_code 36 = .ok (.iload_n 0, 1) := by decide +kernel
theorem d3_37 : decode method_2_code 37 = .ok (.iconst 5, 1) := by decide +kernel
theorem d3_38 : decode method_2_code 38 = .ok (.if_icmp .ne 7, 3) := by decide +kernel
theorem d3_41 : decode method_2_code 41 = .ok (.getstatic 22, 3) := by decide +kernel
theorem d3_44 : decode method_2_code 44 = .ok (.areturn, 1) := by decide +kernel
theorem d3_45 : decode method_2_code 45 = .ok (.iload_n 0, 1) := by decide +kernel
theorem d3_46 : decode method_2_code 46 = .ok (.bipush 6, 2) := by decide +kernel
theorem d3_48 : decode method_2_code 48 = .ok (.if_icmp .ne 7, 3) := by decide +kernel
theorem d3_51 : decode method_2_code 51 = .ok (.getstatic 25, 3) := by decide +kernel
theorem d3_54 : decode method_2_code 54 = .ok (.areturn, 1) := by decide +kernel
theorem d3_55 : decode method_2_code 55 = .ok (.iload_n 0, 1) := by decide +kernel
theorem d3_56 : decode method_2_code 56 = .ok (.bipush 7, 2) := by decide +kernel
theorem d3_58 : decode method_2_code 58 = .ok (.if_icmp .ne 7, 3) := by decide +kernel
theorem d3_61 : decode method_2_code 61 = .ok (.getstatic 28, 3) := by decide +kernel
theorem d3_64 : decode method_2_code 64 = .ok (.areturn, 1) := by decide +kernel
theorem d3_65 : decode method_2_code 65 = .ok (.iload_n 0, 1) := by decide +kernel
theorem d3_66 : decode method_2_code 66 = .ok (.bipush 8, 2) := by decide +kernel
theorem d3_68 : decode method_2_code 68 = .ok (.if_icmp .ne 7, 3) := by decide +kernel
theorem d3_71 : decode method_2_code 71 = .ok (.getstatic 31, 3) := by decide +kernel
theorem d3_74 : decode method_2_code 74 = .ok (.areturn, 1) := by decide +kernel
theorem d3_75 : decode method_2_code 75 = .ok (.aconst_null, 1) := by decide +kernel
theorem d3_76 : decode method_2_code 76 = .ok (.areturn, 1) := by decide +kernel
theorem pn_1 : plainName "com/example/curtaincall/curtaincall/rpc/KindOfPinLaw" = true := by first | (simp [plainName, overriddenIn]; done) | decide +kernel
theorem ef_3 (m : MethodId) (x0 : Int32) : entryFrame m #[(.int x0)] 1 = mkF m 0 #[.val (.int x0)] [] := by first | (simp [entryFrame, mkF, argsToLocals, Value.category]; done) | rfl
set_option maxRecDepth 65536 in
set_option maxHeartbeats 40000000 in
theorem rm3 (l : Launch) (Z : State) (a0 : Array Value) (hw : ∀ d ∈ tables_1, d.before a0 Z = true) (ws : List Jvm.Cond) (p1 : Int32) (w0 w1 w2 w3 w4 w5 w6 w7 : Addr) (r : Value) (h0 : Heap) (n0 : Nat) (Z0 : n0 ≤ h0.size) (S0 : Sta Z h0 "com/example/curtaincall/curtaincall/rpc/Frame$Kind" "CALL" "Lcom/example/curtaincall/curtaincall/rpc/Frame$Kind;" (.ref w0)) (S1 : Sta Z h0 "com/example/curtaincall/curtaincall/rpc/Frame$Kind" "ANSWER" "Lcom/example/curtaincall/curtaincall/rpc/Frame$Kind;" (.ref w1)) (S2 : Sta Z h0 "com/example/curtaincall/curtaincall/rpc/Frame$Kind" "ERROR" "Lcom/example/curtaincall/curtaincall/rpc/Frame$Kind;" (.ref w2)) (S3 : Sta Z h0 "com/example/curtaincall/curtaincall/rpc/Frame$Kind" "READY" "Lcom/example/curtaincall/curtaincall/rpc/Frame$Kind;" (.ref w3)) (S4 : Sta Z h0 "com/example/curtaincall/curtaincall/rpc/Frame$Kind" "STOPPING" "Lcom/example/curtaincall/curtaincall/rpc/Frame$Kind;" (.ref w4)) (S5 : Sta Z h0 "com/example/curtaincall/curtaincall/rpc/Frame$Kind" "DONE_SENDING" "Lcom/example/curtaincall/curtaincall/rpc/Frame$Kind;" (.ref w5)) (S6 : Sta Z h0 "com/example/curtaincall/curtaincall/rpc/Frame$Kind" "PING" "Lcom/example/curtaincall/curtaincall/rpc/Frame$Kind;" (.ref w6)) (S7 : Sta Z h0 "com/example/curtaincall/curtaincall/rpc/Frame$Kind" "PONG" "Lcom/example/curtaincall/curtaincall/rpc/Frame$Kind;" (.ref w7)) (hpk : own_kind p1 w0 w1 w2 w3 w4 w5 w6 w7 = r) :
    MetFree l (⟨"com/example/curtaincall/curtaincall/rpc/KindOfPinLaw", "expected", "(I)Lcom/example/curtaincall/curtaincall/rpc/Frame$Kind;"⟩ : MethodName) (head1 (Jvm.Cond.code (⟨"com/example/curtaincall/curtaincall/rpc/KindOfPinLaw", "expected", "(I)Lcom/example/curtaincall/curtaincall/rpc/Frame$Kind;"⟩ : MethodName) method_2_code 1 (some (.object "com/example/curtaincall/curtaincall/rpc/Frame$Kind")) :: ws) ({ frames := 0, cells := 0, slots := 0, locals := 0 } : Room)) (fun a U => a = #[(.int p1)] ∧ Z.Warmed39 U.vm ∧ U.heap = h0) (fun _ _ _ _ _ => True) (fun _ U o U' => ∃ v L, o = .returned v ∧ (QV r h0 n0 v U'.heap L) ∧ FrameEnd U o U' L ({ frames := 0, cells := 0, slots := 0, locals := 0 } : Room).cells ({ frames := 0, cells := 0, slots := 0, locals := 0 } : Room).slots) := by
  refine MetFree.of_bodySF (plainFor_of_name pn_1) hisR ?_
  intro p e s m args below meth c s₁ Bd hml0 hP hK
  obtain ⟨rfl, hZ, hh⟩ := hP
  have hx := Bd.exec
  have hby := Bd.bytes
  have hml : c.maxLocals = 1 := hml0
  have hown : s.vm.findClass "com/example/curtaincall/curtaincall/rpc/KindOfPinLaw" = some m.cls := findClass_of_methodNamed Bd.named
  have hnm := (name_of_methodNamed Bd.named Bd.method).1
  have X0 : Stand p l e ({ frames := 0, cells := 0, slots := 0, locals := 0 } : Room) s m #[(.int p1)] below meth c s₁ [] 0 0 := Stand.of_body Bd
  have e0 : s₁.heap = h0 := by rw [← hh, Bd.state]; rfl
  have N0 := Fr.nil n0
  have pre0 : ∀ t, Steps p.tables e below (s₁.setTop (mkF m 0 #[.val (.int p1)] [])) t → Steps p.tables e below (s₁.setTop (entryFrame m #[(.int p1)] 1)) t := fun t k => castTop (ef_3 m p1) k
  have pre1 : ∀ t, Steps p.tables e below (s₁.setTop (mkF m 2 #[.val (.int p1)] [(.int (1 : Int32)), (.int p1)])) t → Steps p.tables e below (s₁.setTop (entryFrame m #[(.int p1)] 1)) t := fun t k => pre0 t (by
      show Steps p.tables e below (s₁.setTop (mkF m 0 #[.val (.int p1)] [])) _
      refine XS.iloadN X0.here hx rfl (hb hby d3_0) rfl ?_
      show Steps p.tables e below (s₁.setTop (mkF m 1 #[.val (.int p1)] [(.int p1)])) _
      refine XS.iconst X0.here hx rfl (hb hby d3_1) ?_
      exact k)
  by_cases hc2_2 : p1 = (1 : Int32)
  · obtain ⟨T3, X3, e3, st3⟩ := getS2 X0 hx hZ hown (host := "") (Or.inl (hw _ (List.mem_of_getElem? (i := 37) rfl))) Via.refl e0 S0 (g := (mkF m 5 #[.val (.int p1)] [])) rfl (hb hby d3_5)
    obtain ⟨fs, hr, hrun, hended, hW, hsame⟩ := X3.leave (v := some (.ref w0)) (fun h => by rw [Bd.returns] at h; cases h)
    refine ⟨_, _, pre1 _ ?_, hrun, hended, _, _, rfl, ?_, ⟨_, rfl⟩, hW, hsame.mono (by decide) (by decide)⟩
    · show Steps p.tables e below (s₁.setTop (mkF m 2 #[.val (.int p1)] [(.int (1 : Int32)), (.int p1)])) _
      refine XS.icmpNo X0.here hx rfl (hb hby d3_2) rfl (teq hc2_2).2 ?_
      show Steps p.tables e below (s₁.setTop (mkF m 5 #[.val (.int p1)] [])) _
      refine st3 _ ?_
      show Steps p.tables e below (T3.setTop (mkF m 8 #[.val (.int p1)] [(.ref w0)])) _
      jvm_step X3.here [X3.here.top, hx, (hb hby d3_8), X3.method', Bd.returns, Value.isRef, FieldType.isReference]
      first | (intro acts; rw [hr _ acts rfl rfl rfl]) | rw [hr _ _ rfl rfl rfl]
      exact Steps.refl _
    · show QV r h0 n0 _ T3.heap _
      rw [e3]
      exact ⟨by rw [← hpk]; rw [own_kind, if_pos hc2_2], N0, rfl⟩
  · have pre4 : ∀ t, Steps p.tables e below (s₁.setTop (mkF m 11 #[.val (.int p1)] [(.int (2 : Int32)), (.int p1)])) t → Steps p.tables e below (s₁.setTop (entryFrame m #[(.int p1)] 1)) t := fun t k => pre1 t (by
        show Steps p.tables e below (s₁.setTop (mkF m 2 #[.val (.int p1)] [(.int (1 : Int32)), (.int p1)])) _
        refine XS.icmpYes X0.here hx rfl (pc0 := 2) (pc' := 9) rfl (hb hby d3_2) rfl (feq hc2_2).2 (by decide) (by decide) ?_
        show Steps p.tables e below (s₁.setTop (mkF m 9 #[.val (.int p1)] [])) _
        refine XS.iloadN X0.here hx rfl (hb hby d3_9) rfl ?_
        show Steps p.tables e below (s₁.setTop (mkF m 10 #[.val (.int p1)] [(.int p1)])) _
        refine XS.iconst X0.here hx rfl (hb hby d3_10) ?_
        exact k)
    by_cases hc11_5 : p1 = (2 : Int32)
    · obtain ⟨T6, X6, e6, st6⟩ := getS2 X0 hx hZ hown (host := "") (Or.inl (hw _ (List.mem_of_getElem? (i := 35) rfl))) Via.refl e0 S1 (g := (mkF m 14 #[.val (.int p1)] [])) rfl (hb hby d3_14)
      obtain ⟨fs, hr, hrun, hended, hW, hsame⟩ := X6.leave (v := some (.ref w1)) (fun h => by rw [Bd.returns] at h; cases h)
      refine ⟨_, _, pre4 _ ?_, hrun, hended, _, _, rfl, ?_, ⟨_, rfl⟩, hW, hsame.mono (by decide) (by decide)⟩
      · show Steps p.tables e below (s₁.setTop (mkF m 11 #[.val (.int p1)] [(.int (2 : Int32)), (.int p1)])) _
        refine XS.icmpNo X0.here hx rfl (hb hby d3_11) rfl (teq hc11_5).2 ?_
        show Steps p.tables e below (s₁.setTop (mkF m 14 #[.val (.int p1)] [])) _
        refine st6 _ ?_
        show Steps p.tables e below (T6.setTop (mkF m 17 #[.val (.int p1)] [(.ref w1)])) _
        jvm_step X6.here [X6.here.top, hx, (hb hby d3_17), X6.method', Bd.returns, Value.isRef, FieldType.isReference]
        first | (intro acts; rw [hr _ acts rfl rfl rfl]) | rw [hr _ _ rfl rfl rfl]
        exact Steps.refl _
      · show QV r h0 n0 _ T6.heap _
        rw [e6]
        exact ⟨by rw [← hpk]; rw [own_kind, if_neg hc2_2, if_pos hc11_5], N0, rfl⟩
    · have pre7 : ∀ t, Steps p.tables e below (s₁.setTop (mkF m 20 #[.val (.int p1)] [(.int (3 : Int32)), (.int p1)])) t → Steps p.tables e below (s₁.setTop (entryFrame m #[(.int p1)] 1)) t := fun t k => pre4 t (by
          show Steps p.tables e below (s₁.setTop (mkF m 11 #[.val (.int p1)] [(.int (2 : Int32)), (.int p1)])) _
          refine XS.icmpYes X0.here hx rfl (pc0 := 11) (pc' := 18) rfl (hb hby d3_11) rfl (feq hc11_5).2 (by decide) (by decide) ?_
          show Steps p.tables e below (s₁.setTop (mkF m 18 #[.val (.int p1)] [])) _
          refine XS.iloadN X0.here hx rfl (hb hby d3_18) rfl ?_
          show Steps p.tables e below (s₁.setTop (mkF m 19 #[.val (.int p1)] [(.int p1)])) _
          refine XS.iconst X0.here hx rfl (hb hby d3_19) ?_
          exact k)
      by_cases hc20_8 : p1 = (3 : Int32)
      · obtain ⟨T9, X9, e9, st9⟩ := getS2 X0 hx hZ hown (host := "") (Or.inl (hw _ (List.mem_of_getElem? (i := 41) rfl))) Via.refl e0 S2 (g := (mkF m 23 #[.val (.int p1)] [])) rfl (hb hby d3_23)
        obtain ⟨fs, hr, hrun, hended, hW, hsame⟩ := X9.leave (v := some (.ref w2)) (fun h => by rw [Bd.returns] at h; cases h)
        refine ⟨_, _, pre7 _ ?_, hrun, hended, _, _, rfl, ?_, ⟨_, rfl⟩, hW, hsame.mono (by decide) (by decide)⟩
        · show Steps p.tables e below (s₁.setTop (mkF m 20 #[.val (.int p1)] [(.int (3 : Int32)), (.int p1)])) _
          refine XS.icmpNo X0.here hx rfl (hb hby d3_20) rfl (teq hc20_8).2 ?_
          show Steps p.tables e below (s₁.setTop (mkF m 23 #[.val (.int p1)] [])) _
          refine st9 _ ?_
          show Steps p.tables e below (T9.setTop (mkF m 26 #[.val (.int p1)] [(.ref w2)])) _
          jvm_step X9.here [X9.here.top, hx, (hb hby d3_26), X9.method', Bd.returns, Value.isRef, FieldType.isReference]
          first | (intro acts; rw [hr _ acts rfl rfl rfl]) | rw [hr _ _ rfl rfl rfl]
          exact Steps.refl _
        · show QV r h0 n0 _ T9.heap _
          rw [e9]
          exact ⟨by rw [← hpk]; rw [own_kind, if_neg hc2_2, if_neg hc11_5, if_pos hc20_8], N0, rfl⟩
      · have pre10 : ∀ t, Steps p.tables e below (s₁.setTop (mkF m 29 #[.val (.int p1)] [(.int (4 : Int32)), (.int p1)])) t → Steps p.tables e below (s₁.setTop (entryFrame m #[(.int p1)] 1)) t := fun t k => pre7 t (by
            show Steps p.tables e below (s₁.setTop (mkF m 20 #[.val (.int p1)] [(.int (3 : Int32)), (.int p1)])) _
            refine XS.icmpYes X0.here hx rfl (pc0 := 20) (pc' := 27) rfl (hb hby d3_20) rfl (feq hc20_8).2 (by decide) (by decide) ?_
            show Steps p.tables e below (s₁.setTop (mkF m 27 #[.val (.int p1)] [])) _
            refine XS.iloadN X0.here hx rfl (hb hby d3_27) rfl ?_
            show Steps p.tables e below (s₁.setTop (mkF m 28 #[.val (.int p1)] [(.int p1)])) _
            refine XS.iconst X0.here hx rfl (hb hby d3_28) ?_
            exact k)
        by_cases hc29_11 : p1 = (4 : Int32)
        · obtain ⟨T12, X12, e12, st12⟩ := getS2 X0 hx hZ hown (host := "") (Or.inl (hw _ (List.mem_of_getElem? (i := 33) rfl))) Via.refl e0 S3 (g := (mkF m 32 #[.val (.int p1)] [])) rfl (hb hby d3_32)
          obtain ⟨fs, hr, hrun, hended, hW, hsame⟩ := X12.leave (v := some (.ref w3)) (fun h => by rw [Bd.returns] at h; cases h)
          refine ⟨_, _, pre10 _ ?_, hrun, hended, _, _, rfl, ?_, ⟨_, rfl⟩, hW, hsame.mono (by decide) (by decide)⟩
          · show Steps p.tables e below (s₁.setTop (mkF m 29 #[.val (.int p1)] [(.int (4 : Int32)), (.int p1)])) _
            refine XS.icmpNo X0.here hx rfl (hb hby d3_29) rfl (teq hc29_11).2 ?_
            show Steps p.tables e below (s₁.setTop (mkF m 32 #[.val (.int p1)] [])) _
            refine st12 _ ?_
            show Steps p.tables e below (T12.setTop (mkF m 35 #[.val (.int p1)] [(.ref w3)])) _
            jvm_step X12.here [X12.here.top, hx, (hb hby d3_35), X12.method', Bd.returns, Value.isRef, FieldType.isReference]
            first | (intro acts; rw [hr _ acts rfl rfl rfl]) | rw [hr _ _ rfl rfl rfl]
            exact Steps.refl _
          · show QV r h0 n0 _ T12.heap _
            rw [e12]
            exact ⟨by rw [← hpk]; rw [own_kind, if_neg hc2_2, if_neg hc11_5, if_neg hc20_8, if_pos hc29_11], N0, rfl⟩
        · have pre13 : ∀ t, Steps p.tables e below (s₁.setTop (mkF m 38 #[.val (.int p1)] [(.int (5 : Int32)), (.int p1)])) t → Steps p.tables e below (s₁.setTop (entryFrame m #[(.int p1)] 1)) t := fun t k => pre10 t (by
              show Steps p.tables e below (s₁.setTop (mkF m 29 #[.val (.int p1)] [(.int (4 : Int32)), (.int p1)])) _
              refine XS.icmpYes X0.here hx rfl (pc0 := 29) (pc' := 36) rfl (hb hby d3_29) rfl (feq hc29_11).2 (by decide) (by decide) ?_
              show Steps p.tables e below (s₁.setTop (mkF m 36 #[.val (.int p1)] [])) _
              refine XS.iloadN X0.here hx rfl (hb hby d3_36) rfl ?_
              show Steps p.tables e below (s₁.setTop (mkF m 37 #[.val (.int p1)] [(.int p1)])) _
              refine XS.iconst X0.here hx rfl (hb hby d3_37) ?_
              exact k)
          by_cases hc38_14 : p1 = (5 : Int32)
          · obtain ⟨T15, X15, e15, st15⟩ := getS2 X0 hx hZ hown (host := "") (Or.inl (hw _ (List.mem_of_getElem? (i := 36) rfl))) Via.refl e0 S4 (g := (mkF m 41 #[.val (.int p1)] [])) rfl (hb hby d3_41)
            obtain ⟨fs, hr, hrun, hended, hW, hsame⟩ := X15.leave (v := some (.ref w4)) (fun h => by rw [Bd.returns] at h; cases h)
            refine ⟨_, _, pre13 _ ?_, hrun, hended, _, _, rfl, ?_, ⟨_, rfl⟩, hW, hsame.mono (by decide) (by decide)⟩
            · show Steps p.tables e below (s₁.setTop (mkF m 38 #[.val (.int p1)] [(.int (5 : Int32)), (.int p1)])) _
              refine XS.icmpNo X0.here hx rfl (hb hby d3_38) rfl (teq hc38_14).2 ?_
              show Steps p.tables e below (s₁.setTop (mkF m 41 #[.val (.int p1)] [])) _
              refine st15 _ ?_
              show Steps p.tables e below (T15.setTop (mkF m 44 #[.val (.int p1)] [(.ref w4)])) _
              jvm_step X15.here [X15.here.top, hx, (hb hby d3_44), X15.method', Bd.returns, Value.isRef, FieldType.isReference]
              first | (intro acts; rw [hr _ acts rfl rfl rfl]) | rw [hr _ _ rfl rfl rfl]
              exact Steps.refl _
            · show QV r h0 n0 _ T15.heap _
              rw [e15]
              exact ⟨by rw [← hpk]; rw [own_kind, if_neg hc2_2, if_neg hc11_5, if_neg hc20_8, if_neg hc29_11, if_pos hc38_14], N0, rfl⟩
          · have pre16 : ∀ t, Steps p.tables e below (s₁.setTop (mkF m 48 #[.val (.int p1)] [(.int (6 : Int32)), (.int p1)])) t → Steps p.tables e below (s₁.setTop (entryFrame m #[(.int p1)] 1)) t := fun t k => pre13 t (by
                show Steps p.tables e below (s₁.setTop (mkF m 38 #[.val (.int p1)] [(.int (5 : Int32)), (.int p1)])) _
                refine XS.icmpYes X0.here hx rfl (pc0 := 38) (pc' := 45) rfl (hb hby d3_38) rfl (feq hc38_14).2 (by decide) (by decide) ?_
                show Steps p.tables e below (s₁.setTop (mkF m 45 #[.val (.int p1)] [])) _
                refine XS.iloadN X0.here hx rfl (hb hby d3_45) rfl ?_
                show Steps p.tables e below (s₁.setTop (mkF m 46 #[.val (.int p1)] [(.int p1)])) _
                refine XS.bipush X0.here hx rfl (hb hby d3_46) ?_
                exact k)
            by_cases hc48_17 : p1 = (6 : Int32)
            · obtain ⟨T18, X18, e18, st18⟩ := getS2 X0 hx hZ hown (host := "") (Or.inl (hw _ (List.mem_of_getElem? (i := 38) rfl))) Via.refl e0 S5 (g := (mkF m 51 #[.val (.int p1)] [])) rfl (hb hby d3_51)
              obtain ⟨fs, hr, hrun, hended, hW, hsame⟩ := X18.leave (v := some (.ref w5)) (fun h => by rw [Bd.returns] at h; cases h)
              refine ⟨_, _, pre16 _ ?_, hrun, hended, _, _, rfl, ?_, ⟨_, rfl⟩, hW, hsame.mono (by decide) (by decide)⟩
              · show Steps p.tables e below (s₁.setTop (mkF m 48 #[.val (.int p1)] [(.int (6 : Int32)), (.int p1)])) _
                refine XS.icmpNo X0.here hx rfl (hb hby d3_48) rfl (teq hc48_17).2 ?_
                show Steps p.tables e below (s₁.setTop (mkF m 51 #[.val (.int p1)] [])) _
                refine st18 _ ?_
                show Steps p.tables e below (T18.setTop (mkF m 54 #[.val (.int p1)] [(.ref w5)])) _
                jvm_step X18.here [X18.here.top, hx, (hb hby d3_54), X18.method', Bd.returns, Value.isRef, FieldType.isReference]
                first | (intro acts; rw [hr _ acts rfl rfl rfl]) | rw [hr _ _ rfl rfl rfl]
                exact Steps.refl _
              · show QV r h0 n0 _ T18.heap _
                rw [e18]
                exact ⟨by rw [← hpk]; rw [own_kind, if_neg hc2_2, if_neg hc11_5, if_neg hc20_8, if_neg hc29_11, if_neg hc38_14, if_pos hc48_17], N0, rfl⟩
            · have pre19 : ∀ t, Steps p.tables e below (s₁.setTop (mkF m 58 #[.val (.int p1)] [(.int (7 : Int32)), (.int p1)])) t → Steps p.tables e below (s₁.setTop (entryFrame m #[(.int p1)] 1)) t := fun t k => pre16 t (by
                  show Steps p.tables e below (s₁.setTop (mkF m 48 #[.val (.int p1)] [(.int (6 : Int32)), (.int p1)])) _
                  refine XS.icmpYes X0.here hx rfl (pc0 := 48) (pc' := 55) rfl (hb hby d3_48) rfl (feq hc48_17).2 (by decide) (by decide) ?_
                  show Steps p.tables e below (s₁.setTop (mkF m 55 #[.val (.int p1)] [])) _
                  refine XS.iloadN X0.here hx rfl (hb hby d3_55) rfl ?_
                  show Steps p.tables e below (s₁.setTop (mkF m 56 #[.val (.int p1)] [(.int p1)])) _
                  refine XS.bipush X0.here hx rfl (hb hby d3_56) ?_
                  exact k)
              by_cases hc58_20 : p1 = (7 : Int32)
              · obtain ⟨T21, X21, e21, st21⟩ := getS2 X0 hx hZ hown (host := "") (Or.inl (hw _ (List.mem_of_getElem? (i := 40) rfl))) Via.refl e0 S6 (g := (mkF m 61 #[.val (.int p1)] [])) rfl (hb hby d3_61)
                obtain ⟨fs, hr, hrun, hended, hW, hsame⟩ := X21.leave (v := some (.ref w6)) (fun h => by rw [Bd.returns] at h; cases h)
                refine ⟨_, _, pre19 _ ?_, hrun, hended, _, _, rfl, ?_, ⟨_, rfl⟩, hW, hsame.mono (by decide) (by decide)⟩
                · show Steps p.tables e below (s₁.setTop (mkF m 58 #[.val (.int p1)] [(.int (7 : Int32)), (.int p1)])) _
                  refine XS.icmpNo X0.here hx rfl (hb hby d3_58) rfl (teq hc58_20).2 ?_
                  show Steps p.tables e below (s₁.setTop (mkF m 61 #[.val (.int p1)] [])) _
                  refine st21 _ ?_
                  show Steps p.tables e below (T21.setTop (mkF m 64 #[.val (.int p1)] [(.ref w6)])) _
                  jvm_step X21.here [X21.here.top, hx, (hb hby d3_64), X21.method', Bd.returns, Value.isRef, FieldType.isReference]
                  first | (intro acts; rw [hr _ acts rfl rfl rfl]) | rw [hr _ _ rfl rfl rfl]
                  exact Steps.refl _
                · show QV r h0 n0 _ T21.heap _
                  rw [e21]
                  exact ⟨by rw [← hpk]; rw [own_kind, if_neg hc2_2, if_neg hc11_5, if_neg hc20_8, if_neg hc29_11, if_neg hc38_14, if_neg hc48_17, if_pos hc58_20], N0, rfl⟩
              · have pre22 : ∀ t, Steps p.tables e below (s₁.setTop (mkF m 68 #[.val (.int p1)] [(.int (8 : Int32)), (.int p1)])) t → Steps p.tables e below (s₁.setTop (entryFrame m #[(.int p1)] 1)) t := fun t k => pre19 t (by
                    show Steps p.tables e below (s₁.setTop (mkF m 58 #[.val (.int p1)] [(.int (7 : Int32)), (.int p1)])) _
                    refine XS.icmpYes X0.here hx rfl (pc0 := 58) (pc' := 65) rfl (hb hby d3_58) rfl (feq hc58_20).2 (by decide) (by decide) ?_
                    show Steps p.tables e below (s₁.setTop (mkF m 65 #[.val (.int p1)] [])) _
                    refine XS.iloadN X0.here hx rfl (hb hby d3_65) rfl ?_
                    show Steps p.tables e below (s₁.setTop (mkF m 66 #[.val (.int p1)] [(.int p1)])) _
                    refine XS.bipush X0.here hx rfl (hb hby d3_66) ?_
                    exact k)
                by_cases hc68_23 : p1 = (8 : Int32)
                · obtain ⟨T24, X24, e24, st24⟩ := getS2 X0 hx hZ hown (host := "") (Or.inl (hw _ (List.mem_of_getElem? (i := 39) rfl))) Via.refl e0 S7 (g := (mkF m 71 #[.val (.int p1)] [])) rfl (hb hby d3_71)
                  obtain ⟨fs, hr, hrun, hended, hW, hsame⟩ := X24.leave (v := some (.ref w7)) (fun h => by rw [Bd.returns] at h; cases h)
                  refine ⟨_, _, pre22 _ ?_, hrun, hended, _, _, rfl, ?_, ⟨_, rfl⟩, hW, hsame.mono (by decide) (by decide)⟩
                  · show Steps p.tables e below (s₁.setTop (mkF m 68 #[.val (.int p1)] [(.int (8 : Int32)), (.int p1)])) _
                    refine XS.icmpNo X0.here hx rfl (hb hby d3_68) rfl (teq hc68_23).2 ?_
                    show Steps p.tables e below (s₁.setTop (mkF m 71 #[.val (.int p1)] [])) _
                    refine st24 _ ?_
                    show Steps p.tables e below (T24.setTop (mkF m 74 #[.val (.int p1)] [(.ref w7)])) _
                    jvm_step X24.here [X24.here.top, hx, (hb hby d3_74), X24.method', Bd.returns, Value.isRef, FieldType.isReference]
                    first | (intro acts; rw [hr _ acts rfl rfl rfl]) | rw [hr _ _ rfl rfl rfl]
                    exact Steps.refl _
                  · show QV r h0 n0 _ T24.heap _
                    rw [e24]
                    exact ⟨by rw [← hpk]; rw [own_kind, if_neg hc2_2, if_neg hc11_5, if_neg hc20_8, if_neg hc29_11, if_neg hc38_14, if_neg hc48_17, if_neg hc58_20, if_pos hc68_23], N0, rfl⟩
                · obtain ⟨fs, hr, hrun, hended, hW, hsame⟩ := X0.leave (v := some .null) (fun h => by rw [Bd.returns] at h; cases h)
                  refine ⟨_, _, pre22 _ ?_, hrun, hended, _, _, rfl, ?_, ⟨_, rfl⟩, hW, hsame.mono (by decide) (by decide)⟩
                  · show Steps p.tables e below (s₁.setTop (mkF m 68 #[.val (.int p1)] [(.int (8 : Int32)), (.int p1)])) _
                    refine XS.icmpYes X0.here hx rfl (pc0 := 68) (pc' := 75) rfl (hb hby d3_68) rfl (feq hc68_23).2 (by decide) (by decide) ?_
                    show Steps p.tables e below (s₁.setTop (mkF m 75 #[.val (.int p1)] [])) _
                    refine XS.aconstNull X0.here hx rfl (hb hby d3_75) ?_
                    show Steps p.tables e below (s₁.setTop (mkF m 76 #[.val (.int p1)] [.null])) _
                    jvm_step X0.here [X0.here.top, hx, (hb hby d3_76), X0.method', Bd.returns, Value.isRef, FieldType.isReference]
                    first | (intro acts; rw [hr _ acts rfl rfl rfl]) | rw [hr _ _ rfl rfl rfl]
                    exact Steps.refl _
                  · show QV r h0 n0 _ s₁.heap _
                    rw [e0]
                    exact ⟨by rw [← hpk]; rw [own_kind, if_neg hc2_2, if_neg hc11_5, if_neg hc20_8, if_neg hc29_11, if_neg hc38_14, if_neg hc48_17, if_neg hc58_20, if_neg hc68_23], N0, rfl⟩
theorem ef_0 (m : MethodId) (x0 : Int32) (x1 : Int32) : entryFrame m #[(.int x0), (.int x1)] maxLocals = mkF m 0 #[.val (.int x0), .val (.int x1), .unset, .unset, .unset] [] := by first | (simp [entryFrame, mkF, argsToLocals, Value.category, maxLocals]; done) | rfl
def Q_rm0_null (Z : State) (p1 : Int32) (p2 : Int32) (w0 w1 w2 w3 w4 w5 w6 w7 wv rb : Addr) (kk : ClassId) (h0 : Heap) (n0 : Nat) (v : Option Value) (h : Heap) (L : List Loc) : Prop := v = some (Value.int 1) ∧ Fr n0 L
theorem pd_1 : parseMethodDescriptor "(I)Lcom/example/curtaincall/curtaincall/rpc/Frame$Kind;" = some ⟨[.int], some (.object "com/example/curtaincall/curtaincall/rpc/Frame$Kind")⟩ := by decide +kernel
set_option maxRecDepth 65536 in
set_option maxHeartbeats 40000000 in
theorem rm0_null (l : Launch) (Z : State) (a0 : Array Value) (hw : ∀ d ∈ tables_1, d.before a0 Z = true) (ws : List Jvm.Cond) (p1 : Int32) (p2 : Int32) (w0 w1 w2 w3 w4 w5 w6 w7 wv rb : Addr) (kk : ClassId) (h0 : Heap) (n0 : Nat) (Z0 : n0 ≤ h0.size) (O0 : Old Z n0 h0) (SV : Sta Z Z.heap "com/example/curtaincall/curtaincall/rpc/Frame$Kind" "$VALUES" "[Lcom/example/curtaincall/curtaincall/rpc/Frame$Kind;" (.ref wv)) (AV : Arh Z Z.heap wv kk (.object "com/example/curtaincall/curtaincall/rpc/Frame$Kind") (8 : Int32) [] [(.ref w0), (.ref w1), (.ref w2), (.ref w3), (.ref w4), (.ref w5), (.ref w6), (.ref w7)] .null) (EV : Exa Z Z.heap wv "[Lcom/example/curtaincall/curtaincall/rpc/Frame$Kind;") (S0 : Sta Z Z.heap "com/example/curtaincall/curtaincall/rpc/Frame$Kind" "CALL" "Lcom/example/curtaincall/curtaincall/rpc/Frame$Kind;" (.ref w0)) (S1 : Sta Z Z.heap "com/example/curtaincall/curtaincall/rpc/Frame$Kind" "ANSWER" "Lcom/example/curtaincall/curtaincall/rpc/Frame$Kind;" (.ref w1)) (S2 : Sta Z Z.heap "com/example/curtaincall/curtaincall/rpc/Frame$Kind" "ERROR" "Lcom/example/curtaincall/curtaincall/rpc/Frame$Kind;" (.ref w2)) (S3 : Sta Z Z.heap "com/example/curtaincall/curtaincall/rpc/Frame$Kind" "READY" "Lcom/example/curtaincall/curtaincall/rpc/Frame$Kind;" (.ref w3)) (S4 : Sta Z Z.heap "com/example/curtaincall/curtaincall/rpc/Frame$Kind" "STOPPING" "Lcom/example/curtaincall/curtaincall/rpc/Frame$Kind;" (.ref w4)) (S5 : Sta Z Z.heap "com/example/curtaincall/curtaincall/rpc/Frame$Kind" "DONE_SENDING" "Lcom/example/curtaincall/curtaincall/rpc/Frame$Kind;" (.ref w5)) (S6 : Sta Z Z.heap "com/example/curtaincall/curtaincall/rpc/Frame$Kind" "PING" "Lcom/example/curtaincall/curtaincall/rpc/Frame$Kind;" (.ref w6)) (S7 : Sta Z Z.heap "com/example/curtaincall/curtaincall/rpc/Frame$Kind" "PONG" "Lcom/example/curtaincall/curtaincall/rpc/Frame$Kind;" (.ref w7)) (F0 : Fld Z Z.heap w0 "com/example/curtaincall/curtaincall/rpc/Frame$Kind" "code" "I" (.int (1 : Int32))) (F1 : Fld Z Z.heap w1 "com/example/curtaincall/curtaincall/rpc/Frame$Kind" "code" "I" (.int (2 : Int32))) (F2 : Fld Z Z.heap w2 "com/example/curtaincall/curtaincall/rpc/Frame$Kind" "code" "I" (.int (3 : Int32))) (F3 : Fld Z Z.heap w3 "com/example/curtaincall/curtaincall/rpc/Frame$Kind" "code" "I" (.int (4 : Int32))) (F4 : Fld Z Z.heap w4 "com/example/curtaincall/curtaincall/rpc/Frame$Kind" "code" "I" (.int (5 : Int32))) (F5 : Fld Z Z.heap w5 "com/example/curtaincall/curtaincall/rpc/Frame$Kind" "code" "I" (.int (6 : Int32))) (F6 : Fld Z Z.heap w6 "com/example/curtaincall/curtaincall/rpc/Frame$Kind" "code" "I" (.int (7 : Int32))) (F7 : Fld Z Z.heap w7 "com/example/curtaincall/curtaincall/rpc/Frame$Kind" "code" "I" (.int (8 : Int32))) (hpa : own_kind p1 w0 w1 w2 w3 w4 w5 w6 w7 = .null) (hpb : own_kind ((p2 &&& (7 : Int32)) + (1 : Int32)) w0 w1 w2 w3 w4 w5 w6 w7 = .ref rb) (FB : Fld Z Z.heap rb "com/example/curtaincall/curtaincall/rpc/Frame$Kind" "code" "I" (.int ((p2 &&& (7 : Int32)) + (1 : Int32)))) :
    MetFree l x (head1 (Jvm.Cond.code x code maxLocals ret :: ws) room_1) (fun a U => a = #[(.int p1), (.int p2)] ∧ Z.Warmed39 U.vm ∧ U.heap = h0) (fun _ _ _ _ _ => True) (fun _ U o U' => ∃ v L, o = .returned v ∧ (Q_rm0_null Z p1 p2 w0 w1 w2 w3 w4 w5 w6 w7 wv rb kk h0 n0 v U'.heap L) ∧ FrameEnd U o U' L room_1.cells room_1.slots) := by
  refine MetFree.of_bodySF (plainFor_of_name pn_1) hisR ?_
  intro p e s m args below meth c s₁ Bd hml0 hP hK
  obtain ⟨rfl, hZ, hh⟩ := hP
  have hx := Bd.exec
  have hby := Bd.bytes
  have hml : c.maxLocals = 5 := hml0
  have hown : s.vm.findClass "com/example/curtaincall/curtaincall/rpc/KindOfPinLaw" = some m.cls := findClass_of_methodNamed Bd.named
  have hnm := (name_of_methodNamed Bd.named Bd.method).1
  have X0 : Stand p l e room_1 s m #[(.int p1), (.int p2)] below meth c s₁ [] 0 0 := Stand.of_body Bd
  have e0 : s₁.heap = h0 := by rw [← hh, Bd.state]; rfl
  have N0 := Fr.nil n0
  have pre0 : ∀ t, Steps p.tables e below (s₁.setTop (mkF m 0 #[.val (.int p1), .val (.int p2), .unset, .unset, .unset] [])) t → Steps p.tables e below (s₁.setTop (entryFrame m #[(.int p1), (.int p2)] maxLocals)) t := fun t k => castTop (ef_0 m p1 p2) k
  obtain ⟨_, _, ⟨T1, L1, k1, n1⟩, -, X1, ⟨Lc1, hQ1, l1, y1, z1⟩, st1⟩ := Jvm.LawKit.callS X0 hx (y := (⟨"com/example/curtaincall/curtaincall/rpc/Frame$Kind", "of", "(I)Lcom/example/curtaincall/curtaincall/rpc/Frame$Kind;"⟩ : MethodName)) hown (mvT hZ (hw _ (List.mem_of_getElem? (i := 0) rfl))) (mvT hZ (hw _ (List.mem_of_getElem? (i := 1) rfl))) (mvT hZ (hw _ (List.mem_of_getElem? (i := 2) rfl))) (mvT hZ (hw _ (List.mem_of_getElem? (i := 3) rfl))) (by decide) (backOf (W := 0) (rm1 l Z a0 hw [] p1 w0 w1 w2 w3 w4 w5 w6 w7 wv kk .null h0 n0 Z0 (SV.ext O0.2) (AV.ext O0.2) (EV.ext O0.2) (F0.ext O0.2) (F1.ext O0.2) (F2.ext O0.2) (F3.ext O0.2) (F4.ext O0.2) (F5.ext O0.2) (F6.ext O0.2) (F7.ext O0.2) hpa) hZ (hw _ (List.mem_of_getElem? (i := 3) rfl)) (hw _ (List.mem_of_getElem? (i := 2) rfl)) (by decide) (by decide)) (g := (mkF m 8 #[.val (.int p1), .val (.int p2), .val (.int ((p2 &&& (7 : Int32)) + (1 : Int32))), .unset, .unset] [(.int p1)])) rfl (by rw [hml]; rfl) (argsL := [(.int p1)]) (rest := []) (lenOf pd_1 rfl) rfl (by show 2 * 0 + _ ≤ _; exact Nat.le_of_eq rfl) (hb hby at_8) (fun _ _ => ⟨rfl, e0, (by decide : 0 + 1 ≤ _), (by decide : 0 + 8 ≤ _)⟩)
  dsimp only [Pt.U, Pt.locs, Pt.cells, Pt.slots] at X1 l1 y1 z1 st1 hQ1
  subst l1 y1 z1
  obtain ⟨rfl, N1q, K1⟩ := hQ1
  have N1 := Fr.app N0 N1q
  have O1 := O0.keep K1 all0
  have K1_ : Keep h0 T1.heap [] := (Keep.refl h0 []).trans K1 all0
  have z1_ : n0 ≤ (T1.heap).size := Nat.le_trans Z0 K1.1
  obtain ⟨_, _, ⟨T2, L2, k2, n2⟩, -, X2, ⟨Lc2, hQ2, l2, y2, z2⟩, st2⟩ := Jvm.LawKit.callS X1 hx (y := (⟨"com/example/curtaincall/curtaincall/rpc/Frame$Kind", "of", "(I)Lcom/example/curtaincall/curtaincall/rpc/Frame$Kind;"⟩ : MethodName)) hown (mvT hZ (hw _ (List.mem_of_getElem? (i := 0) rfl))) (mvT hZ (hw _ (List.mem_of_getElem? (i := 1) rfl))) (mvT hZ (hw _ (List.mem_of_getElem? (i := 2) rfl))) (mvT hZ (hw _ (List.mem_of_getElem? (i := 3) rfl))) (by decide) (backOf (W := 0) (rm1 l Z a0 hw [] ((p2 &&& (7 : Int32)) + (1 : Int32)) w0 w1 w2 w3 w4 w5 w6 w7 wv kk (.ref rb) T1.heap n0 z1_ (SV.ext O1.2) (AV.ext O1.2) (EV.ext O1.2) (F0.ext O1.2) (F1.ext O1.2) (F2.ext O1.2) (F3.ext O1.2) (F4.ext O1.2) (F5.ext O1.2) (F6.ext O1.2) (F7.ext O1.2) hpb) hZ (hw _ (List.mem_of_getElem? (i := 3) rfl)) (hw _ (List.mem_of_getElem? (i := 2) rfl)) (by decide) (by decide)) (g := (mkF m 13 #[.val (.int p1), .val (.int p2), .val (.int ((p2 &&& (7 : Int32)) + (1 : Int32))), .val .null, .unset] [(.int ((p2 &&& (7 : Int32)) + (1 : Int32)))])) rfl (by rw [hml]; rfl) (argsL := [(.int ((p2 &&& (7 : Int32)) + (1 : Int32)))]) (rest := []) (lenOf pd_1 rfl) rfl (by show 2 * 0 + _ ≤ _; exact Nat.le_of_eq rfl) (hb hby at_13) (fun _ _ => ⟨rfl, rfl, (by decide : 1 + 1 ≤ _), (by decide : 8 + 8 ≤ _)⟩)
  dsimp only [Pt.U, Pt.locs, Pt.cells, Pt.slots] at X2 l2 y2 z2 st2 hQ2
  subst l2 y2 z2
  obtain ⟨rfl, N2q, K2⟩ := hQ2
  have N2 := Fr.app N1 N2q
  have O2 := O1.keep K2 all0
  have K2_ : Keep h0 T2.heap [] := K1_.trans K2 all0
  have z2_ : n0 ≤ (T2.heap).size := Nat.le_trans z1_ K2.1
  obtain ⟨_, _, ⟨T3, L3, k3, n3⟩, -, X3, ⟨Lc3, hQ3, l3, y3, z3⟩, st3⟩ := Jvm.LawKit.callS X2 hx (y := (⟨"com/example/curtaincall/curtaincall/rpc/KindOfPinLaw", "expected", "(I)Lcom/example/curtaincall/curtaincall/rpc/Frame$Kind;"⟩ : MethodName)) hown (mvT hZ (hw _ (List.mem_of_getElem? (i := 29) rfl))) (mvT hZ (hw _ (List.mem_of_getElem? (i := 30) rfl))) (mvT hZ (hw _ (List.mem_of_getElem? (i := 31) rfl))) (mvT hZ (hw _ (List.mem_of_getElem? (i := 32) rfl))) (by decide) (backOf (W := 1) (rm3 l Z a0 hw [] p1 w0 w1 w2 w3 w4 w5 w6 w7 .null T2.heap n0 z2_ (S0.ext O2.2) (S1.ext O2.2) (S2.ext O2.2) (S3.ext O2.2) (S4.ext O2.2) (S5.ext O2.2) (S6.ext O2.2) (S7.ext O2.2) hpa) hZ (hw _ (List.mem_of_getElem? (i := 32) rfl)) (hw _ (List.mem_of_getElem? (i := 31) rfl)) (by decide) (by decide)) (g := (mkF m 20 #[.val (.int p1), .val (.int p2), .val (.int ((p2 &&& (7 : Int32)) + (1 : Int32))), .val .null, .val (.ref rb)] [(.int p1), .null])) rfl (by rw [hml]; rfl) (argsL := [(.int p1)]) (rest := [.null]) (lenOf pd_1 rfl) rfl (by show 2 * 0 + _ ≤ _; exact Nat.le_of_eq rfl) (hb hby at_20) (fun _ _ => ⟨rfl, rfl, (by decide : 2 + 0 ≤ _), (by decide : 16 + 0 ≤ _)⟩)
  dsimp only [Pt.U, Pt.locs, Pt.cells, Pt.slots] at X3 l3 y3 z3 st3 hQ3
  subst l3 y3 z3
  obtain ⟨rfl, N3q, e3⟩ := hQ3
  have N3 := Fr.app N2 N3q
  obtain ⟨_, _, ⟨T4, L4, k4, n4⟩, -, X4, ⟨Lc4, hQ4, l4, y4, z4⟩, st4⟩ := Jvm.LawKit.callS X3 hx (y := (⟨"com/example/curtaincall/curtaincall/rpc/KindOfPinLaw", "expected", "(I)Lcom/example/curtaincall/curtaincall/rpc/Frame$Kind;"⟩ : MethodName)) hown (mvT hZ (hw _ (List.mem_of_getElem? (i := 29) rfl))) (mvT hZ (hw _ (List.mem_of_getElem? (i := 30) rfl))) (mvT hZ (hw _ (List.mem_of_getElem? (i := 31) rfl))) (mvT hZ (hw _ (List.mem_of_getElem? (i := 32) rfl))) (by decide) (backOf (W := 1) (rm3 l Z a0 hw [] ((p2 &&& (7 : Int32)) + (1 : Int32)) w0 w1 w2 w3 w4 w5 w6 w7 (.ref rb) T2.heap n0 z2_ (S0.ext O2.2) (S1.ext O2.2) (S2.ext O2.2) (S3.ext O2.2) (S4.ext O2.2) (S5.ext O2.2) (S6.ext O2.2) (S7.ext O2.2) hpb) hZ (hw _ (List.mem_of_getElem? (i := 32) rfl)) (hw _ (List.mem_of_getElem? (i := 31) rfl)) (by decide) (by decide)) (g := (mkF m 38 #[.val (.int p1), .val (.int p2), .val (.int ((p2 &&& (7 : Int32)) + (1 : Int32))), .val .null, .val (.ref rb)] [(.int ((p2 &&& (7 : Int32)) + (1 : Int32))), (.ref rb)])) rfl (by rw [hml]; rfl) (argsL := [(.int ((p2 &&& (7 : Int32)) + (1 : Int32)))]) (rest := [(.ref rb)]) (lenOf pd_1 rfl) rfl (by show 2 * 0 + _ ≤ _; exact Nat.le_of_eq rfl) (hb hby at_38) (fun _ _ => ⟨rfl, e3, (by decide : 2 + 0 ≤ _), (by decide : 16 + 0 ≤ _)⟩)
  dsimp only [Pt.U, Pt.locs, Pt.cells, Pt.slots] at X4 l4 y4 z4 st4 hQ4
  subst l4 y4 z4
  obtain ⟨rfl, N4q, e4⟩ := hQ4
  have N4 := Fr.app N3 N4q
  obtain ⟨T5, X5, e5, st5⟩ := getF X4 hx hZ hown (host := "") (Or.inl (hw _ (List.mem_of_getElem? (i := 34) rfl))) Via.refl e4 (FB.ext O2.2) (g := (mkF m 48 #[.val (.int p1), .val (.int p2), .val (.int ((p2 &&& (7 : Int32)) + (1 : Int32))), .val .null, .val (.ref rb)] [(.ref rb)])) rfl rfl (hb hby at_48)
  obtain ⟨fs, hr, hrun, hended, hW, hsame⟩ := X5.leave (v := some (.int (1 : Int32))) (fun h => by rw [Bd.returns] at h; cases h)
  refine ⟨_, _, pre0 _ ?_, hrun, hended, _, _, rfl, ?_, ⟨_, rfl⟩, hW, hsame.mono (by decide) (by decide)⟩
  · show Steps p.tables e below (s₁.setTop (mkF m 0 #[.val (.int p1), .val (.int p2), .unset, .unset, .unset] [])) _
    refine XS.iloadN X0.here hx rfl (hb hby at_0) rfl ?_
    show Steps p.tables e below (s₁.setTop (mkF m 1 #[.val (.int p1), .val (.int p2), .unset, .unset, .unset] [(.int p2)])) _
    refine XS.bipush X0.here hx rfl (hb hby at_1) ?_
    show Steps p.tables e below (s₁.setTop (mkF m 3 #[.val (.int p1), .val (.int p2), .unset, .unset, .unset] [(.int (7 : Int32)), (.int p2)])) _
    refine XS.iand X0.here hx rfl (hb hby at_3) rfl ?_
    show Steps p.tables e below (s₁.setTop (mkF m 4 #[.val (.int p1), .val (.int p2), .unset, .unset, .unset] [(.int (p2 &&& (7 : Int32)))])) _
    refine XS.iconst X0.here hx rfl (hb hby at_4) ?_
    show Steps p.tables e below (s₁.setTop (mkF m 5 #[.val (.int p1), .val (.int p2), .unset, .unset, .unset] [(.int (1 : Int32)), (.int (p2 &&& (7 : Int32)))])) _
    refine XS.iadd X0.here hx rfl (hb hby at_5) rfl ?_
    show Steps p.tables e below (s₁.setTop (mkF m 6 #[.val (.int p1), .val (.int p2), .unset, .unset, .unset] [(.int ((p2 &&& (7 : Int32)) + (1 : Int32)))])) _
    refine XS.istoreN X0.here hx rfl (hb hby at_6) rfl (l' := #[.val (.int p1), .val (.int p2), .val (.int ((p2 &&& (7 : Int32)) + (1 : Int32))), .unset, .unset]) rfl ?_
    show Steps p.tables e below (s₁.setTop (mkF m 7 #[.val (.int p1), .val (.int p2), .val (.int ((p2 &&& (7 : Int32)) + (1 : Int32))), .unset, .unset] [])) _
    refine XS.iloadN X0.here hx rfl (hb hby at_7) rfl ?_
    show Steps p.tables e below (s₁.setTop (mkF m 8 #[.val (.int p1), .val (.int p2), .val (.int ((p2 &&& (7 : Int32)) + (1 : Int32))), .unset, .unset] [(.int p1)])) _
    refine st1 _ ?_
    show Steps p.tables e below (T1.setTop (mkF m 11 #[.val (.int p1), .val (.int p2), .val (.int ((p2 &&& (7 : Int32)) + (1 : Int32))), .unset, .unset] [.null])) _
    refine XS.astoreN X1.here hx rfl (hb hby at_11) rfl rfl (l' := #[.val (.int p1), .val (.int p2), .val (.int ((p2 &&& (7 : Int32)) + (1 : Int32))), .val .null, .unset]) rfl ?_
    show Steps p.tables e below (T1.setTop (mkF m 12 #[.val (.int p1), .val (.int p2), .val (.int ((p2 &&& (7 : Int32)) + (1 : Int32))), .val .null, .unset] [])) _
    refine XS.iloadN X1.here hx rfl (hb hby at_12) rfl ?_
    show Steps p.tables e below (T1.setTop (mkF m 13 #[.val (.int p1), .val (.int p2), .val (.int ((p2 &&& (7 : Int32)) + (1 : Int32))), .val .null, .unset] [(.int ((p2 &&& (7 : Int32)) + (1 : Int32)))])) _
    refine st2 _ ?_
    show Steps p.tables e below (T2.setTop (mkF m 16 #[.val (.int p1), .val (.int p2), .val (.int ((p2 &&& (7 : Int32)) + (1 : Int32))), .val .null, .unset] [(.ref rb)])) _
    refine XS.astore X2.here hx rfl (hb hby at_16) rfl rfl (l' := #[.val (.int p1), .val (.int p2), .val (.int ((p2 &&& (7 : Int32)) + (1 : Int32))), .val .null, .val (.ref rb)]) rfl ?_
    show Steps p.tables e below (T2.setTop (mkF m 18 #[.val (.int p1), .val (.int p2), .val (.int ((p2 &&& (7 : Int32)) + (1 : Int32))), .val .null, .val (.ref rb)] [])) _
    refine XS.aloadN X2.here hx rfl (hb hby at_18) rfl rfl ?_
    show Steps p.tables e below (T2.setTop (mkF m 19 #[.val (.int p1), .val (.int p2), .val (.int ((p2 &&& (7 : Int32)) + (1 : Int32))), .val .null, .val (.ref rb)] [.null])) _
    refine XS.iloadN X2.here hx rfl (hb hby at_19) rfl ?_
    show Steps p.tables e below (T2.setTop (mkF m 20 #[.val (.int p1), .val (.int p2), .val (.int ((p2 &&& (7 : Int32)) + (1 : Int32))), .val .null, .val (.ref rb)] [(.int p1), .null])) _
    refine st3 _ ?_
    show Steps p.tables e below (T3.setTop (mkF m 23 #[.val (.int p1), .val (.int p2), .val (.int ((p2 &&& (7 : Int32)) + (1 : Int32))), .val .null, .val (.ref rb)] [.null, .null])) _
    refine Jvm.RoadKit.acmp (g := (mkF m 23 #[.val (.int p1), .val (.int p2), .val (.int ((p2 &&& (7 : Int32)) + (1 : Int32))), .val .null, .val (.ref rb)] [.null, .null])) X3 hx rfl rfl rfl (pc0 := 23) (pc' := 28) (same := true) rfl (hb hby at_23) rfl (decide_eq_true rfl) (by decide) (by decide) ?_
    show Steps p.tables e below (T3.setTop (mkF m 28 #[.val (.int p1), .val (.int p2), .val (.int ((p2 &&& (7 : Int32)) + (1 : Int32))), .val .null, .val (.ref rb)] [])) _
    refine XS.aload X3.here hx rfl (hb hby at_28) rfl rfl ?_
    show Steps p.tables e below (T3.setTop (mkF m 30 #[.val (.int p1), .val (.int p2), .val (.int ((p2 &&& (7 : Int32)) + (1 : Int32))), .val .null, .val (.ref rb)] [(.ref rb)])) _
    refine XS.ifnonnullYes X3.here hx rfl (pc0 := 30) (pc' := 35) rfl (hb hby at_30) rfl (by decide) (by decide) ?_
    show Steps p.tables e below (T3.setTop (mkF m 35 #[.val (.int p1), .val (.int p2), .val (.int ((p2 &&& (7 : Int32)) + (1 : Int32))), .val .null, .val (.ref rb)] [])) _
    refine XS.aload X3.here hx rfl (hb hby at_35) rfl rfl ?_
    show Steps p.tables e below (T3.setTop (mkF m 37 #[.val (.int p1), .val (.int p2), .val (.int ((p2 &&& (7 : Int32)) + (1 : Int32))), .val .null, .val (.ref rb)] [(.ref rb)])) _
    refine XS.iloadN X3.here hx rfl (hb hby at_37) rfl ?_
    show Steps p.tables e below (T3.setTop (mkF m 38 #[.val (.int p1), .val (.int p2), .val (.int ((p2 &&& (7 : Int32)) + (1 : Int32))), .val .null, .val (.ref rb)] [(.int ((p2 &&& (7 : Int32)) + (1 : Int32))), (.ref rb)])) _
    refine st4 _ ?_
    show Steps p.tables e below (T4.setTop (mkF m 41 #[.val (.int p1), .val (.int p2), .val (.int ((p2 &&& (7 : Int32)) + (1 : Int32))), .val .null, .val (.ref rb)] [(.ref rb), (.ref rb)])) _
    refine Jvm.RoadKit.acmp (g := (mkF m 41 #[.val (.int p1), .val (.int p2), .val (.int ((p2 &&& (7 : Int32)) + (1 : Int32))), .val .null, .val (.ref rb)] [(.ref rb), (.ref rb)])) X4 hx rfl rfl rfl (pc0 := 41) (pc' := 46) (same := true) rfl (hb hby at_41) rfl (decide_eq_true rfl) (by decide) (by decide) ?_
    show Steps p.tables e below (T4.setTop (mkF m 46 #[.val (.int p1), .val (.int p2), .val (.int ((p2 &&& (7 : Int32)) + (1 : Int32))), .val .null, .val (.ref rb)] [])) _
    refine XS.aload X4.here hx rfl (hb hby at_46) rfl rfl ?_
    show Steps p.tables e below (T4.setTop (mkF m 48 #[.val (.int p1), .val (.int p2), .val (.int ((p2 &&& (7 : Int32)) + (1 : Int32))), .val .null, .val (.ref rb)] [(.ref rb)])) _
    refine st5 _ ?_
    show Steps p.tables e below (T5.setTop (mkF m 51 #[.val (.int p1), .val (.int p2), .val (.int ((p2 &&& (7 : Int32)) + (1 : Int32))), .val .null, .val (.ref rb)] [(.int ((p2 &&& (7 : Int32)) + (1 : Int32)))])) _
    refine XS.iloadN X5.here hx rfl (hb hby at_51) rfl ?_
    show Steps p.tables e below (T5.setTop (mkF m 52 #[.val (.int p1), .val (.int p2), .val (.int ((p2 &&& (7 : Int32)) + (1 : Int32))), .val .null, .val (.ref rb)] [(.int ((p2 &&& (7 : Int32)) + (1 : Int32))), (.int ((p2 &&& (7 : Int32)) + (1 : Int32)))])) _
    refine XS.icmpNo X5.here hx rfl (hb hby at_52) rfl (teq (rfl : ((p2 &&& (7 : Int32)) + (1 : Int32)) = ((p2 &&& (7 : Int32)) + (1 : Int32)))).2 ?_
    show Steps p.tables e below (T5.setTop (mkF m 55 #[.val (.int p1), .val (.int p2), .val (.int ((p2 &&& (7 : Int32)) + (1 : Int32))), .val .null, .val (.ref rb)] [])) _
    refine XS.iconst X5.here hx rfl (hb hby at_55) ?_
    show Steps p.tables e below (T5.setTop (mkF m 56 #[.val (.int p1), .val (.int p2), .val (.int ((p2 &&& (7 : Int32)) + (1 : Int32))), .val .null, .val (.ref rb)] [(.int (1 : Int32))])) _
    refine XS.goto X5.here hx rfl (pc0 := 56) (pc' := 60) rfl (hb hby at_56) (by decide) (by decide) ?_
    show Steps p.tables e below (T5.setTop (mkF m 60 #[.val (.int p1), .val (.int p2), .val (.int ((p2 &&& (7 : Int32)) + (1 : Int32))), .val .null, .val (.ref rb)] [(.int (1 : Int32))])) _
    exact retN X5 hx (t := .boolean) Bd.returns (by simp) (hb hby at_60) hr
  · show Q_rm0_null Z p1 p2 w0 w1 w2 w3 w4 w5 w6 w7 wv rb kk h0 n0 _ T5.heap _
    exact ⟨rfl, N4⟩
def Q_rm0_ref (Z : State) (p1 : Int32) (p2 : Int32) (w0 w1 w2 w3 w4 w5 w6 w7 wv rb ra : Addr) (kk : ClassId) (h0 : Heap) (n0 : Nat) (v : Option Value) (h : Heap) (L : List Loc) : Prop := v = some (Value.int 1) ∧ Fr n0 L
set_option maxRecDepth 65536 in
set_option maxHeartbeats 40000000 in
theorem rm0_ref (l : Launch) (Z : State) (a0 : Array Value) (hw : ∀ d ∈ tables_1, d.before a0 Z = true) (ws : List Jvm.Cond) (p1 : Int32) (p2 : Int32) (w0 w1 w2 w3 w4 w5 w6 w7 wv rb ra : Addr) (kk : ClassId) (h0 : Heap) (n0 : Nat) (Z0 : n0 ≤ h0.size) (O0 : Old Z n0 h0) (SV : Sta Z Z.heap "com/example/curtaincall/curtaincall/rpc/Frame$Kind" "$VALUES" "[Lcom/example/curtaincall/curtaincall/rpc/Frame$Kind;" (.ref wv)) (AV : Arh Z Z.heap wv kk (.object "com/example/curtaincall/curtaincall/rpc/Frame$Kind") (8 : Int32) [] [(.ref w0), (.ref w1), (.ref w2), (.ref w3), (.ref w4), (.ref w5), (.ref w6), (.ref w7)] .null) (EV : Exa Z Z.heap wv "[Lcom/example/curtaincall/curtaincall/rpc/Frame$Kind;") (S0 : Sta Z Z.heap "com/example/curtaincall/curtaincall/rpc/Frame$Kind" "CALL" "Lcom/example/curtaincall/curtaincall/rpc/Frame$Kind;" (.ref w0)) (S1 : Sta Z Z.heap "com/example/curtaincall/curtaincall/rpc/Frame$Kind" "ANSWER" "Lcom/example/curtaincall/curtaincall/rpc/Frame$Kind;" (.ref w1)) (S2 : Sta Z Z.heap "com/example/curtaincall/curtaincall/rpc/Frame$Kind" "ERROR" "Lcom/example/curtaincall/curtaincall/rpc/Frame$Kind;" (.ref w2)) (S3 : Sta Z Z.heap "com/example/curtaincall/curtaincall/rpc/Frame$Kind" "READY" "Lcom/example/curtaincall/curtaincall/rpc/Frame$Kind;" (.ref w3)) (S4 : Sta Z Z.heap "com/example/curtaincall/curtaincall/rpc/Frame$Kind" "STOPPING" "Lcom/example/curtaincall/curtaincall/rpc/Frame$Kind;" (.ref w4)) (S5 : Sta Z Z.heap "com/example/curtaincall/curtaincall/rpc/Frame$Kind" "DONE_SENDING" "Lcom/example/curtaincall/curtaincall/rpc/Frame$Kind;" (.ref w5)) (S6 : Sta Z Z.heap "com/example/curtaincall/curtaincall/rpc/Frame$Kind" "PING" "Lcom/example/curtaincall/curtaincall/rpc/Frame$Kind;" (.ref w6)) (S7 : Sta Z Z.heap "com/example/curtaincall/curtaincall/rpc/Frame$Kind" "PONG" "Lcom/example/curtaincall/curtaincall/rpc/Frame$Kind;" (.ref w7)) (F0 : Fld Z Z.heap w0 "com/example/curtaincall/curtaincall/rpc/Frame$Kind" "code" "I" (.int (1 : Int32))) (F1 : Fld Z Z.heap w1 "com/example/curtaincall/curtaincall/rpc/Frame$Kind" "code" "I" (.int (2 : Int32))) (F2 : Fld Z Z.heap w2 "com/example/curtaincall/curtaincall/rpc/Frame$Kind" "code" "I" (.int (3 : Int32))) (F3 : Fld Z Z.heap w3 "com/example/curtaincall/curtaincall/rpc/Frame$Kind" "code" "I" (.int (4 : Int32))) (F4 : Fld Z Z.heap w4 "com/example/curtaincall/curtaincall/rpc/Frame$Kind" "code" "I" (.int (5 : Int32))) (F5 : Fld Z Z.heap w5 "com/example/curtaincall/curtaincall/rpc/Frame$Kind" "code" "I" (.int (6 : Int32))) (F6 : Fld Z Z.heap w6 "com/example/curtaincall/curtaincall/rpc/Frame$Kind" "code" "I" (.int (7 : Int32))) (F7 : Fld Z Z.heap w7 "com/example/curtaincall/curtaincall/rpc/Frame$Kind" "code" "I" (.int (8 : Int32))) (hpa : own_kind p1 w0 w1 w2 w3 w4 w5 w6 w7 = (.ref ra)) (hpb : own_kind ((p2 &&& (7 : Int32)) + (1 : Int32)) w0 w1 w2 w3 w4 w5 w6 w7 = .ref rb) (FB : Fld Z Z.heap rb "com/example/curtaincall/curtaincall/rpc/Frame$Kind" "code" "I" (.int ((p2 &&& (7 : Int32)) + (1 : Int32)))) :
    MetFree l x (head1 (Jvm.Cond.code x code maxLocals ret :: ws) room_1) (fun a U => a = #[(.int p1), (.int p2)] ∧ Z.Warmed39 U.vm ∧ U.heap = h0) (fun _ _ _ _ _ => True) (fun _ U o U' => ∃ v L, o = .returned v ∧ (Q_rm0_ref Z p1 p2 w0 w1 w2 w3 w4 w5 w6 w7 wv rb ra kk h0 n0 v U'.heap L) ∧ FrameEnd U o U' L room_1.cells room_1.slots) := by
  refine MetFree.of_bodySF (plainFor_of_name pn_1) hisR ?_
  intro p e s m args below meth c s₁ Bd hml0 hP hK
  obtain ⟨rfl, hZ, hh⟩ := hP
  have hx := Bd.exec
  have hby := Bd.bytes
  have hml : c.maxLocals = 5 := hml0
  have hown : s.vm.findClass "com/example/curtaincall/curtaincall/rpc/KindOfPinLaw" = some m.cls := findClass_of_methodNamed Bd.named
  have hnm := (name_of_methodNamed Bd.named Bd.method).1
  have X0 : Stand p l e room_1 s m #[(.int p1), (.int p2)] below meth c s₁ [] 0 0 := Stand.of_body Bd
  have e0 : s₁.heap = h0 := by rw [← hh, Bd.state]; rfl
  have N0 := Fr.nil n0
  have pre0 : ∀ t, Steps p.tables e below (s₁.setTop (mkF m 0 #[.val (.int p1), .val (.int p2), .unset, .unset, .unset] [])) t → Steps p.tables e below (s₁.setTop (entryFrame m #[(.int p1), (.int p2)] maxLocals)) t := fun t k => castTop (ef_0 m p1 p2) k
  obtain ⟨_, _, ⟨T1, L1, k1, n1⟩, -, X1, ⟨Lc1, hQ1, l1, y1, z1⟩, st1⟩ := Jvm.LawKit.callS X0 hx (y := (⟨"com/example/curtaincall/curtaincall/rpc/Frame$Kind", "of", "(I)Lcom/example/curtaincall/curtaincall/rpc/Frame$Kind;"⟩ : MethodName)) hown (mvT hZ (hw _ (List.mem_of_getElem? (i := 0) rfl))) (mvT hZ (hw _ (List.mem_of_getElem? (i := 1) rfl))) (mvT hZ (hw _ (List.mem_of_getElem? (i := 2) rfl))) (mvT hZ (hw _ (List.mem_of_getElem? (i := 3) rfl))) (by decide) (backOf (W := 0) (rm1 l Z a0 hw [] p1 w0 w1 w2 w3 w4 w5 w6 w7 wv kk (.ref ra) h0 n0 Z0 (SV.ext O0.2) (AV.ext O0.2) (EV.ext O0.2) (F0.ext O0.2) (F1.ext O0.2) (F2.ext O0.2) (F3.ext O0.2) (F4.ext O0.2) (F5.ext O0.2) (F6.ext O0.2) (F7.ext O0.2) hpa) hZ (hw _ (List.mem_of_getElem? (i := 3) rfl)) (hw _ (List.mem_of_getElem? (i := 2) rfl)) (by decide) (by decide)) (g := (mkF m 8 #[.val (.int p1), .val (.int p2), .val (.int ((p2 &&& (7 : Int32)) + (1 : Int32))), .unset, .unset] [(.int p1)])) rfl (by rw [hml]; rfl) (argsL := [(.int p1)]) (rest := []) (lenOf pd_1 rfl) rfl (by show 2 * 0 + _ ≤ _; exact Nat.le_of_eq rfl) (hb hby at_8) (fun _ _ => ⟨rfl, e0, (by decide : 0 + 1 ≤ _), (by decide : 0 + 8 ≤ _)⟩)
  dsimp only [Pt.U, Pt.locs, Pt.cells, Pt.slots] at X1 l1 y1 z1 st1 hQ1
  subst l1 y1 z1
  obtain ⟨rfl, N1q, K1⟩ := hQ1
  have N1 := Fr.app N0 N1q
  have O1 := O0.keep K1 all0
  have K1_ : Keep h0 T1.heap [] := (Keep.refl h0 []).trans K1 all0
  have z1_ : n0 ≤ (T1.heap).size := Nat.le_trans Z0 K1.1
  obtain ⟨_, _, ⟨T2, L2, k2, n2⟩, -, X2, ⟨Lc2, hQ2, l2, y2, z2⟩, st2⟩ := Jvm.LawKit.callS X1 hx (y := (⟨"com/example/curtaincall/curtaincall/rpc/Frame$Kind", "of", "(I)Lcom/example/curtaincall/curtaincall/rpc/Frame$Kind;"⟩ : MethodName)) hown (mvT hZ (hw _ (List.mem_of_getElem? (i := 0) rfl))) (mvT hZ (hw _ (List.mem_of_getElem? (i := 1) rfl))) (mvT hZ (hw _ (List.mem_of_getElem? (i := 2) rfl))) (mvT hZ (hw _ (List.mem_of_getElem? (i := 3) rfl))) (by decide) (backOf (W := 0) (rm1 l Z a0 hw [] ((p2 &&& (7 : Int32)) + (1 : Int32)) w0 w1 w2 w3 w4 w5 w6 w7 wv kk (.ref rb) T1.heap n0 z1_ (SV.ext O1.2) (AV.ext O1.2) (EV.ext O1.2) (F0.ext O1.2) (F1.ext O1.2) (F2.ext O1.2) (F3.ext O1.2) (F4.ext O1.2) (F5.ext O1.2) (F6.ext O1.2) (F7.ext O1.2) hpb) hZ (hw _ (List.mem_of_getElem? (i := 3) rfl)) (hw _ (List.mem_of_getElem? (i := 2) rfl)) (by decide) (by decide)) (g := (mkF m 13 #[.val (.int p1), .val (.int p2), .val (.int ((p2 &&& (7 : Int32)) + (1 : Int32))), .val (.ref ra), .unset] [(.int ((p2 &&& (7 : Int32)) + (1 : Int32)))])) rfl (by rw [hml]; rfl) (argsL := [(.int ((p2 &&& (7 : Int32)) + (1 : Int32)))]) (rest := []) (lenOf pd_1 rfl) rfl (by show 2 * 0 + _ ≤ _; exact Nat.le_of_eq rfl) (hb hby at_13) (fun _ _ => ⟨rfl, rfl, (by decide : 1 + 1 ≤ _), (by decide : 8 + 8 ≤ _)⟩)
  dsimp only [Pt.U, Pt.locs, Pt.cells, Pt.slots] at X2 l2 y2 z2 st2 hQ2
  subst l2 y2 z2
  obtain ⟨rfl, N2q, K2⟩ := hQ2
  have N2 := Fr.app N1 N2q
  have O2 := O1.keep K2 all0
  have K2_ : Keep h0 T2.heap [] := K1_.trans K2 all0
  have z2_ : n0 ≤ (T2.heap).size := Nat.le_trans z1_ K2.1
  obtain ⟨_, _, ⟨T3, L3, k3, n3⟩, -, X3, ⟨Lc3, hQ3, l3, y3, z3⟩, st3⟩ := Jvm.LawKit.callS X2 hx (y := (⟨"com/example/curtaincall/curtaincall/rpc/KindOfPinLaw", "expected", "(I)Lcom/example/curtaincall/curtaincall/rpc/Frame$Kind;"⟩ : MethodName)) hown (mvT hZ (hw _ (List.mem_of_getElem? (i := 29) rfl))) (mvT hZ (hw _ (List.mem_of_getElem? (i := 30) rfl))) (mvT hZ (hw _ (List.mem_of_getElem? (i := 31) rfl))) (mvT hZ (hw _ (List.mem_of_getElem? (i := 32) rfl))) (by decide) (backOf (W := 1) (rm3 l Z a0 hw [] p1 w0 w1 w2 w3 w4 w5 w6 w7 (.ref ra) T2.heap n0 z2_ (S0.ext O2.2) (S1.ext O2.2) (S2.ext O2.2) (S3.ext O2.2) (S4.ext O2.2) (S5.ext O2.2) (S6.ext O2.2) (S7.ext O2.2) hpa) hZ (hw _ (List.mem_of_getElem? (i := 32) rfl)) (hw _ (List.mem_of_getElem? (i := 31) rfl)) (by decide) (by decide)) (g := (mkF m 20 #[.val (.int p1), .val (.int p2), .val (.int ((p2 &&& (7 : Int32)) + (1 : Int32))), .val (.ref ra), .val (.ref rb)] [(.int p1), (.ref ra)])) rfl (by rw [hml]; rfl) (argsL := [(.int p1)]) (rest := [(.ref ra)]) (lenOf pd_1 rfl) rfl (by show 2 * 0 + _ ≤ _; exact Nat.le_of_eq rfl) (hb hby at_20) (fun _ _ => ⟨rfl, rfl, (by decide : 2 + 0 ≤ _), (by decide : 16 + 0 ≤ _)⟩)
  dsimp only [Pt.U, Pt.locs, Pt.cells, Pt.slots] at X3 l3 y3 z3 st3 hQ3
  subst l3 y3 z3
  obtain ⟨rfl, N3q, e3⟩ := hQ3
  have N3 := Fr.app N2 N3q
  obtain ⟨_, _, ⟨T4, L4, k4, n4⟩, -, X4, ⟨Lc4, hQ4, l4, y4, z4⟩, st4⟩ := Jvm.LawKit.callS X3 hx (y := (⟨"com/example/curtaincall/curtaincall/rpc/KindOfPinLaw", "expected", "(I)Lcom/example/curtaincall/curtaincall/rpc/Frame$Kind;"⟩ : MethodName)) hown (mvT hZ (hw _ (List.mem_of_getElem? (i := 29) rfl))) (mvT hZ (hw _ (List.mem_of_getElem? (i := 30) rfl))) (mvT hZ (hw _ (List.mem_of_getElem? (i := 31) rfl))) (mvT hZ (hw _ (List.mem_of_getElem? (i := 32) rfl))) (by decide) (backOf (W := 1) (rm3 l Z a0 hw [] ((p2 &&& (7 : Int32)) + (1 : Int32)) w0 w1 w2 w3 w4 w5 w6 w7 (.ref rb) T2.heap n0 z2_ (S0.ext O2.2) (S1.ext O2.2) (S2.ext O2.2) (S3.ext O2.2) (S4.ext O2.2) (S5.ext O2.2) (S6.ext O2.2) (S7.ext O2.2) hpb) hZ (hw _ (List.mem_of_getElem? (i := 32) rfl)) (hw _ (List.mem_of_getElem? (i := 31) rfl)) (by decide) (by decide)) (g := (mkF m 38 #[.val (.int p1), .val (.int p2), .val (.int ((p2 &&& (7 : Int32)) + (1 : Int32))), .val (.ref ra), .val (.ref rb)] [(.int ((p2 &&& (7 : Int32)) + (1 : Int32))), (.ref rb)])) rfl (by rw [hml]; rfl) (argsL := [(.int ((p2 &&& (7 : Int32)) + (1 : Int32)))]) (rest := [(.ref rb)]) (lenOf pd_1 rfl) rfl (by show 2 * 0 + _ ≤ _; exact Nat.le_of_eq rfl) (hb hby at_38) (fun _ _ => ⟨rfl, e3, (by decide : 2 + 0 ≤ _), (by decide : 16 + 0 ≤ _)⟩)
  dsimp only [Pt.U, Pt.locs, Pt.cells, Pt.slots] at X4 l4 y4 z4 st4 hQ4
  subst l4 y4 z4
  obtain ⟨rfl, N4q, e4⟩ := hQ4
  have N4 := Fr.app N3 N4q
  obtain ⟨T5, X5, e5, st5⟩ := getF X4 hx hZ hown (host := "") (Or.inl (hw _ (List.mem_of_getElem? (i := 34) rfl))) Via.refl e4 (FB.ext O2.2) (g := (mkF m 48 #[.val (.int p1), .val (.int p2), .val (.int ((p2 &&& (7 : Int32)) + (1 : Int32))), .val (.ref ra), .val (.ref rb)] [(.ref rb)])) rfl rfl (hb hby at_48)
  obtain ⟨fs, hr, hrun, hended, hW, hsame⟩ := X5.leave (v := some (.int (1 : Int32))) (fun h => by rw [Bd.returns] at h; cases h)
  refine ⟨_, _, pre0 _ ?_, hrun, hended, _, _, rfl, ?_, ⟨_, rfl⟩, hW, hsame.mono (by decide) (by decide)⟩
  · show Steps p.tables e below (s₁.setTop (mkF m 0 #[.val (.int p1), .val (.int p2), .unset, .unset, .unset] [])) _
    refine XS.iloadN X0.here hx rfl (hb hby at_0) rfl ?_
    show Steps p.tables e below (s₁.setTop (mkF m 1 #[.val (.int p1), .val (.int p2), .unset, .unset, .unset] [(.int p2)])) _
    refine XS.bipush X0.here hx rfl (hb hby at_1) ?_
    show Steps p.tables e below (s₁.setTop (mkF m 3 #[.val (.int p1), .val (.int p2), .unset, .unset, .unset] [(.int (7 : Int32)), (.int p2)])) _
    refine XS.iand X0.here hx rfl (hb hby at_3) rfl ?_
    show Steps p.tables e below (s₁.setTop (mkF m 4 #[.val (.int p1), .val (.int p2), .unset, .unset, .unset] [(.int (p2 &&& (7 : Int32)))])) _
    refine XS.iconst X0.here hx rfl (hb hby at_4) ?_
    show Steps p.tables e below (s₁.setTop (mkF m 5 #[.val (.int p1), .val (.int p2), .unset, .unset, .unset] [(.int (1 : Int32)), (.int (p2 &&& (7 : Int32)))])) _
    refine XS.iadd X0.here hx rfl (hb hby at_5) rfl ?_
    show Steps p.tables e below (s₁.setTop (mkF m 6 #[.val (.int p1), .val (.int p2), .unset, .unset, .unset] [(.int ((p2 &&& (7 : Int32)) + (1 : Int32)))])) _
    refine XS.istoreN X0.here hx rfl (hb hby at_6) rfl (l' := #[.val (.int p1), .val (.int p2), .val (.int ((p2 &&& (7 : Int32)) + (1 : Int32))), .unset, .unset]) rfl ?_
    show Steps p.tables e below (s₁.setTop (mkF m 7 #[.val (.int p1), .val (.int p2), .val (.int ((p2 &&& (7 : Int32)) + (1 : Int32))), .unset, .unset] [])) _
    refine XS.iloadN X0.here hx rfl (hb hby at_7) rfl ?_
    show Steps p.tables e below (s₁.setTop (mkF m 8 #[.val (.int p1), .val (.int p2), .val (.int ((p2 &&& (7 : Int32)) + (1 : Int32))), .unset, .unset] [(.int p1)])) _
    refine st1 _ ?_
    show Steps p.tables e below (T1.setTop (mkF m 11 #[.val (.int p1), .val (.int p2), .val (.int ((p2 &&& (7 : Int32)) + (1 : Int32))), .unset, .unset] [(.ref ra)])) _
    refine XS.astoreN X1.here hx rfl (hb hby at_11) rfl rfl (l' := #[.val (.int p1), .val (.int p2), .val (.int ((p2 &&& (7 : Int32)) + (1 : Int32))), .val (.ref ra), .unset]) rfl ?_
    show Steps p.tables e below (T1.setTop (mkF m 12 #[.val (.int p1), .val (.int p2), .val (.int ((p2 &&& (7 : Int32)) + (1 : Int32))), .val (.ref ra), .unset] [])) _
    refine XS.iloadN X1.here hx rfl (hb hby at_12) rfl ?_
    show Steps p.tables e below (T1.setTop (mkF m 13 #[.val (.int p1), .val (.int p2), .val (.int ((p2 &&& (7 : Int32)) + (1 : Int32))), .val (.ref ra), .unset] [(.int ((p2 &&& (7 : Int32)) + (1 : Int32)))])) _
    refine st2 _ ?_
    show Steps p.tables e below (T2.setTop (mkF m 16 #[.val (.int p1), .val (.int p2), .val (.int ((p2 &&& (7 : Int32)) + (1 : Int32))), .val (.ref ra), .unset] [(.ref rb)])) _
    refine XS.astore X2.here hx rfl (hb hby at_16) rfl rfl (l' := #[.val (.int p1), .val (.int p2), .val (.int ((p2 &&& (7 : Int32)) + (1 : Int32))), .val (.ref ra), .val (.ref rb)]) rfl ?_
    show Steps p.tables e below (T2.setTop (mkF m 18 #[.val (.int p1), .val (.int p2), .val (.int ((p2 &&& (7 : Int32)) + (1 : Int32))), .val (.ref ra), .val (.ref rb)] [])) _
    refine XS.aloadN X2.here hx rfl (hb hby at_18) rfl rfl ?_
    show Steps p.tables e below (T2.setTop (mkF m 19 #[.val (.int p1), .val (.int p2), .val (.int ((p2 &&& (7 : Int32)) + (1 : Int32))), .val (.ref ra), .val (.ref rb)] [(.ref ra)])) _
    refine XS.iloadN X2.here hx rfl (hb hby at_19) rfl ?_
    show Steps p.tables e below (T2.setTop (mkF m 20 #[.val (.int p1), .val (.int p2), .val (.int ((p2 &&& (7 : Int32)) + (1 : Int32))), .val (.ref ra), .val (.ref rb)] [(.int p1), (.ref ra)])) _
    refine st3 _ ?_
    show Steps p.tables e below (T3.setTop (mkF m 23 #[.val (.int p1), .val (.int p2), .val (.int ((p2 &&& (7 : Int32)) + (1 : Int32))), .val (.ref ra), .val (.ref rb)] [(.ref ra), (.ref ra)])) _
    refine Jvm.RoadKit.acmp (g := (mkF m 23 #[.val (.int p1), .val (.int p2), .val (.int ((p2 &&& (7 : Int32)) + (1 : Int32))), .val (.ref ra), .val (.ref rb)] [(.ref ra), (.ref ra)])) X3 hx rfl rfl rfl (pc0 := 23) (pc' := 28) (same := true) rfl (hb hby at_23) rfl (decide_eq_true rfl) (by decide) (by decide) ?_
    show Steps p.tables e below (T3.setTop (mkF m 28 #[.val (.int p1), .val (.int p2), .val (.int ((p2 &&& (7 : Int32)) + (1 : Int32))), .val (.ref ra), .val (.ref rb)] [])) _
    refine XS.aload X3.here hx rfl (hb hby at_28) rfl rfl ?_
    show Steps p.tables e below (T3.setTop (mkF m 30 #[.val (.int p1), .val (.int p2), .val (.int ((p2 &&& (7 : Int32)) + (1 : Int32))), .val (.ref ra), .val (.ref rb)] [(.ref rb)])) _
    refine XS.ifnonnullYes X3.here hx rfl (pc0 := 30) (pc' := 35) rfl (hb hby at_30) rfl (by decide) (by decide) ?_
    show Steps p.tables e below (T3.setTop (mkF m 35 #[.val (.int p1), .val (.int p2), .val (.int ((p2 &&& (7 : Int32)) + (1 : Int32))), .val (.ref ra), .val (.ref rb)] [])) _
    refine XS.aload X3.here hx rfl (hb hby at_35) rfl rfl ?_
    show Steps p.tables e below (T3.setTop (mkF m 37 #[.val (.int p1), .val (.int p2), .val (.int ((p2 &&& (7 : Int32)) + (1 : Int32))), .val (.ref ra), .val (.ref rb)] [(.ref rb)])) _
    refine XS.iloadN X3.here hx rfl (hb hby at_37) rfl ?_
    show Steps p.tables e below (T3.setTop (mkF m 38 #[.val (.int p1), .val (.int p2), .val (.int ((p2 &&& (7 : Int32)) + (1 : Int32))), .val (.ref ra), .val (.ref rb)] [(.int ((p2 &&& (7 : Int32)) + (1 : Int32))), (.ref rb)])) _
    refine st4 _ ?_
    show Steps p.tables e below (T4.setTop (mkF m 41 #[.val (.int p1), .val (.int p2), .val (.int ((p2 &&& (7 : Int32)) + (1 : Int32))), .val (.ref ra), .val (.ref rb)] [(.ref rb), (.ref rb)])) _
    refine Jvm.RoadKit.acmp (g := (mkF m 41 #[.val (.int p1), .val (.int p2), .val (.int ((p2 &&& (7 : Int32)) + (1 : Int32))), .val (.ref ra), .val (.ref rb)] [(.ref rb), (.ref rb)])) X4 hx rfl rfl rfl (pc0 := 41) (pc' := 46) (same := true) rfl (hb hby at_41) rfl (decide_eq_true rfl) (by decide) (by decide) ?_
    show Steps p.tables e below (T4.setTop (mkF m 46 #[.val (.int p1), .val (.int p2), .val (.int ((p2 &&& (7 : Int32)) + (1 : Int32))), .val (.ref ra), .val (.ref rb)] [])) _
    refine XS.aload X4.here hx rfl (hb hby at_46) rfl rfl ?_
    show Steps p.tables e below (T4.setTop (mkF m 48 #[.val (.int p1), .val (.int p2), .val (.int ((p2 &&& (7 : Int32)) + (1 : Int32))), .val (.ref ra), .val (.ref rb)] [(.ref rb)])) _
    refine st5 _ ?_
    show Steps p.tables e below (T5.setTop (mkF m 51 #[.val (.int p1), .val (.int p2), .val (.int ((p2 &&& (7 : Int32)) + (1 : Int32))), .val (.ref ra), .val (.ref rb)] [(.int ((p2 &&& (7 : Int32)) + (1 : Int32)))])) _
    refine XS.iloadN X5.here hx rfl (hb hby at_51) rfl ?_
    show Steps p.tables e below (T5.setTop (mkF m 52 #[.val (.int p1), .val (.int p2), .val (.int ((p2 &&& (7 : Int32)) + (1 : Int32))), .val (.ref ra), .val (.ref rb)] [(.int ((p2 &&& (7 : Int32)) + (1 : Int32))), (.int ((p2 &&& (7 : Int32)) + (1 : Int32)))])) _
    refine XS.icmpNo X5.here hx rfl (hb hby at_52) rfl (teq (rfl : ((p2 &&& (7 : Int32)) + (1 : Int32)) = ((p2 &&& (7 : Int32)) + (1 : Int32)))).2 ?_
    show Steps p.tables e below (T5.setTop (mkF m 55 #[.val (.int p1), .val (.int p2), .val (.int ((p2 &&& (7 : Int32)) + (1 : Int32))), .val (.ref ra), .val (.ref rb)] [])) _
    refine XS.iconst X5.here hx rfl (hb hby at_55) ?_
    show Steps p.tables e below (T5.setTop (mkF m 56 #[.val (.int p1), .val (.int p2), .val (.int ((p2 &&& (7 : Int32)) + (1 : Int32))), .val (.ref ra), .val (.ref rb)] [(.int (1 : Int32))])) _
    refine XS.goto X5.here hx rfl (pc0 := 56) (pc' := 60) rfl (hb hby at_56) (by decide) (by decide) ?_
    show Steps p.tables e below (T5.setTop (mkF m 60 #[.val (.int p1), .val (.int p2), .val (.int ((p2 &&& (7 : Int32)) + (1 : Int32))), .val (.ref ra), .val (.ref rb)] [(.int (1 : Int32))])) _
    exact retN X5 hx (t := .boolean) Bd.returns (by simp) (hb hby at_60) hr
  · show Q_rm0_ref Z p1 p2 w0 w1 w2 w3 w4 w5 w6 w7 wv rb ra kk h0 n0 _ T5.heap _
    exact ⟨rfl, N4⟩
theorem rm0 (l : Launch) (Z : State) (a0 : Array Value) (hw : ∀ d ∈ tables_1, d.before a0 Z = true) (ws : List Jvm.Cond) (p1 : Int32) (p2 : Int32) (w0 w1 w2 w3 w4 w5 w6 w7 wv rb : Addr) (kk : ClassId) (h0 : Heap) (n0 : Nat) (Z0 : n0 ≤ h0.size) (O0 : Old Z n0 h0) (SV : Sta Z Z.heap "com/example/curtaincall/curtaincall/rpc/Frame$Kind" "$VALUES" "[Lcom/example/curtaincall/curtaincall/rpc/Frame$Kind;" (.ref wv)) (AV : Arh Z Z.heap wv kk (.object "com/example/curtaincall/curtaincall/rpc/Frame$Kind") (8 : Int32) [] [(.ref w0), (.ref w1), (.ref w2), (.ref w3), (.ref w4), (.ref w5), (.ref w6), (.ref w7)] .null) (EV : Exa Z Z.heap wv "[Lcom/example/curtaincall/curtaincall/rpc/Frame$Kind;") (S0 : Sta Z Z.heap "com/example/curtaincall/curtaincall/rpc/Frame$Kind" "CALL" "Lcom/example/curtaincall/curtaincall/rpc/Frame$Kind;" (.ref w0)) (S1 : Sta Z Z.heap "com/example/curtaincall/curtaincall/rpc/Frame$Kind" "ANSWER" "Lcom/example/curtaincall/curtaincall/rpc/Frame$Kind;" (.ref w1)) (S2 : Sta Z Z.heap "com/example/curtaincall/curtaincall/rpc/Frame$Kind" "ERROR" "Lcom/example/curtaincall/curtaincall/rpc/Frame$Kind;" (.ref w2)) (S3 : Sta Z Z.heap "com/example/curtaincall/curtaincall/rpc/Frame$Kind" "READY" "Lcom/example/curtaincall/curtaincall/rpc/Frame$Kind;" (.ref w3)) (S4 : Sta Z Z.heap "com/example/curtaincall/curtaincall/rpc/Frame$Kind" "STOPPING" "Lcom/example/curtaincall/curtaincall/rpc/Frame$Kind;" (.ref w4)) (S5 : Sta Z Z.heap "com/example/curtaincall/curtaincall/rpc/Frame$Kind" "DONE_SENDING" "Lcom/example/curtaincall/curtaincall/rpc/Frame$Kind;" (.ref w5)) (S6 : Sta Z Z.heap "com/example/curtaincall/curtaincall/rpc/Frame$Kind" "PING" "Lcom/example/curtaincall/curtaincall/rpc/Frame$Kind;" (.ref w6)) (S7 : Sta Z Z.heap "com/example/curtaincall/curtaincall/rpc/Frame$Kind" "PONG" "Lcom/example/curtaincall/curtaincall/rpc/Frame$Kind;" (.ref w7)) (F0 : Fld Z Z.heap w0 "com/example/curtaincall/curtaincall/rpc/Frame$Kind" "code" "I" (.int (1 : Int32))) (F1 : Fld Z Z.heap w1 "com/example/curtaincall/curtaincall/rpc/Frame$Kind" "code" "I" (.int (2 : Int32))) (F2 : Fld Z Z.heap w2 "com/example/curtaincall/curtaincall/rpc/Frame$Kind" "code" "I" (.int (3 : Int32))) (F3 : Fld Z Z.heap w3 "com/example/curtaincall/curtaincall/rpc/Frame$Kind" "code" "I" (.int (4 : Int32))) (F4 : Fld Z Z.heap w4 "com/example/curtaincall/curtaincall/rpc/Frame$Kind" "code" "I" (.int (5 : Int32))) (F5 : Fld Z Z.heap w5 "com/example/curtaincall/curtaincall/rpc/Frame$Kind" "code" "I" (.int (6 : Int32))) (F6 : Fld Z Z.heap w6 "com/example/curtaincall/curtaincall/rpc/Frame$Kind" "code" "I" (.int (7 : Int32))) (F7 : Fld Z Z.heap w7 "com/example/curtaincall/curtaincall/rpc/Frame$Kind" "code" "I" (.int (8 : Int32)))  (hpb : own_kind ((p2 &&& (7 : Int32)) + (1 : Int32)) w0 w1 w2 w3 w4 w5 w6 w7 = .ref rb) (FB : Fld Z Z.heap rb "com/example/curtaincall/curtaincall/rpc/Frame$Kind" "code" "I" (.int ((p2 &&& (7 : Int32)) + (1 : Int32)))) :
    MetFree l x (head1 (Jvm.Cond.code x code maxLocals ret :: ws) room_1) (fun a U => a = #[(.int p1), (.int p2)] ∧ Z.Warmed39 U.vm ∧ U.heap = h0) (fun _ _ _ _ _ => True) (fun _ U o U' => ∃ v L, o = .returned v ∧ (Q_rm0_null Z p1 p2 w0 w1 w2 w3 w4 w5 w6 w7 wv rb kk h0 n0 v U'.heap L) ∧ FrameEnd U o U' L room_1.cells room_1.slots) := by
  cases hv : own_kind p1 w0 w1 w2 w3 w4 w5 w6 w7 with
  | null => exact rm0_null l Z a0 hw ws p1 p2 w0 w1 w2 w3 w4 w5 w6 w7 wv rb kk h0 n0 Z0 O0 SV AV EV S0 S1 S2 S3 S4 S5 S6 S7 F0 F1 F2 F3 F4 F5 F6 F7 hv hpb FB
  | ref ra => exact rm0_ref l Z a0 hw ws p1 p2 w0 w1 w2 w3 w4 w5 w6 w7 wv rb ra kk h0 n0 Z0 O0 SV AV EV S0 S1 S2 S3 S4 S5 S6 S7 F0 F1 F2 F3 F4 F5 F6 F7 hv hpb FB
  | _ => exact absurd (own_kind_ref p1 w0 w1 w2 w3 w4 w5 w6 w7) (by rw [hv]; nofun)
set_option maxRecDepth 65536 in
set_option maxHeartbeats 40000000 in
theorem comes_1 {Post : Tables → Env → Array Value → State → Outcome → State → Prop} (hpost : ∀ tb e args s v u, (limb_1_1.after args s (.returned v) u = true ∧ limb_1_2.after args s (.returned v) u = true ∧ True) → FrameEnd s (.returned v) u (Jvm.fieldLocs frame_1_writes args s ++ Jvm.arrayLocs frame_1_arrays args s ++ Jvm.staticLocs frame_1_statics s) 16 128 → Post tb e args s (.returned v) u) :
    ArmFor flags0 classFile x code maxLocals ret World_1 tables_1 room_1 Calls_1 rest_1 Pre_1 Post := by
  intro l hfl _ _ p e ha hc hk s m args below hf hA hF happ hP
  obtain ⟨hcalls, hrest, hpre⟩ := hP
  obtain ⟨-, -, -, hnamed, -, -, -, hat⟩ := (Spec.applies_iff hf).mp happ
  obtain ⟨hg, hn⟩ := and_e (Cond.before_iff.mp (show (Jvm.Cond.and given_1 narrow_1).before args s = true from hpre))
  obtain ⟨gc, g0⟩ := and_e hg
  obtain ⟨ga0, g1⟩ := and_e g0
  obtain ⟨w0, w1, rfl⟩ : ∃ w0 w1 : Value, args = #[w0, w1] := by
    have hs : args.size = 2 := by simpa [Cond.value, given_1] using gc
    obtain ⟨L⟩ := args
    match L, hs with
    | [w0, w1], _ => exact ⟨w0, w1, rfl⟩
  have hw := fun d (hd : d ∈ tables_1) => atoms_spec (ws := Jvm.Cond.code x code maxLocals ret :: tables_1) hat d (List.mem_cons_of_mem _ hd)
  have hfit : Fit s := fun {y c} hc i hi => by
    obtain ⟨ha, rfl⟩ := Array.getElem?_eq_some_iff.mp hc
    have q := List.all_eq_true.mp ((Array.all_eq_true_iff_forall_mem.mp hF) _ (Array.getElem_mem ha)) i (List.mem_range.mpr hi)
    simpa [Array.getElem?_eq_getElem hi] using q
  obtain ⟨i0, ei0⟩ := is_v ga0
  obtain rfl : w0 = (.int i0) := Option.some.inj ei0
  obtain ⟨i1, ei1⟩ := is_v g1
  obtain rfl : w1 = (.int i1) := Option.some.inj ei1
  obtain ⟨n1a, n1b⟩ := and_e hn
  obtain ⟨n2a, n2b⟩ := and_e n1b
  obtain ⟨n3a, n3b⟩ := and_e n2b
  obtain ⟨n4a, n4b⟩ := and_e n3b
  obtain ⟨n5a, n5b⟩ := and_e n4b
  obtain ⟨n6a, n6b⟩ := and_e n5b
  obtain ⟨n7a, n7b⟩ := and_e n6b
  obtain ⟨n8a, n8b⟩ := and_e n7b
  obtain ⟨n9a, n9b⟩ := and_e n8b
  obtain ⟨n10a, n10b⟩ := and_e n9b
  obtain ⟨n11a, n11b⟩ := and_e n10b
  obtain ⟨n12a, n12b⟩ := and_e n11b
  obtain ⟨n13a, n13b⟩ := and_e n12b
  obtain ⟨n14a, n14b⟩ := and_e n13b
  obtain ⟨n15a, n15b⟩ := and_e n14b
  obtain ⟨n16a, n16b⟩ := and_e n15b
  obtain ⟨n17a, n17b⟩ := and_e n16b
  obtain ⟨n18a, n18b⟩ := and_e n17b
  obtain ⟨n19a, n19b⟩ := and_e n18b
  obtain ⟨n20a, n20b⟩ := and_e n19b
  obtain ⟨n21a, n21b⟩ := and_e n20b
  obtain ⟨n22a, n22b⟩ := and_e n21b
  obtain ⟨n23a, n23b⟩ := and_e n22b
  obtain ⟨n24a, n24b⟩ := and_e n23b
  obtain ⟨n25a, n25b⟩ := and_e n24b
  obtain ⟨n26a, n26b⟩ := and_e n25b
  obtain ⟨w_VALUES, v_VALUES⟩ := exa_v n2a
  have S_VALUES : Sta s s.heap "com/example/curtaincall/curtaincall/rpc/Frame$Kind" "$VALUES" "[Lcom/example/curtaincall/curtaincall/rpc/Frame$Kind;" (.ref w_VALUES) := Sta.start v_VALUES (Or.inr ⟨(hw _ (List.mem_of_getElem? (i := 2) rfl)), (hw _ (List.mem_of_getElem? (i := 8) rfl))⟩)
  have E_VALUES : Exa s s.heap w_VALUES "[Lcom/example/curtaincall/curtaincall/rpc/Frame$Kind;" := Exa.start v_VALUES n2a
  obtain ⟨w_CALL, v_CALL⟩ := exa_v n4a
  have S_CALL : Sta s s.heap "com/example/curtaincall/curtaincall/rpc/Frame$Kind" "CALL" "Lcom/example/curtaincall/curtaincall/rpc/Frame$Kind;" (.ref w_CALL) := Sta.start v_CALL (Or.inr ⟨(hw _ (List.mem_of_getElem? (i := 2) rfl)), (hw _ (List.mem_of_getElem? (i := 16) rfl))⟩)
  have E_CALL : Exa s s.heap w_CALL "com/example/curtaincall/curtaincall/rpc/Frame$Kind" := Exa.start v_CALL n4a
  obtain ⟨w_ANSWER, v_ANSWER⟩ := exa_v n6a
  have S_ANSWER : Sta s s.heap "com/example/curtaincall/curtaincall/rpc/Frame$Kind" "ANSWER" "Lcom/example/curtaincall/curtaincall/rpc/Frame$Kind;" (.ref w_ANSWER) := Sta.start v_ANSWER (Or.inr ⟨(hw _ (List.mem_of_getElem? (i := 2) rfl)), (hw _ (List.mem_of_getElem? (i := 17) rfl))⟩)
  have E_ANSWER : Exa s s.heap w_ANSWER "com/example/curtaincall/curtaincall/rpc/Frame$Kind" := Exa.start v_ANSWER n6a
  obtain ⟨w_ERROR, v_ERROR⟩ := exa_v n8a
  have S_ERROR : Sta s s.heap "com/example/curtaincall/curtaincall/rpc/Frame$Kind" "ERROR" "Lcom/example/curtaincall/curtaincall/rpc/Frame$Kind;" (.ref w_ERROR) := Sta.start v_ERROR (Or.inr ⟨(hw _ (List.mem_of_getElem? (i := 2) rfl)), (hw _ (List.mem_of_getElem? (i := 18) rfl))⟩)
  have E_ERROR : Exa s s.heap w_ERROR "com/example/curtaincall/curtaincall/rpc/Frame$Kind" := Exa.start v_ERROR n8a
  obtain ⟨w_READY, v_READY⟩ := exa_v n10a
  have S_READY : Sta s s.heap "com/example/curtaincall/curtaincall/rpc/Frame$Kind" "READY" "Lcom/example/curtaincall/curtaincall/rpc/Frame$Kind;" (.ref w_READY) := Sta.start v_READY (Or.inr ⟨(hw _ (List.mem_of_getElem? (i := 2) rfl)), (hw _ (List.mem_of_getElem? (i := 19) rfl))⟩)
  have E_READY : Exa s s.heap w_READY "com/example/curtaincall/curtaincall/rpc/Frame$Kind" := Exa.start v_READY n10a
  obtain ⟨w_STOPPING, v_STOPPING⟩ := exa_v n12a
  have S_STOPPING : Sta s s.heap "com/example/curtaincall/curtaincall/rpc/Frame$Kind" "STOPPING" "Lcom/example/curtaincall/curtaincall/rpc/Frame$Kind;" (.ref w_STOPPING) := Sta.start v_STOPPING (Or.inr ⟨(hw _ (List.mem_of_getElem? (i := 2) rfl)), (hw _ (List.mem_of_getElem? (i := 20) rfl))⟩)
  have E_STOPPING : Exa s s.heap w_STOPPING "com/example/curtaincall/curtaincall/rpc/Frame$Kind" := Exa.start v_STOPPING n12a
  obtain ⟨w_DONE_SENDING, v_DONE_SENDING⟩ := exa_v n14a
  have S_DONE_SENDING : Sta s s.heap "com/example/curtaincall/curtaincall/rpc/Frame$Kind" "DONE_SENDING" "Lcom/example/curtaincall/curtaincall/rpc/Frame$Kind;" (.ref w_DONE_SENDING) := Sta.start v_DONE_SENDING (Or.inr ⟨(hw _ (List.mem_of_getElem? (i := 2) rfl)), (hw _ (List.mem_of_getElem? (i := 21) rfl))⟩)
  have E_DONE_SENDING : Exa s s.heap w_DONE_SENDING "com/example/curtaincall/curtaincall/rpc/Frame$Kind" := Exa.start v_DONE_SENDING n14a
  obtain ⟨w_PING, v_PING⟩ := exa_v n16a
  have S_PING : Sta s s.heap "com/example/curtaincall/curtaincall/rpc/Frame$Kind" "PING" "Lcom/example/curtaincall/curtaincall/rpc/Frame$Kind;" (.ref w_PING) := Sta.start v_PING (Or.inr ⟨(hw _ (List.mem_of_getElem? (i := 2) rfl)), (hw _ (List.mem_of_getElem? (i := 22) rfl))⟩)
  have E_PING : Exa s s.heap w_PING "com/example/curtaincall/curtaincall/rpc/Frame$Kind" := Exa.start v_PING n16a
  obtain ⟨w_PONG, v_PONG⟩ := exa_v n18a
  have S_PONG : Sta s s.heap "com/example/curtaincall/curtaincall/rpc/Frame$Kind" "PONG" "Lcom/example/curtaincall/curtaincall/rpc/Frame$Kind;" (.ref w_PONG) := Sta.start v_PONG (Or.inr ⟨(hw _ (List.mem_of_getElem? (i := 2) rfl)), (hw _ (List.mem_of_getElem? (i := 23) rfl))⟩)
  have E_PONG : Exa s s.heap w_PONG "com/example/curtaincall/curtaincall/rpc/Frame$Kind" := Exa.start v_PONG n18a
  obtain ⟨cl_VALUES, Ar_VALUES⟩ := Arr.start v_VALUES n1a
  have At_VALUES := Arr.fin (State.Warmed39.refl s).alike Ar_VALUES
  have Len_VALUES := Jvm.Free.IntBox.length_fwd (Cond.before_iff.mpr n3a) v_VALUES Ar_VALUES.1 Ar_VALUES.2.1 Ar_VALUES.2.2
  have L_VALUES_0 : cl_VALUES.slots[0]? = some (.ref w_CALL) := own_elemI v_VALUES At_VALUES (own_eqR n5a v_CALL)
  have L_VALUES_1 : cl_VALUES.slots[1]? = some (.ref w_ANSWER) := own_elemI v_VALUES At_VALUES (own_eqR n7a v_ANSWER)
  have L_VALUES_2 : cl_VALUES.slots[2]? = some (.ref w_ERROR) := own_elemI v_VALUES At_VALUES (own_eqR n9a v_ERROR)
  have L_VALUES_3 : cl_VALUES.slots[3]? = some (.ref w_READY) := own_elemI v_VALUES At_VALUES (own_eqR n11a v_READY)
  have L_VALUES_4 : cl_VALUES.slots[4]? = some (.ref w_STOPPING) := own_elemI v_VALUES At_VALUES (own_eqR n13a v_STOPPING)
  have L_VALUES_5 : cl_VALUES.slots[5]? = some (.ref w_DONE_SENDING) := own_elemI v_VALUES At_VALUES (own_eqR n15a v_DONE_SENDING)
  have L_VALUES_6 : cl_VALUES.slots[6]? = some (.ref w_PING) := own_elemI v_VALUES At_VALUES (own_eqR n17a v_PING)
  have L_VALUES_7 : cl_VALUES.slots[7]? = some (.ref w_PONG) := own_elemI v_VALUES At_VALUES (own_eqR n19a v_PONG)
  have F_code_CALL : Fld s s.heap w_CALL "com/example/curtaincall/curtaincall/rpc/Frame$Kind" "code" "I" (.int (1 : Int32)) := own_fld v_CALL (own_eqI n20a)
  have F_code_ANSWER : Fld s s.heap w_ANSWER "com/example/curtaincall/curtaincall/rpc/Frame$Kind" "code" "I" (.int (2 : Int32)) := own_fld v_ANSWER (own_eqI n21a)
  have F_code_ERROR : Fld s s.heap w_ERROR "com/example/curtaincall/curtaincall/rpc/Frame$Kind" "code" "I" (.int (3 : Int32)) := own_fld v_ERROR (own_eqI n22a)
  have F_code_READY : Fld s s.heap w_READY "com/example/curtaincall/curtaincall/rpc/Frame$Kind" "code" "I" (.int (4 : Int32)) := own_fld v_READY (own_eqI n23a)
  have F_code_STOPPING : Fld s s.heap w_STOPPING "com/example/curtaincall/curtaincall/rpc/Frame$Kind" "code" "I" (.int (5 : Int32)) := own_fld v_STOPPING (own_eqI n24a)
  have F_code_DONE_SENDING : Fld s s.heap w_DONE_SENDING "com/example/curtaincall/curtaincall/rpc/Frame$Kind" "code" "I" (.int (6 : Int32)) := own_fld v_DONE_SENDING (own_eqI n25a)
  have F_code_PING : Fld s s.heap w_PING "com/example/curtaincall/curtaincall/rpc/Frame$Kind" "code" "I" (.int (7 : Int32)) := own_fld v_PING (own_eqI n26a)
  have F_code_PONG : Fld s s.heap w_PONG "com/example/curtaincall/curtaincall/rpc/Frame$Kind" "code" "I" (.int (8 : Int32)) := own_fld v_PONG (own_eqI n26b)
  have AV : Arh s s.heap w_VALUES cl_VALUES.cls (.object "com/example/curtaincall/curtaincall/rpc/Frame$Kind") (8 : Int32) [] [(.ref w_CALL), (.ref w_ANSWER), (.ref w_ERROR), (.ref w_READY), (.ref w_STOPPING), (.ref w_DONE_SENDING), (.ref w_PING), (.ref w_PONG)] .null := (Arv.start (vs := [(.ref w_CALL), (.ref w_ANSWER), (.ref w_ERROR), (.ref w_READY), (.ref w_STOPPING), (.ref w_DONE_SENDING), (.ref w_PING), (.ref w_PONG)]) (dv := .null) hfit Ar_VALUES Len_VALUES.1 Len_VALUES.2 (by decide) rfl ⟨L_VALUES_0, L_VALUES_1, L_VALUES_2, L_VALUES_3, L_VALUES_4, L_VALUES_5, L_VALUES_6, L_VALUES_7, trivial⟩).arh
  obtain ⟨rb, hpb, FB⟩ : ∃ rb : Addr, own_kind ((i1 &&& (7 : Int32)) + (1 : Int32)) w_CALL w_ANSWER w_ERROR w_READY w_STOPPING w_DONE_SENDING w_PING w_PONG = .ref rb ∧ Fld s s.heap rb "com/example/curtaincall/curtaincall/rpc/Frame$Kind" "code" "I" (.int ((i1 &&& (7 : Int32)) + (1 : Int32))) := by
    rcases own_and7 i1 with h | h | h | h | h | h | h | h <;> rw [h]
    · exact ⟨w_CALL, rfl, F_code_CALL⟩
    · exact ⟨w_ANSWER, rfl, F_code_ANSWER⟩
    · exact ⟨w_ERROR, rfl, F_code_ERROR⟩
    · exact ⟨w_READY, rfl, F_code_READY⟩
    · exact ⟨w_STOPPING, rfl, F_code_STOPPING⟩
    · exact ⟨w_DONE_SENDING, rfl, F_code_DONE_SENDING⟩
    · exact ⟨w_PING, rfl, F_code_PING⟩
    · exact ⟨w_PONG, rfl, F_code_PONG⟩
  obtain ⟨n, o, h1, h2, h3, _, L, rfl, ⟨rfl, N⟩, hq⟩ := rm0 l s _ hw tables_1 i0 i1 w_CALL w_ANSWER w_ERROR w_READY w_STOPPING w_DONE_SENDING w_PING w_PONG w_VALUES rb cl_VALUES.cls s.heap s.heap.size (Nat.le_refl _) (Old.start s) S_VALUES AV E_VALUES S_CALL S_ANSWER S_ERROR S_READY S_STOPPING S_DONE_SENDING S_PING S_PONG F_code_CALL F_code_ANSWER F_code_ERROR F_code_READY F_code_STOPPING F_code_DONE_SENDING F_code_PING F_code_PONG hpb FB p e ha hc hk s m _ below hf ((Spec.applies_iff_loose hf).mp happ).1 ⟨rfl, State.Warmed39.refl s, rfl⟩ trivial
  refine ⟨n, _, h1, h2, h3, hpost _ _ _ _ _ _ ⟨Cond.after_iff.mpr rfl, Cond.after_iff.mpr (eq_i res_at (Term.int_eval (1)) rfl), trivial⟩ ⟨hq.1, hq.2.1, (hq.2.2.sift fun y hy => Or.inr (N y hy)).mono (by decide) (by decide)⟩⟩
theorem main_1_1 : Claimed_1_1 := comes_1 fun _ _ _ _ _ _ h hF => ⟨h.1, hF⟩
theorem main_1_2 : Claimed_1_2 := comes_1 fun _ _ _ _ _ _ h hF => ⟨h.2.1, hF⟩
end Jvm.Pilot.@@N@@
namespace Jvm.Pilot.@@N@@
open Jvm Jvm.ClassFile Sem Op Lib Jvm.Free Jvm.Stand Jvm.Pilot.@@N@@.Jvm.D
/-! MADE BY PROGRAM (witnessworld.py) out of the Statement's table words and the real class files: 13 classes; the members and pool entries that the words name. The judged class is class 1, her method 2. -/
namespace start1
open Jvm.ClassFile
def u (s : String) : CpInfo := .utf8 (stringToUtf16 s)
/-- a pool by its gaps: so many unusable entries, then the entry; so many at the end -/
def gap : Nat → List CpInfo → List CpInfo
  | 0, r => r
  | n + 1, r => .unusable :: gap n r
def poolList (es : List (Nat × CpInfo)) (last : Nat) : List CpInfo := es.foldr (fun e r => gap e.1 (e.2 :: r)) (gap last [])
def pool (es : List (Nat × CpInfo)) (last : Nat) : Array CpInfo := ⟨poolList es last⟩
def fileOf (pool : Array CpInfo) (this : Nat) (attrs : Array Attribute := #[]) (ms : Array MethodInfo := #[]) (fl : Nat := 33) (sup : Nat := 0) (ifs : Array Nat := #[]) (fds : Array FieldInfo := #[]) : ClassFile where
  minorVersion := 0
  majorVersion := 65
  constantPool := pool
  accessFlags := fl
  thisClass := this
  superClass := sup
  interfaces := ifs
  fields := fds
  methods := ms
  attributes := attrs
def plain (name : String) (sup : Option ClassId) : Class where
  name := name
  kind := .ordinary
  loader := none
  accessFlags := 33
  super := sup
  interfaces := #[]
  cf := none
  fields := #[]
  methods := #[]
  instanceTypes := #[]
  staticTypes := #[]
  resolved := #[]
  callSites := []
  init := .initialized
  statics := none
  mirror := none

def pool0 : Array CpInfo := pool [(5, u "<init>"), (0, u "()V"), (1, .class_ 10), (1, u "java/lang/Object"), (85, u "clone"), (0, u "()Ljava/lang/Object;")] 26

def k0m0 : Method := { name := "<init>", desc := "()V", sig := { parameters := [], returnType := none }, accessFlags := 1, code := none }
def k0m1 : Method := { name := "clone", desc := "()Ljava/lang/Object;", sig := { parameters := [], returnType := some (.object "java/lang/Object") }, accessFlags := 260, code := none }
/-- java/lang/Object -/
def k0 : Class := { plain "java/lang/Object" none with
  accessFlags := 33
  interfaces := #[]
  cf := some (fileOf pool0 8 #[] #[{ accessFlags := 1, nameIndex := 5, descriptorIndex := 6, attributes := #[] }, { accessFlags := 260, nameIndex := 96, descriptorIndex := 97, attributes := #[] }] 33 0 #[] #[])
  fields := #[]
  methods := #[k0m0, k0m1]
  instanceTypes := #[]
  staticTypes := #[]
  resolved := Array.replicate 124 none
  statics := none }

def pool1 : Array CpInfo := pool [(2, .class_ 4), (1, u "java/lang/Object"), (0, u "<init>"), (0, u "()V"), (0, .fieldref 8 9), (0, .class_ 10), (0, .nameAndType 11 12), (0, u "com/example/curtaincall/curtaincall/rpc/Frame$Kind"), (0, u "CALL"), (0, u "Lcom/example/curtaincall/curtaincall/rpc/Frame$Kind;"), (0, .fieldref 8 14), (0, .nameAndType 15 12), (0, u "ANSWER"), (0, .fieldref 8 17), (0, .nameAndType 18 12), (0, u "ERROR"), (0, .fieldref 8 20), (0, .nameAndType 21 12), (0, u "READY"), (0, .fieldref 8 23), (0, .nameAndType 24 12), (0, u "STOPPING"), (0, .fieldref 8 26), (0, .nameAndType 27 12), (0, u "DONE_SENDING"), (0, .fieldref 8 29), (0, .nameAndType 30 12), (0, u "PING"), (0, .fieldref 8 32), (0, .nameAndType 33 12), (0, u "PONG"), (0, .methodref 8 35), (0, .nameAndType 36 37), (0, u "of"), (0, u "(I)Lcom/example/curtaincall/curtaincall/rpc/Frame$Kind;"), (0, .methodref 39 40), (0, .class_ 41), (0, .nameAndType 42 37), (0, u "com/example/curtaincall/curtaincall/rpc/KindOfPinLaw"), (0, u "expected"), (0, .fieldref 8 44), (0, .nameAndType 45 46), (0, u "code"), (0, u "I"), (3, u "law"), (0, u "(II)Z")] 6

def k1m0 : Method := { name := "<init>", desc := "()V", sig := { parameters := [], returnType := none }, accessFlags := 1, code := none }
def k1c1 : Code := { maxStack := 2, maxLocals := 1, code := method_2_code, exceptionTable := #[], attributes := #[] }
def k1m1 : Method := { name := "expected", desc := "(I)Lcom/example/curtaincall/curtaincall/rpc/Frame$Kind;", sig := { parameters := [.int], returnType := some (.object "com/example/curtaincall/curtaincall/rpc/Frame$Kind") }, accessFlags := 10, code := some k1c1 }
def k1c2 : Code := { maxStack := 2, maxLocals := 5, code := code, exceptionTable := #[], attributes := #[] }
def k1m2 : Method := { name := "law", desc := "(II)Z", sig := { parameters := [.int, .int], returnType := some .boolean }, accessFlags := 9, code := some k1c2 }
/-- com/example/curtaincall/curtaincall/rpc/KindOfPinLaw -/
def k1 : Class := { plain "com/example/curtaincall/curtaincall/rpc/KindOfPinLaw" (some 0) with
  accessFlags := 49
  interfaces := #[]
  cf := some (fileOf pool1 39 #[] #[{ accessFlags := 1, nameIndex := 5, descriptorIndex := 6, attributes := #[] }, { accessFlags := 10, nameIndex := 42, descriptorIndex := 37, attributes := #[] }, { accessFlags := 9, nameIndex := 50, descriptorIndex := 51, attributes := #[] }] 49 2 #[] #[])
  fields := #[]
  methods := #[k1m0, k1m1, k1m2]
  instanceTypes := #[]
  staticTypes := #[]
  resolved := Array.replicate 58 none
  statics := none }

def pool2 : Array CpInfo := pool [(1, .class_ 2), (0, u "java/lang/constant/Constable"), (0, .class_ 4), (0, u "java/lang/Object")] 6

/-- java/lang/constant/Constable -/
def k2 : Class := { plain "java/lang/constant/Constable" (some 0) with
  accessFlags := 1537
  interfaces := #[]
  cf := some (fileOf pool2 1 #[] #[] 1537 3 #[] #[])
  fields := #[]
  methods := #[]
  instanceTypes := #[]
  staticTypes := #[]
  resolved := Array.replicate 11 none
  statics := none }

def pool3 : Array CpInfo := pool [(1, .class_ 2), (0, u "java/lang/Comparable"), (0, .class_ 4), (0, u "java/lang/Object")] 7

/-- java/lang/Comparable -/
def k3 : Class := { plain "java/lang/Comparable" (some 0) with
  accessFlags := 1537
  interfaces := #[]
  cf := some (fileOf pool3 1 #[] #[] 1537 3 #[] #[])
  fields := #[]
  methods := #[]
  instanceTypes := #[]
  staticTypes := #[]
  resolved := Array.replicate 12 none
  statics := none }

def pool4 : Array CpInfo := pool [(1, .class_ 2), (0, u "java/io/Serializable"), (0, .class_ 4), (0, u "java/lang/Object")] 2

/-- java/io/Serializable -/
def k4 : Class := { plain "java/io/Serializable" (some 0) with
  accessFlags := 1537
  interfaces := #[]
  cf := some (fileOf pool4 1 #[] #[] 1537 3 #[] #[])
  fields := #[]
  methods := #[]
  instanceTypes := #[]
  staticTypes := #[]
  resolved := Array.replicate 7 none
  statics := none }

def pool5 : Array CpInfo := pool [(2, .class_ 4), (1, u "java/lang/Enum"), (0, u "name"), (0, u "Ljava/lang/String;"), (2, u "ordinal"), (0, u "I"), (1, .class_ 14), (1, u "java/lang/Object"), (4, u "hash"), (86, .class_ 108), (1, u "java/lang/Enum$EnumDesc"), (2, .class_ 112), (0, u "java/lang/constant/Constable"), (0, .class_ 114), (0, u "java/lang/Comparable"), (0, .class_ 116), (0, u "java/io/Serializable")] 87

/-- java/lang/Enum -/
def k5 : Class := { plain "java/lang/Enum" (some 0) with
  accessFlags := 1057
  interfaces := #[2, 3, 4]
  cf := some (fileOf pool5 2 #[.nestMembers #[106]] #[] 1057 12 #[111, 113, 115] #[{ accessFlags := 18, nameIndex := 5, descriptorIndex := 6, attributes := #[] }, { accessFlags := 18, nameIndex := 9, descriptorIndex := 10, attributes := #[] }, { accessFlags := 2, nameIndex := 19, descriptorIndex := 10, attributes := #[] }])
  fields := #[{ name := "name", type := (.object "java/lang/String"), accessFlags := 18, slot := 0, constantValue := 0 }, { name := "ordinal", type := .int, accessFlags := 18, slot := 1, constantValue := 0 }, { name := "hash", type := .int, accessFlags := 2, slot := 2, constantValue := 0 }]
  methods := #[]
  instanceTypes := #[(.object "java/lang/String"), .int, .int]
  staticTypes := #[]
  resolved := Array.replicate 204 none
  statics := none }

def pool6 : Array CpInfo := pool [(1, .class_ 2), (0, u "com/example/curtaincall/curtaincall/rpc/Frame$Kind"), (2, u "CALL"), (0, u "Lcom/example/curtaincall/curtaincall/rpc/Frame$Kind;"), (2, u "ANSWER"), (2, u "ERROR"), (2, u "READY"), (2, u "STOPPING"), (2, u "DONE_SENDING"), (2, u "PING"), (2, u "PONG"), (0, .fieldref 1 29), (0, .nameAndType 30 31), (0, u "$VALUES"), (0, u "[Lcom/example/curtaincall/curtaincall/rpc/Frame$Kind;"), (0, .methodref 33 34), (0, .class_ 31), (0, .nameAndType 35 36), (0, u "clone"), (0, u "()Ljava/lang/Object;"), (1, .class_ 40), (1, u "java/lang/Enum"), (6, .fieldref 1 48), (0, .nameAndType 49 50), (0, u "code"), (0, u "I"), (0, .methodref 1 52), (0, .nameAndType 53 54), (0, u "values"), (0, u "()[Lcom/example/curtaincall/curtaincall/rpc/Frame$Kind;"), (20, u "of"), (0, u "(I)Lcom/example/curtaincall/curtaincall/rpc/Frame$Kind;"), (7, .class_ 85), (0, u "com/example/curtaincall/curtaincall/rpc/Frame")] 2

def k6c0 : Code := { maxStack := 1, maxLocals := 0, code := prog_20_method_1_code, exceptionTable := #[], attributes := #[] }
def k6m0 : Method := { name := "values", desc := "()[Lcom/example/curtaincall/curtaincall/rpc/Frame$Kind;", sig := { parameters := [], returnType := some (.array (.object "com/example/curtaincall/curtaincall/rpc/Frame$Kind")) }, accessFlags := 9, code := some k6c0 }
def k6c1 : Code := { maxStack := 2, maxLocals := 5, code := prog_20_method_4_code, exceptionTable := #[], attributes := #[] }
def k6m1 : Method := { name := "of", desc := "(I)Lcom/example/curtaincall/curtaincall/rpc/Frame$Kind;", sig := { parameters := [.int], returnType := some (.object "com/example/curtaincall/curtaincall/rpc/Frame$Kind") }, accessFlags := 8, code := some k6c1 }
/-- com/example/curtaincall/curtaincall/rpc/Frame$Kind -/
def k6 : Class := { plain "com/example/curtaincall/curtaincall/rpc/Frame$Kind" (some 5) with
  accessFlags := 16432
  interfaces := #[]
  cf := some (fileOf pool6 1 #[.nestHost 84] #[{ accessFlags := 9, nameIndex := 53, descriptorIndex := 54, attributes := #[] }, { accessFlags := 8, nameIndex := 75, descriptorIndex := 76, attributes := #[] }] 16432 38 #[] #[{ accessFlags := 16409, nameIndex := 5, descriptorIndex := 6, attributes := #[] }, { accessFlags := 16409, nameIndex := 9, descriptorIndex := 6, attributes := #[] }, { accessFlags := 16409, nameIndex := 12, descriptorIndex := 6, attributes := #[] }, { accessFlags := 16409, nameIndex := 15, descriptorIndex := 6, attributes := #[] }, { accessFlags := 16409, nameIndex := 18, descriptorIndex := 6, attributes := #[] }, { accessFlags := 16409, nameIndex := 21, descriptorIndex := 6, attributes := #[] }, { accessFlags := 16409, nameIndex := 24, descriptorIndex := 6, attributes := #[] }, { accessFlags := 16409, nameIndex := 27, descriptorIndex := 6, attributes := #[] }, { accessFlags := 16, nameIndex := 49, descriptorIndex := 50, attributes := #[] }, { accessFlags := 4122, nameIndex := 30, descriptorIndex := 31, attributes := #[] }])
  fields := #[{ name := "CALL", type := (.object "com/example/curtaincall/curtaincall/rpc/Frame$Kind"), accessFlags := 16409, slot := 0, constantValue := 0 }, { name := "ANSWER", type := (.object "com/example/curtaincall/curtaincall/rpc/Frame$Kind"), accessFlags := 16409, slot := 1, constantValue := 0 }, { name := "ERROR", type := (.object "com/example/curtaincall/curtaincall/rpc/Frame$Kind"), accessFlags := 16409, slot := 2, constantValue := 0 }, { name := "READY", type := (.object "com/example/curtaincall/curtaincall/rpc/Frame$Kind"), accessFlags := 16409, slot := 3, constantValue := 0 }, { name := "STOPPING", type := (.object "com/example/curtaincall/curtaincall/rpc/Frame$Kind"), accessFlags := 16409, slot := 4, constantValue := 0 }, { name := "DONE_SENDING", type := (.object "com/example/curtaincall/curtaincall/rpc/Frame$Kind"), accessFlags := 16409, slot := 5, constantValue := 0 }, { name := "PING", type := (.object "com/example/curtaincall/curtaincall/rpc/Frame$Kind"), accessFlags := 16409, slot := 6, constantValue := 0 }, { name := "PONG", type := (.object "com/example/curtaincall/curtaincall/rpc/Frame$Kind"), accessFlags := 16409, slot := 7, constantValue := 0 }, { name := "code", type := .int, accessFlags := 16, slot := 3, constantValue := 0 }, { name := "$VALUES", type := (.array (.object "com/example/curtaincall/curtaincall/rpc/Frame$Kind")), accessFlags := 4122, slot := 8, constantValue := 0 }]
  methods := #[k6m0, k6m1]
  instanceTypes := #[(.object "java/lang/String"), .int, .int, .int]
  staticTypes := #[(.object "com/example/curtaincall/curtaincall/rpc/Frame$Kind"), (.object "com/example/curtaincall/curtaincall/rpc/Frame$Kind"), (.object "com/example/curtaincall/curtaincall/rpc/Frame$Kind"), (.object "com/example/curtaincall/curtaincall/rpc/Frame$Kind"), (.object "com/example/curtaincall/curtaincall/rpc/Frame$Kind"), (.object "com/example/curtaincall/curtaincall/rpc/Frame$Kind"), (.object "com/example/curtaincall/curtaincall/rpc/Frame$Kind"), (.object "com/example/curtaincall/curtaincall/rpc/Frame$Kind"), (.array (.object "com/example/curtaincall/curtaincall/rpc/Frame$Kind"))]
  resolved := Array.replicate 88 none
  statics := some 0 }

def pool7 : Array CpInfo := pool [(1, .class_ 2), (0, u "java/lang/Cloneable"), (0, .class_ 4), (0, u "java/lang/Object")] 2

/-- java/lang/Cloneable -/
def k7 : Class := { plain "java/lang/Cloneable" (some 0) with
  accessFlags := 1537
  interfaces := #[]
  cf := some (fileOf pool7 1 #[] #[] 1537 3 #[] #[])
  fields := #[]
  methods := #[]
  instanceTypes := #[]
  staticTypes := #[]
  resolved := Array.replicate 7 none
  statics := none }

/-- the primitive byte -/
def k8 : Class := { plain "byte" none with kind := .primitive 'B', accessFlags := 0x411 }
/-- [B -/
def k9 : Class := { plain "[B" (some 0) with kind := .array 8 .byte, interfaces := #[7, 4], accessFlags := 1041 }

/-- the primitive int -/
def k10 : Class := { plain "int" none with kind := .primitive 'I', accessFlags := 0x411 }
/-- [I -/
def k11 : Class := { plain "[I" (some 0) with kind := .array 10 .int, interfaces := #[7, 4], accessFlags := 1041 }

/-- [Lcom/example/curtaincall/curtaincall/rpc/Frame$Kind; -/
def k12 : Class := { plain "[Lcom/example/curtaincall/curtaincall/rpc/Frame$Kind;" (some 0) with kind := .array 6 (.object "com/example/curtaincall/curtaincall/rpc/Frame$Kind"), interfaces := #[7, 4], accessFlags := 1041 }

def heap : Heap := #[{ cls := 6, slots := #[.ref 2, .ref 3, .ref 4, .ref 5, .ref 6, .ref 7, .ref 8, .ref 9, .ref 1], vm := .statics 6 },
  { cls := 12, slots := #[.ref 2, .ref 3, .ref 4, .ref 5, .ref 6, .ref 7, .ref 8, .ref 9], vm := .none },
  { cls := 6, slots := #[.null, .int 0, .int 0, .int 1], vm := .none },
  { cls := 6, slots := #[.null, .int 0, .int 0, .int 2], vm := .none },
  { cls := 6, slots := #[.null, .int 0, .int 0, .int 3], vm := .none },
  { cls := 6, slots := #[.null, .int 0, .int 0, .int 4], vm := .none },
  { cls := 6, slots := #[.null, .int 0, .int 0, .int 5], vm := .none },
  { cls := 6, slots := #[.null, .int 0, .int 0, .int 6], vm := .none },
  { cls := 6, slots := #[.null, .int 0, .int 0, .int 7], vm := .none },
  { cls := 6, slots := #[.null, .int 0, .int 0, .int 8], vm := .none }]
def classes : Array Class := #[k0, k1, k2, k3, k4, k5, k6, k7, k8, k9, k10, k11, k12]
def interned : List (Array UInt16 × Addr) := []
def slotsUsed : Nat := 49
def theMethod : MethodId := ⟨1, 2⟩
def args0 : Array Value := #[.int 5, .int 7]
def aboutOver (below : List Frame) : State where
  vm := { classes := classes, interned := interned.toArray }
  heap := heap
  slotsUsed := slotsUsed
  threads := #[{ frames := .invoking theMethod args0 :: below }]
def below0 : List Frame := [.native { method := ⟨0, 0⟩, args := #[] }]
def about1 : State := aboutOver below0
def p0 : Program := .bare "" "" ""
def e0 : Env := launch0.env 0 0 0
theorem w_frames : about1.frames = Frame.invoking theMethod args0 :: below0 := rfl
set_option maxRecDepth 65536 in
theorem w_args : argsFit about1.vm theMethod args0 = true := by decide +kernel
set_option maxRecDepth 65536 in
theorem w_heap : heapFits about1 = true := by decide +kernel
set_option maxRecDepth 65536 in
theorem w_runnable : about1.curStatus? = some .runnable := by decide +kernel
set_option maxRecDepth 65536 in
theorem w_alone : about1.alone = true := by decide +kernel
set_option maxRecDepth 65536 in
theorem w_named : about1.methodNamed? x = some theMethod := by decide +kernel
set_option maxRecDepth 65536 in
theorem w_hears : about1.hears theMethod below0 = true := by decide +kernel
set_option maxRecDepth 65536 in
theorem w_ripe : about1.ripe theMethod args0 below0 = true := by decide +kernel
theorem w_running : about1.status = .running := rfl
set_option maxRecDepth 65536 in
theorem w_room : about1.hasRoom e0.platform room_1 = true :=
  launch0.hasRoom_least _ room_1 (by decide +kernel) (by decide +kernel) (by decide +kernel) (by decide +kernel) (by decide +kernel) (by decide +kernel)
theorem allAtoms_all (ts : List Jvm.Cond) (a : Array Jvm.Value) (st : Jvm.State) : (allAtoms ts).before a st = ts.all (fun c => c.before a st) := by
  induction ts with
  | nil => rfl
  | cons c t ih =>
    show (Jvm.Cond.and c (allAtoms t)).before a st = _
    rw [Jvm.Cond.before_and, ih, List.all_cons]
def words1 : List Jvm.Cond := Jvm.Cond.code x code maxLocals ret :: tables_1
/-- a 'code' word, met by the world's own term for the bytes: nothing is compared byte by byte -/
theorem code_word {y : MethodName} {bytes : ByteArray} {mx : Nat} {rt : Option FieldType} {a : Array Value} {s : State} {m : MethodId} {meth : Method} {c : Code} (h1 : s.methodNamed? y = some m) (h2 : s.vm.method? m = some meth) (h3 : meth.code = some c) (h4 : c.code = bytes)
    (h5 : (c.maxLocals == mx && c.exceptionTable.isEmpty && decide (c.maxStack ≤ mostOperands) && decide (meth.sig.returnType = rt) && !meth.locks && decide (parseMethodDescriptor y.desc = some meth.sig)) = true) : (Jvm.Cond.code y bytes mx rt).before a s = true := by
  simp only [Bool.and_eq_true, beq_iff_eq, Bool.not_eq_true', decide_eq_true_eq] at h5
  obtain ⟨⟨⟨⟨⟨g1, g2⟩, g3⟩, g4⟩, g5⟩, g6⟩ := h5
  simp [Cond.before, Cond.holds, Cond.value, h1, h2, h3, h4, g1, g2, g3, g4, g5, g6]
def isCode : Jvm.Cond → Bool
  | .code _ _ _ _ => true
  | _ => false
theorem all_split {L : List Jvm.Cond} {P : Jvm.Cond → Bool} (h1 : L.all (fun c => isCode c || P c) = true) (h2 : ∀ c ∈ L.filter isCode, P c = true) : L.all P = true := by
  refine List.all_eq_true.mpr fun c hc => ?_
  have h := List.all_eq_true.mp h1 c hc
  rcases Bool.eq_false_or_eq_true (isCode c) with hi | hi
  · exact h2 c (List.mem_filter.mpr ⟨hc, hi⟩)
  · simpa [hi] using h
set_option maxRecDepth 65536 in
theorem w_c0 : (Jvm.Cond.code x code maxLocals ret).before args0 about1 = true := code_word (m := ⟨1, 2⟩) (meth := k1m2) (c := k1c2) (by decide +kernel) rfl rfl rfl (by decide +kernel)
set_option maxRecDepth 65536 in
theorem w_c1 : (Jvm.Cond.code ({ cls := "com/example/curtaincall/curtaincall/rpc/Frame$Kind", name := "of", desc := "(I)Lcom/example/curtaincall/curtaincall/rpc/Frame$Kind;" } : Jvm.MethodName) prog_20_method_4_code (5 : Nat) (Option.some (Jvm.ClassFile.FieldType.object "com/example/curtaincall/curtaincall/rpc/Frame$Kind"))).before args0 about1 = true := code_word (m := ⟨6, 1⟩) (meth := k6m1) (c := k6c1) (by decide +kernel) rfl rfl rfl (by decide +kernel)
set_option maxRecDepth 65536 in
theorem w_c2 : (Jvm.Cond.code ({ cls := "com/example/curtaincall/curtaincall/rpc/Frame$Kind", name := "values", desc := "()[Lcom/example/curtaincall/curtaincall/rpc/Frame$Kind;" } : Jvm.MethodName) prog_20_method_1_code (0 : Nat) (Option.some (Jvm.ClassFile.FieldType.array (Jvm.ClassFile.FieldType.object "com/example/curtaincall/curtaincall/rpc/Frame$Kind")))).before args0 about1 = true := code_word (m := ⟨6, 0⟩) (meth := k6m0) (c := k6c0) (by decide +kernel) rfl rfl rfl (by decide +kernel)
set_option maxRecDepth 65536 in
theorem w_c3 : (Jvm.Cond.code ({ cls := "com/example/curtaincall/curtaincall/rpc/KindOfPinLaw", name := "expected", desc := "(I)Lcom/example/curtaincall/curtaincall/rpc/Frame$Kind;" } : Jvm.MethodName) method_2_code (1 : Nat) (Option.some (Jvm.ClassFile.FieldType.object "com/example/curtaincall/curtaincall/rpc/Frame$Kind"))).before args0 about1 = true := code_word (m := ⟨1, 1⟩) (meth := k1m1) (c := k1c1) (by decide +kernel) rfl rfl rfl (by decide +kernel)
def codes1 : List Jvm.Cond := [Jvm.Cond.code x code maxLocals ret, Jvm.Cond.code ({ cls := "com/example/curtaincall/curtaincall/rpc/Frame$Kind", name := "of", desc := "(I)Lcom/example/curtaincall/curtaincall/rpc/Frame$Kind;" } : Jvm.MethodName) prog_20_method_4_code (5 : Nat) (Option.some (Jvm.ClassFile.FieldType.object "com/example/curtaincall/curtaincall/rpc/Frame$Kind")), Jvm.Cond.code ({ cls := "com/example/curtaincall/curtaincall/rpc/Frame$Kind", name := "values", desc := "()[Lcom/example/curtaincall/curtaincall/rpc/Frame$Kind;" } : Jvm.MethodName) prog_20_method_1_code (0 : Nat) (Option.some (Jvm.ClassFile.FieldType.array (Jvm.ClassFile.FieldType.object "com/example/curtaincall/curtaincall/rpc/Frame$Kind"))), Jvm.Cond.code ({ cls := "com/example/curtaincall/curtaincall/rpc/KindOfPinLaw", name := "expected", desc := "(I)Lcom/example/curtaincall/curtaincall/rpc/Frame$Kind;" } : Jvm.MethodName) method_2_code (1 : Nat) (Option.some (Jvm.ClassFile.FieldType.object "com/example/curtaincall/curtaincall/rpc/Frame$Kind"))]
set_option maxRecDepth 65536 in
theorem codes_eq : words1.filter isCode = codes1 := rfl
theorem w_codes : ∀ c ∈ words1.filter isCode, c.before args0 about1 = true := by
  rw [codes_eq]
  intro c hc
  simp only [codes1, List.mem_cons, List.not_mem_nil, or_false] at hc
  rcases hc with rfl | rfl | rfl | rfl
  · exact w_c0
  · exact w_c1
  · exact w_c2
  · exact w_c3
set_option maxRecDepth 65536 in
theorem w_t1 : (words1.take 24).all (fun c => isCode c || c.before args0 about1) = true := by decide +kernel
set_option maxRecDepth 65536 in
theorem w_t2 : (words1.drop 24).all (fun c => isCode c || c.before args0 about1) = true := by decide +kernel
theorem w_tables : (allAtoms (Jvm.Cond.code x code maxLocals ret :: tables_1)).before args0 about1 = true := by
  rw [allAtoms_all]
  show words1.all (fun c => c.before args0 about1) = true
  refine all_split ?_ w_codes
  rw [← List.take_append_drop 24 words1, List.all_append, w_t1, w_t2]
  rfl
set_option maxRecDepth 65536 in
theorem w_case : (Jvm.Cond.and given_1 narrow_1).before args0 about1 = true := by decide +kernel
theorem w_applies : (headSpec (Jvm.Cond.code x code maxLocals ret :: tables_1) room_1).applies x e0.platform about1 = true :=
  (Spec.applies_iff w_frames).mpr ⟨w_running, w_runnable, w_alone, w_named, w_hears, w_ripe, w_room, w_tables⟩
theorem atStart : AtStart classFile x code maxLocals ret World_1 tables_1 room_1 Calls_1 rest_1 Pre_1 launch0 p0 e0 about1 theMethod args0 below0 :=
  ⟨lists_1, trivial, launch0.admits_env _ _ _, launch0.least_env, fairChoices_fair.cas, fairChoices_fair.clock, w_frames, w_args, w_heap, w_applies, trivial, trivial, w_case⟩
end start1
theorem witness_1 : WitnessClaimed_1 := ⟨start1.p0, start1.e0, start1.about1, start1.theMethod, start1.args0, start1.below0, start1.atStart⟩
end Jvm.Pilot.@@N@@
