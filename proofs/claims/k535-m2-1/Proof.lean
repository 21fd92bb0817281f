import JvmDerived
import JvmDerived.Pilot.@@N@@Statement
import JvmDerived.Pilot.@@N@@Code
set_option linter.unusedVariables false
set_option linter.unusedSimpArgs false
namespace Jvm.RoadKit
open Sem ClassFile Op Lib Jvm.Stand Jvm.Free Jvm.LawKit
section New
variable {p : Program} {l : Launch} {e : Env} {R : Room} {s : State} {m : MethodId} {args : Array Value} {below : List Frame} {meth : Method} {c : Code} {T : State} {locs : List Loc} {cells slots : Nat}
theorem retI (X : Stand p l e R s m args below meth c T locs cells slots) (hx : p.tables.exec = Jvm.exec) {pc : Nat} {Ls : Array Slot} {z : Int32} {rest : List Value} (hret : meth.sig.returnType = some .int) (hd : decode c.code pc = .ok (.ireturn, 1)) {fs : List Frame}
    (hl : ∀ (f : JFrame) (acts : List Action), f.method = m → f.locked = none → f.entered = [] → (doReturn e (T.setTop f) acts (some (.int z))).1 = T.setFrames fs) : Steps p.tables e below (T.setTop (mkF m pc Ls (.int z :: rest))) (T.setFrames fs) := by
  have hm' : T.vm.method? m = some meth := X.method'
  have hn : narrow .int (.int z) = .int z := rfl
  show Steps p.tables e below (T.setTop { method := m, pc := pc, locals := Ls, stack := _ :: rest, locked := none }) _
  jvm_step X.here [X.here.top, hx, hd, hm', hret, hn]
  first | (intro acts; rw [hl _ acts rfl rfl rfl]) | rw [hl _ _ rfl rfl rfl]
  exact Steps.refl _
end New
end Jvm.RoadKit
@@BLOCK:Masks.lean.txt@@
namespace Jvm.Pilot.@@N@@
open Jvm Jvm.ClassFile Sem Op Lib Jvm.Free Jvm.Stand Jvm.LawKit Jvm.RoadKit Bundle Jvm.Pilot.@@N@@.Jvm.D
theorem own_eqI {args : Array Value} {first s : State} {o : Option Outcome} {idx : List Nat} {a : Term} {k : Int32} (h : (Jvm.Cond.eq a (Term.int k)).value args first o s idx = some true) : a.eval args first o idx s = some (.int k) := by
  simp only [Cond.value, Term.eval] at h
  cases ha : a.eval args first o idx s with
  | none => simp [ha] at h
  | some x => cases x <;> simp [ha] at h ⊢; exact h
theorem own_eqR {args : Array Value} {first s : State} {o : Option Outcome} {idx : List Nat} {a b : Term} {y : Addr} (h : (Jvm.Cond.eq a b).value args first o s idx = some true) (hb : b.eval args first o idx s = some (.ref y)) : a.eval args first o idx s = some (.ref y) := by
  simp only [Cond.value, hb] at h
  cases ha : a.eval args first o idx s with
  | none => simp [ha] at h
  | some x => cases x <;> simp [ha] at h ⊢; exact h
theorem own_elemI {args : Array Value} {s : State} {t : Term} {a : Addr} {cell : Cell} {i : Int32} {v : Value} (ht : t.eval args s none [] s = some (.ref a)) (hAt : s.arrayAt? a = some cell) (h : (Term.elem t (.int i)).eval args s none [] s = some v) : cell.slots[i.toNatClampNeg]? = some v := by
  obtain ⟨a', j', cell', ht', hi', hAt', hin, hslot⟩ := Term.elem_spec h
  cases ht.symm.trans ht'
  cases hAt.symm.trans hAt'
  have q : (Term.int i).eval args s none [] s = some (.int i) := rfl
  cases q.symm.trans hi'
  exact hslot
theorem own_fld {args : Array Value} {s : State} {t : Term} {C n d : String} {x : Addr} {v : Value} (ht : t.eval args s none [] s = some (.ref x)) (h : (Term.field t C n d).eval args s none [] s = some v) : Fld s s.heap x C n d v := Fld.start ((fld_at ht).symm.trans h)
def QV (r : Value) (h0 : Heap) (n0 : Nat) (v : Option Value) (h : Heap) (L : List Loc) : Prop := v = some r ∧ Fr n0 L ∧ h = h0
theorem own_i32_in (q : Int32) (k : Int32) (h : q.toInt = k.toInt) : q = k := Int32.toInt_inj.mp h
theorem own_mod8 (p : Int32) : ((p &&& (2147483647 : Int32)) % (8 : Int32)) = 0 ∨ ((p &&& (2147483647 : Int32)) % (8 : Int32)) = 1 ∨ ((p &&& (2147483647 : Int32)) % (8 : Int32)) = 2 ∨ ((p &&& (2147483647 : Int32)) % (8 : Int32)) = 3 ∨ ((p &&& (2147483647 : Int32)) % (8 : Int32)) = 4 ∨ ((p &&& (2147483647 : Int32)) % (8 : Int32)) = 5 ∨ ((p &&& (2147483647 : Int32)) % (8 : Int32)) = 6 ∨ ((p &&& (2147483647 : Int32)) % (8 : Int32)) = 7 := by
  have h := (Jvm.Kit.i32_and_bounds p (m := 2147483647) (by decide)).1
  generalize p &&& (2147483647 : Int32) = u at h ⊢
  rw [Int32.le_iff_toInt_le] at h
  have h1 : (0 : Int) ≤ u.toInt := h
  have hm : (u % (8 : Int32)).toInt = u.toInt.tmod 8 := Int32.toInt_mod u 8
  have h2 : (u % (8 : Int32)).toInt = u.toInt % 8 := hm.trans (Int.tmod_eq_emod_of_nonneg h1)
  generalize u % (8 : Int32) = q at h2 ⊢
  have e : q.toInt = 0 ∨ q.toInt = 1 ∨ q.toInt = 2 ∨ q.toInt = 3 ∨ q.toInt = 4 ∨ q.toInt = 5 ∨ q.toInt = 6 ∨ q.toInt = 7 := by omega
  rcases e with e | e | e | e | e | e | e | e
  · exact Or.inl (own_i32_in q 0 e)
  · exact Or.inr (Or.inl (own_i32_in q 1 e))
  · exact Or.inr (Or.inr (Or.inl (own_i32_in q 2 e)))
  · exact Or.inr (Or.inr (Or.inr (Or.inl (own_i32_in q 3 e))))
  · exact Or.inr (Or.inr (Or.inr (Or.inr (Or.inl (own_i32_in q 4 e)))))
  · exact Or.inr (Or.inr (Or.inr (Or.inr (Or.inr (Or.inl (own_i32_in q 5 e))))))
  · exact Or.inr (Or.inr (Or.inr (Or.inr (Or.inr (Or.inr (Or.inl (own_i32_in q 6 e)))))))
  · exact Or.inr (Or.inr (Or.inr (Or.inr (Or.inr (Or.inr (Or.inr (own_i32_in q 7 e)))))))
def own_cb (p : Int32) (w0 w1 w2 w3 w4 w5 w6 w7 : Addr) : Addr := if p = 0 then w0 else if p = 1 then w1 else if p = 2 then w2 else if p = 3 then w3 else if p = 4 then w4 else if p = 5 then w5 else if p = 6 then w6 else w7
def own_st (p : Int32) (w0 w1 w2 w3 w4 w5 : Addr) : Addr := if p = 0 then w0 else if p = 1 then w1 else if p = 2 then w2 else if p = 3 then w3 else if p = 4 then w4 else w5
def own_exp (p : Int32) (b w1 w3 w4 w5 : Addr) : Addr := if p = 0 then w4 else if p = 1 then w3 else if p = 2 then w1 else if p = 3 then w3 else if p = 4 then w4 else if p = 5 then w4 else if p = 6 then b else w5
theorem d1_0 : decode method_2_code 0 = .ok (.iload_n 0, 1) := by decide +kernel
theorem d1_1 : decode method_2_code 1 = .ok (.ifCond .ne 7, 3) := by decide +kernel
theorem d1_4 : decode method_2_code 4 = .ok (.getstatic 7, 3) := by decide +kernel
theorem d1_7 : decode method_2_code 7 = .ok (.areturn, 1) := by decide +kernel
theorem d1_8 : decode method_2_code 8 = .ok (.iload_n 0, 1) := by decide +kernel
theorem d1_9 : decode method_2_code 9 = .ok (.iconst 1, 1) := by decide +kernel
theorem d1_10 : decode method_2_code 10 = .ok (.if_icmp .ne 7, 3) := by decide +kernel
theorem d1_13 : decode method_2_code 13 = .ok (.getstatic 13, 3) := by decide +kernel
theorem d1_16 : decode method_2_code 16 = .ok (.areturn, 1) := by decide +kernel
theorem d1_17 : decode method_2_code 17 = .ok (.iload_n 0, 1) := by decide +kernel
theorem d1_18 : decode method_2_code 18 = .ok (.iconst 2, 1) := by decide +kernel
theorem d1_19 : decode method_2_code 19 = .ok (.if_icmp .ne 7, 3) := by decide +kernel
theorem d1_22 : decode method_2_code 22 = .ok (.getstatic 16, 3) := by decide +kernel
theorem d1_25 : decode method_2_code 25 = .ok (.areturn, 1) := by decide +kernel
theorem d1_26 : decode method_2_code 26 = .ok (.iload_n 0, 1) := by decide +kernel
theorem d1_27 : decode method_2_code 27 = .ok (.iconst 3, 1) := by decide +kernel
theorem d1_28 : decode method_2_code 28 = .ok (.if_icmp .ne 7, 3) := by decide +kernel
theorem d1_31 : decode method_2_code 31 = .ok (.getstatic 19, 3) := by decide +kernel
theorem d1_34 : decode method_2_code 34 = .ok (.areturn, 1) := by decide +kernel
theorem d1_35 : decode method_2_code 35 = .ok (.iload_n 0, 1) := by decide +kernel
theorem d1_36 : decode method_2_code 36 = .ok (.iconst 4, 1) := by decide +kernel
theorem d1_37 : decode method_2_code 37 = .ok (.if_icmp .ne 7, 3) := by decide +kernel
theorem d1_40 : decode method_2_code 40 = .ok (.getstatic 22, 3) := by decide +kernel
theorem d1_43 : decode method_2_code 43 = .ok (.areturn, 1) := by decide +kernel
theorem d1_44 : decode method_2_code 44 = .ok (.iload_n 0, 1) := by decide +kernel
theorem d1_45 : decode method_2_code 45 = .ok (.iconst 5, 1) := by decide +kernel
theorem d1_46 : decode method_2_code 46 = .ok (.if_icmp .ne 7, 3) := by decide +kernel
theorem d1_49 : decode method_2_code 49 = .ok (.getstatic 25, 3) := by decide +kernel
theorem d1_52 : decode method_2_code 52 = .ok (.areturn, 1) := by decide +kernel
theorem d1_53 : decode method_2_code 53 = .ok (.iload_n 0, 1) := by decide +kernel
theorem d1_54 : decode method_2_code 54 = .ok (.bipush 6, 2) := by decide +kernel
theorem d1_56 : decode method_2_code 56 = .ok (.if_icmp .ne 7, 3) := by decide +kernel
theorem d1_59 : decode method_2_code 59 = .ok (.getstatic 28, 3) := by decide +kernel
theorem d1_62 : decode method_2_code 62 = .ok (.areturn, 1) := by decide +kernel
theorem d1_63 : decode method_2_code 63 = .ok (.getstatic 31, 3) := by decide +kernel
theorem d1_66 : decode method_2_code 66 = .ok (.areturn, 1) := by decide +kernel
theorem pn_0 : plainName "com/example/actd/actd/model/CallbackStateAfterPinLaw" = true := by first | (simp [plainName, overriddenIn]; done) | decide +kernel
theorem ef_1 (m : MethodId) (x0 : Int32) : entryFrame m #[(.int x0)] 1 = mkF m 0 #[.val (.int x0)] [] := by first | (simp [entryFrame, mkF, argsToLocals, Value.category]; done) | rfl
set_option maxRecDepth 65536 in
set_option maxHeartbeats 40000000 in
theorem rm1 (l : Launch) (Z : State) (a0 : Array Value) (hw : ∀ d ∈ tables_1, d.before a0 Z = true) (ws : List Jvm.Cond) (p1 : Int32) (c0 c1 c2 c3 c4 c5 c6 c7 r : Addr) (h0 : Heap) (n0 : Nat) (Z0 : n0 ≤ h0.size) (R0 : Sta Z h0 "com/example/actd/actd/model/Callback" "CREATE" "Lcom/example/actd/actd/model/Callback;" (.ref c0)) (R1 : Sta Z h0 "com/example/actd/actd/model/Callback" "START" "Lcom/example/actd/actd/model/Callback;" (.ref c1)) (R2 : Sta Z h0 "com/example/actd/actd/model/Callback" "RESUME" "Lcom/example/actd/actd/model/Callback;" (.ref c2)) (R3 : Sta Z h0 "com/example/actd/actd/model/Callback" "PAUSE" "Lcom/example/actd/actd/model/Callback;" (.ref c3)) (R4 : Sta Z h0 "com/example/actd/actd/model/Callback" "STOP" "Lcom/example/actd/actd/model/Callback;" (.ref c4)) (R5 : Sta Z h0 "com/example/actd/actd/model/Callback" "RESTART" "Lcom/example/actd/actd/model/Callback;" (.ref c5)) (R6 : Sta Z h0 "com/example/actd/actd/model/Callback" "NEW_INTENT" "Lcom/example/actd/actd/model/Callback;" (.ref c6)) (R7 : Sta Z h0 "com/example/actd/actd/model/Callback" "DESTROY" "Lcom/example/actd/actd/model/Callback;" (.ref c7)) (hpk : own_cb p1 c0 c1 c2 c3 c4 c5 c6 c7 = r) :
    MetFree l (⟨"com/example/actd/actd/model/CallbackStateAfterPinLaw", "callback", "(I)Lcom/example/actd/actd/model/Callback;"⟩ : MethodName) (head1 (Jvm.Cond.code (⟨"com/example/actd/actd/model/CallbackStateAfterPinLaw", "callback", "(I)Lcom/example/actd/actd/model/Callback;"⟩ : MethodName) method_2_code 1 (some (.object "com/example/actd/actd/model/Callback")) :: ws) ({ frames := 0, cells := 0, slots := 0, locals := 0 } : Room)) (fun a U => a = #[(.int p1)] ∧ Z.Warmed39 U.vm ∧ U.heap = h0) (fun _ _ _ _ _ => True) (fun _ U o U' => ∃ v L, o = .returned v ∧ (QV (.ref r) h0 n0 v U'.heap L) ∧ FrameEnd U o U' L ({ frames := 0, cells := 0, slots := 0, locals := 0 } : Room).cells ({ frames := 0, cells := 0, slots := 0, locals := 0 } : Room).slots) := by
  refine MetFree.of_bodySF (plainFor_of_name pn_0) hisR ?_
  intro p e s m args below meth c s₁ Bd hml0 hP hK
  obtain ⟨rfl, hZ, hh⟩ := hP
  have hx := Bd.exec
  have hby := Bd.bytes
  have hml : c.maxLocals = 1 := hml0
  have hown : s.vm.findClass "com/example/actd/actd/model/CallbackStateAfterPinLaw" = some m.cls := findClass_of_methodNamed Bd.named
  have hnm := (name_of_methodNamed Bd.named Bd.method).1
  have X0 : Stand p l e ({ frames := 0, cells := 0, slots := 0, locals := 0 } : Room) s m #[(.int p1)] below meth c s₁ [] 0 0 := Stand.of_body Bd
  have e0 : s₁.heap = h0 := by rw [← hh, Bd.state]; rfl
  have N0 := Fr.nil n0
  have pre0 : ∀ t, Steps p.tables e below (s₁.setTop (mkF m 0 #[.val (.int p1)] [])) t → Steps p.tables e below (s₁.setTop (entryFrame m #[(.int p1)] 1)) t := fun t k => castTop (ef_1 m p1) k
  have pre1 : ∀ t, Steps p.tables e below (s₁.setTop (mkF m 1 #[.val (.int p1)] [(.int p1)])) t → Steps p.tables e below (s₁.setTop (entryFrame m #[(.int p1)] 1)) t := fun t k => pre0 t (by
      show Steps p.tables e below (s₁.setTop (mkF m 0 #[.val (.int p1)] [])) _
      refine XS.iloadN X0.here hx rfl (hb hby d1_0) rfl ?_
      exact k)
  by_cases hc1_2 : p1 = (0 : Int32)
  · obtain ⟨T3, X3, e3, st3⟩ := getS2 X0 hx hZ hown (host := "") (Or.inl (hw _ (List.mem_of_getElem? (i := 5) rfl))) Via.refl e0 R0 (g := (mkF m 4 #[.val (.int p1)] [])) rfl (hb hby d1_4)
    obtain ⟨fs, hr, hrun, hended, hW, hsame⟩ := X3.leave (v := some (.ref c0)) (fun h => by rw [Bd.returns] at h; cases h)
    refine ⟨_, _, pre1 _ ?_, hrun, hended, _, _, rfl, ?_, ⟨_, rfl⟩, hW, hsame.mono (by decide) (by decide)⟩
    · show Steps p.tables e below (s₁.setTop (mkF m 1 #[.val (.int p1)] [(.int p1)])) _
      refine XS.ifNo X0.here hx rfl (hb hby d1_1) rfl ((if0 _ _).trans (teq hc1_2).2) ?_
      show Steps p.tables e below (s₁.setTop (mkF m 4 #[.val (.int p1)] [])) _
      refine st3 _ ?_
      show Steps p.tables e below (T3.setTop (mkF m 7 #[.val (.int p1)] [(.ref c0)])) _
      jvm_step X3.here [X3.here.top, hx, (hb hby d1_7), X3.method', Bd.returns, Value.isRef, FieldType.isReference]
      first | (intro acts; rw [hr _ acts rfl rfl rfl]) | rw [hr _ _ rfl rfl rfl]
      exact Steps.refl _
    · show QV (.ref r) h0 n0 _ T3.heap _
      rw [e3]
      exact ⟨by rw [← hpk]; rw [own_cb, if_pos hc1_2], N0, rfl⟩
  · have pre4 : ∀ t, Steps p.tables e below (s₁.setTop (mkF m 10 #[.val (.int p1)] [(.int (1 : Int32)), (.int p1)])) t → Steps p.tables e below (s₁.setTop (entryFrame m #[(.int p1)] 1)) t := fun t k => pre1 t (by
        show Steps p.tables e below (s₁.setTop (mkF m 1 #[.val (.int p1)] [(.int p1)])) _
        refine XS.ifYes X0.here hx rfl (pc0 := 1) (pc' := 8) rfl (hb hby d1_1) rfl ((if0 _ _).trans (feq hc1_2).2) (by decide) (by decide) ?_
        show Steps p.tables e below (s₁.setTop (mkF m 8 #[.val (.int p1)] [])) _
        refine XS.iloadN X0.here hx rfl (hb hby d1_8) rfl ?_
        show Steps p.tables e below (s₁.setTop (mkF m 9 #[.val (.int p1)] [(.int p1)])) _
        refine XS.iconst X0.here hx rfl (hb hby d1_9) ?_
        exact k)
    by_cases hc10_5 : p1 = (1 : Int32)
    · obtain ⟨T6, X6, e6, st6⟩ := getS2 X0 hx hZ hown (host := "") (Or.inl (hw _ (List.mem_of_getElem? (i := 44) rfl))) Via.refl e0 R1 (g := (mkF m 13 #[.val (.int p1)] [])) rfl (hb hby d1_13)
      obtain ⟨fs, hr, hrun, hended, hW, hsame⟩ := X6.leave (v := some (.ref c1)) (fun h => by rw [Bd.returns] at h; cases h)
      refine ⟨_, _, pre4 _ ?_, hrun, hended, _, _, rfl, ?_, ⟨_, rfl⟩, hW, hsame.mono (by decide) (by decide)⟩
      · show Steps p.tables e below (s₁.setTop (mkF m 10 #[.val (.int p1)] [(.int (1 : Int32)), (.int p1)])) _
        refine XS.icmpNo X0.here hx rfl (hb hby d1_10) rfl (teq hc10_5).2 ?_
        show Steps p.tables e below (s₁.setTop (mkF m 13 #[.val (.int p1)] [])) _
        refine st6 _ ?_
        show Steps p.tables e below (T6.setTop (mkF m 16 #[.val (.int p1)] [(.ref c1)])) _
        jvm_step X6.here [X6.here.top, hx, (hb hby d1_16), X6.method', Bd.returns, Value.isRef, FieldType.isReference]
        first | (intro acts; rw [hr _ acts rfl rfl rfl]) | rw [hr _ _ rfl rfl rfl]
        exact Steps.refl _
      · show QV (.ref r) h0 n0 _ T6.heap _
        rw [e6]
        exact ⟨by rw [← hpk]; rw [own_cb, if_neg hc1_2, if_pos hc10_5], N0, rfl⟩
    · have pre7 : ∀ t, Steps p.tables e below (s₁.setTop (mkF m 19 #[.val (.int p1)] [(.int (2 : Int32)), (.int p1)])) t → Steps p.tables e below (s₁.setTop (entryFrame m #[(.int p1)] 1)) t := fun t k => pre4 t (by
          show Steps p.tables e below (s₁.setTop (mkF m 10 #[.val (.int p1)] [(.int (1 : Int32)), (.int p1)])) _
          refine XS.icmpYes X0.here hx rfl (pc0 := 10) (pc' := 17) rfl (hb hby d1_10) rfl (feq hc10_5).2 (by decide) (by decide) ?_
          show Steps p.tables e below (s₁.setTop (mkF m 17 #[.val (.int p1)] [])) _
          refine XS.iloadN X0.here hx rfl (hb hby d1_17) rfl ?_
          show Steps p.tables e below (s₁.setTop (mkF m 18 #[.val (.int p1)] [(.int p1)])) _
          refine XS.iconst X0.here hx rfl (hb hby d1_18) ?_
          exact k)
      by_cases hc19_8 : p1 = (2 : Int32)
      · obtain ⟨T9, X9, e9, st9⟩ := getS2 X0 hx hZ hown (host := "") (Or.inl (hw _ (List.mem_of_getElem? (i := 46) rfl))) Via.refl e0 R2 (g := (mkF m 22 #[.val (.int p1)] [])) rfl (hb hby d1_22)
        obtain ⟨fs, hr, hrun, hended, hW, hsame⟩ := X9.leave (v := some (.ref c2)) (fun h => by rw [Bd.returns] at h; cases h)
        refine ⟨_, _, pre7 _ ?_, hrun, hended, _, _, rfl, ?_, ⟨_, rfl⟩, hW, hsame.mono (by decide) (by decide)⟩
        · show Steps p.tables e below (s₁.setTop (mkF m 19 #[.val (.int p1)] [(.int (2 : Int32)), (.int p1)])) _
          refine XS.icmpNo X0.here hx rfl (hb hby d1_19) rfl (teq hc19_8).2 ?_
          show Steps p.tables e below (s₁.setTop (mkF m 22 #[.val (.int p1)] [])) _
          refine st9 _ ?_
          show Steps p.tables e below (T9.setTop (mkF m 25 #[.val (.int p1)] [(.ref c2)])) _
          jvm_step X9.here [X9.here.top, hx, (hb hby d1_25), X9.method', Bd.returns, Value.isRef, FieldType.isReference]
          first | (intro acts; rw [hr _ acts rfl rfl rfl]) | rw [hr _ _ rfl rfl rfl]
          exact Steps.refl _
        · show QV (.ref r) h0 n0 _ T9.heap _
          rw [e9]
          exact ⟨by rw [← hpk]; rw [own_cb, if_neg hc1_2, if_neg hc10_5, if_pos hc19_8], N0, rfl⟩
      · have pre10 : ∀ t, Steps p.tables e below (s₁.setTop (mkF m 28 #[.val (.int p1)] [(.int (3 : Int32)), (.int p1)])) t → Steps p.tables e below (s₁.setTop (entryFrame m #[(.int p1)] 1)) t := fun t k => pre7 t (by
            show Steps p.tables e below (s₁.setTop (mkF m 19 #[.val (.int p1)] [(.int (2 : Int32)), (.int p1)])) _
            refine XS.icmpYes X0.here hx rfl (pc0 := 19) (pc' := 26) rfl (hb hby d1_19) rfl (feq hc19_8).2 (by decide) (by decide) ?_
            show Steps p.tables e below (s₁.setTop (mkF m 26 #[.val (.int p1)] [])) _
            refine XS.iloadN X0.here hx rfl (hb hby d1_26) rfl ?_
            show Steps p.tables e below (s₁.setTop (mkF m 27 #[.val (.int p1)] [(.int p1)])) _
            refine XS.iconst X0.here hx rfl (hb hby d1_27) ?_
            exact k)
        by_cases hc28_11 : p1 = (3 : Int32)
        · obtain ⟨T12, X12, e12, st12⟩ := getS2 X0 hx hZ hown (host := "") (Or.inl (hw _ (List.mem_of_getElem? (i := 42) rfl))) Via.refl e0 R3 (g := (mkF m 31 #[.val (.int p1)] [])) rfl (hb hby d1_31)
          obtain ⟨fs, hr, hrun, hended, hW, hsame⟩ := X12.leave (v := some (.ref c3)) (fun h => by rw [Bd.returns] at h; cases h)
          refine ⟨_, _, pre10 _ ?_, hrun, hended, _, _, rfl, ?_, ⟨_, rfl⟩, hW, hsame.mono (by decide) (by decide)⟩
          · show Steps p.tables e below (s₁.setTop (mkF m 28 #[.val (.int p1)] [(.int (3 : Int32)), (.int p1)])) _
            refine XS.icmpNo X0.here hx rfl (hb hby d1_28) rfl (teq hc28_11).2 ?_
            show Steps p.tables e below (s₁.setTop (mkF m 31 #[.val (.int p1)] [])) _
            refine st12 _ ?_
            show Steps p.tables e below (T12.setTop (mkF m 34 #[.val (.int p1)] [(.ref c3)])) _
            jvm_step X12.here [X12.here.top, hx, (hb hby d1_34), X12.method', Bd.returns, Value.isRef, FieldType.isReference]
            first | (intro acts; rw [hr _ acts rfl rfl rfl]) | rw [hr _ _ rfl rfl rfl]
            exact Steps.refl _
          · show QV (.ref r) h0 n0 _ T12.heap _
            rw [e12]
            exact ⟨by rw [← hpk]; rw [own_cb, if_neg hc1_2, if_neg hc10_5, if_neg hc19_8, if_pos hc28_11], N0, rfl⟩
        · have pre13 : ∀ t, Steps p.tables e below (s₁.setTop (mkF m 37 #[.val (.int p1)] [(.int (4 : Int32)), (.int p1)])) t → Steps p.tables e below (s₁.setTop (entryFrame m #[(.int p1)] 1)) t := fun t k => pre10 t (by
              show Steps p.tables e below (s₁.setTop (mkF m 28 #[.val (.int p1)] [(.int (3 : Int32)), (.int p1)])) _
              refine XS.icmpYes X0.here hx rfl (pc0 := 28) (pc' := 35) rfl (hb hby d1_28) rfl (feq hc28_11).2 (by decide) (by decide) ?_
              show Steps p.tables e below (s₁.setTop (mkF m 35 #[.val (.int p1)] [])) _
              refine XS.iloadN X0.here hx rfl (hb hby d1_35) rfl ?_
              show Steps p.tables e below (s₁.setTop (mkF m 36 #[.val (.int p1)] [(.int p1)])) _
              refine XS.iconst X0.here hx rfl (hb hby d1_36) ?_
              exact k)
          by_cases hc37_14 : p1 = (4 : Int32)
          · obtain ⟨T15, X15, e15, st15⟩ := getS2 X0 hx hZ hown (host := "") (Or.inl (hw _ (List.mem_of_getElem? (i := 30) rfl))) Via.refl e0 R4 (g := (mkF m 40 #[.val (.int p1)] [])) rfl (hb hby d1_40)
            obtain ⟨fs, hr, hrun, hended, hW, hsame⟩ := X15.leave (v := some (.ref c4)) (fun h => by rw [Bd.returns] at h; cases h)
            refine ⟨_, _, pre13 _ ?_, hrun, hended, _, _, rfl, ?_, ⟨_, rfl⟩, hW, hsame.mono (by decide) (by decide)⟩
            · show Steps p.tables e below (s₁.setTop (mkF m 37 #[.val (.int p1)] [(.int (4 : Int32)), (.int p1)])) _
              refine XS.icmpNo X0.here hx rfl (hb hby d1_37) rfl (teq hc37_14).2 ?_
              show Steps p.tables e below (s₁.setTop (mkF m 40 #[.val (.int p1)] [])) _
              refine st15 _ ?_
              show Steps p.tables e below (T15.setTop (mkF m 43 #[.val (.int p1)] [(.ref c4)])) _
              jvm_step X15.here [X15.here.top, hx, (hb hby d1_43), X15.method', Bd.returns, Value.isRef, FieldType.isReference]
              first | (intro acts; rw [hr _ acts rfl rfl rfl]) | rw [hr _ _ rfl rfl rfl]
              exact Steps.refl _
            · show QV (.ref r) h0 n0 _ T15.heap _
              rw [e15]
              exact ⟨by rw [← hpk]; rw [own_cb, if_neg hc1_2, if_neg hc10_5, if_neg hc19_8, if_neg hc28_11, if_pos hc37_14], N0, rfl⟩
          · have pre16 : ∀ t, Steps p.tables e below (s₁.setTop (mkF m 46 #[.val (.int p1)] [(.int (5 : Int32)), (.int p1)])) t → Steps p.tables e below (s₁.setTop (entryFrame m #[(.int p1)] 1)) t := fun t k => pre13 t (by
                show Steps p.tables e below (s₁.setTop (mkF m 37 #[.val (.int p1)] [(.int (4 : Int32)), (.int p1)])) _
                refine XS.icmpYes X0.here hx rfl (pc0 := 37) (pc' := 44) rfl (hb hby d1_37) rfl (feq hc37_14).2 (by decide) (by decide) ?_
                show Steps p.tables e below (s₁.setTop (mkF m 44 #[.val (.int p1)] [])) _
                refine XS.iloadN X0.here hx rfl (hb hby d1_44) rfl ?_
                show Steps p.tables e below (s₁.setTop (mkF m 45 #[.val (.int p1)] [(.int p1)])) _
                refine XS.iconst X0.here hx rfl (hb hby d1_45) ?_
                exact k)
            by_cases hc46_17 : p1 = (5 : Int32)
            · obtain ⟨T18, X18, e18, st18⟩ := getS2 X0 hx hZ hown (host := "") (Or.inl (hw _ (List.mem_of_getElem? (i := 38) rfl))) Via.refl e0 R5 (g := (mkF m 49 #[.val (.int p1)] [])) rfl (hb hby d1_49)
              obtain ⟨fs, hr, hrun, hended, hW, hsame⟩ := X18.leave (v := some (.ref c5)) (fun h => by rw [Bd.returns] at h; cases h)
              refine ⟨_, _, pre16 _ ?_, hrun, hended, _, _, rfl, ?_, ⟨_, rfl⟩, hW, hsame.mono (by decide) (by decide)⟩
              · show Steps p.tables e below (s₁.setTop (mkF m 46 #[.val (.int p1)] [(.int (5 : Int32)), (.int p1)])) _
                refine XS.icmpNo X0.here hx rfl (hb hby d1_46) rfl (teq hc46_17).2 ?_
                show Steps p.tables e below (s₁.setTop (mkF m 49 #[.val (.int p1)] [])) _
                refine st18 _ ?_
                show Steps p.tables e below (T18.setTop (mkF m 52 #[.val (.int p1)] [(.ref c5)])) _
                jvm_step X18.here [X18.here.top, hx, (hb hby d1_52), X18.method', Bd.returns, Value.isRef, FieldType.isReference]
                first | (intro acts; rw [hr _ acts rfl rfl rfl]) | rw [hr _ _ rfl rfl rfl]
                exact Steps.refl _
              · show QV (.ref r) h0 n0 _ T18.heap _
                rw [e18]
                exact ⟨by rw [← hpk]; rw [own_cb, if_neg hc1_2, if_neg hc10_5, if_neg hc19_8, if_neg hc28_11, if_neg hc37_14, if_pos hc46_17], N0, rfl⟩
            · have pre19 : ∀ t, Steps p.tables e below (s₁.setTop (mkF m 56 #[.val (.int p1)] [(.int (6 : Int32)), (.int p1)])) t → Steps p.tables e below (s₁.setTop (entryFrame m #[(.int p1)] 1)) t := fun t k => pre16 t (by
                  show Steps p.tables e below (s₁.setTop (mkF m 46 #[.val (.int p1)] [(.int (5 : Int32)), (.int p1)])) _
                  refine XS.icmpYes X0.here hx rfl (pc0 := 46) (pc' := 53) rfl (hb hby d1_46) rfl (feq hc46_17).2 (by decide) (by decide) ?_
                  show Steps p.tables e below (s₁.setTop (mkF m 53 #[.val (.int p1)] [])) _
                  refine XS.iloadN X0.here hx rfl (hb hby d1_53) rfl ?_
                  show Steps p.tables e below (s₁.setTop (mkF m 54 #[.val (.int p1)] [(.int p1)])) _
                  refine XS.bipush X0.here hx rfl (hb hby d1_54) ?_
                  exact k)
              by_cases hc56_20 : p1 = (6 : Int32)
              · obtain ⟨T21, X21, e21, st21⟩ := getS2 X0 hx hZ hown (host := "") (Or.inl (hw _ (List.mem_of_getElem? (i := 26) rfl))) Via.refl e0 R6 (g := (mkF m 59 #[.val (.int p1)] [])) rfl (hb hby d1_59)
                obtain ⟨fs, hr, hrun, hended, hW, hsame⟩ := X21.leave (v := some (.ref c6)) (fun h => by rw [Bd.returns] at h; cases h)
                refine ⟨_, _, pre19 _ ?_, hrun, hended, _, _, rfl, ?_, ⟨_, rfl⟩, hW, hsame.mono (by decide) (by decide)⟩
                · show Steps p.tables e below (s₁.setTop (mkF m 56 #[.val (.int p1)] [(.int (6 : Int32)), (.int p1)])) _
                  refine XS.icmpNo X0.here hx rfl (hb hby d1_56) rfl (teq hc56_20).2 ?_
                  show Steps p.tables e below (s₁.setTop (mkF m 59 #[.val (.int p1)] [])) _
                  refine st21 _ ?_
                  show Steps p.tables e below (T21.setTop (mkF m 62 #[.val (.int p1)] [(.ref c6)])) _
                  jvm_step X21.here [X21.here.top, hx, (hb hby d1_62), X21.method', Bd.returns, Value.isRef, FieldType.isReference]
                  first | (intro acts; rw [hr _ acts rfl rfl rfl]) | rw [hr _ _ rfl rfl rfl]
                  exact Steps.refl _
                · show QV (.ref r) h0 n0 _ T21.heap _
                  rw [e21]
                  exact ⟨by rw [← hpk]; rw [own_cb, if_neg hc1_2, if_neg hc10_5, if_neg hc19_8, if_neg hc28_11, if_neg hc37_14, if_neg hc46_17, if_pos hc56_20], N0, rfl⟩
              · obtain ⟨T22, X22, e22, st22⟩ := getS2 X0 hx hZ hown (host := "") (Or.inl (hw _ (List.mem_of_getElem? (i := 40) rfl))) Via.refl e0 R7 (g := (mkF m 63 #[.val (.int p1)] [])) rfl (hb hby d1_63)
                obtain ⟨fs, hr, hrun, hended, hW, hsame⟩ := X22.leave (v := some (.ref c7)) (fun h => by rw [Bd.returns] at h; cases h)
                refine ⟨_, _, pre19 _ ?_, hrun, hended, _, _, rfl, ?_, ⟨_, rfl⟩, hW, hsame.mono (by decide) (by decide)⟩
                · show Steps p.tables e below (s₁.setTop (mkF m 56 #[.val (.int p1)] [(.int (6 : Int32)), (.int p1)])) _
                  refine XS.icmpYes X0.here hx rfl (pc0 := 56) (pc' := 63) rfl (hb hby d1_56) rfl (feq hc56_20).2 (by decide) (by decide) ?_
                  show Steps p.tables e below (s₁.setTop (mkF m 63 #[.val (.int p1)] [])) _
                  refine st22 _ ?_
                  show Steps p.tables e below (T22.setTop (mkF m 66 #[.val (.int p1)] [(.ref c7)])) _
                  jvm_step X22.here [X22.here.top, hx, (hb hby d1_66), X22.method', Bd.returns, Value.isRef, FieldType.isReference]
                  first | (intro acts; rw [hr _ acts rfl rfl rfl]) | rw [hr _ _ rfl rfl rfl]
                  exact Steps.refl _
                · show QV (.ref r) h0 n0 _ T22.heap _
                  rw [e22]
                  exact ⟨by rw [← hpk]; rw [own_cb, if_neg hc1_2, if_neg hc10_5, if_neg hc19_8, if_neg hc28_11, if_neg hc37_14, if_neg hc46_17, if_neg hc56_20], N0, rfl⟩
theorem d2_0 : decode method_3_code 0 = .ok (.iload_n 0, 1) := by decide +kernel
theorem d2_1 : decode method_3_code 1 = .ok (.ifCond .ne 7, 3) := by decide +kernel
theorem d2_4 : decode method_3_code 4 = .ok (.getstatic 34, 3) := by decide +kernel
theorem d2_7 : decode method_3_code 7 = .ok (.areturn, 1) := by decide +kernel
theorem d2_8 : decode method_3_code 8 = .ok (.iload_n 0, 1) := by decide +kernel
theorem d2_9 : decode method_3_code 9 = .ok (.iconst 1, 1) := by decide +kernel
theorem d2_10 : decode method_3_code 10 = .ok (.if_icmp .ne 7, 3) := by decide +kernel
theorem d2_13 : decode method_3_code 13 = .ok (.getstatic 40, 3) := by decide +kernel
theorem d2_16 : decode method_3_code 16 = .ok (.areturn, 1) := by decide +kernel
theorem d2_17 : decode method_3_code 17 = .ok (.iload_n 0, 1) := by decide +kernel
theorem d2_18 : decode method_3_code 18 = .ok (.iconst 2, 1) := by decide +kernel
theorem d2_19 : decode method_3_code 19 = .ok (.if_icmp .ne 7, 3) := by decide +kernel
theorem d2_22 : decode method_3_code 22 = .ok (.getstatic 43, 3) := by decide +kernel
theorem d2_25 : decode method_3_code 25 = .ok (.areturn, 1) := by decide +kernel
theorem d2_26 : decode method_3_code 26 = .ok (.iload_n 0, 1) := by decide +kernel
theorem d2_27 : decode method_3_code 27 = .ok (.iconst 3, 1) := by decide +kernel
theorem d2_28 : decode method_3_code 28 = .ok (.if_icmp .ne 7, 3) := by decide +kernel
theorem d2_31 : decode method_3_code 31 = .ok (.getstatic 46, 3) := by decide +kernel
theorem d2_34 : decode method_3_code 34 = .ok (.areturn, 1) := by decide +kernel
theorem d2_35 : decode method_3_code 35 = .ok (.iload_n 0, 1) := by decide +kernel
theorem d2_36 : decode method_3_code 36 = .ok (.iconst 4, 1) := by decide +kernel
theorem d2_37 : decode method_3_code 37 = .ok (.if_icmp .ne 7, 3) := by decide +kernel
theorem d2_40 : decode method_3_code 40 = .ok (.getstatic 49, 3) := by decide +kernel
theorem d2_43 : decode method_3_code 43 = .ok (.areturn, 1) := by decide +kernel
theorem d2_44 : decode method_3_code 44 = .ok (.getstatic 52, 3) := by decide +kernel
theorem d2_47 : decode method_3_code 47 = .ok (.areturn, 1) := by decide +kernel
theorem ef_2 (m : MethodId) (x0 : Int32) : entryFrame m #[(.int x0)] 1 = mkF m 0 #[.val (.int x0)] [] := by first | (simp [entryFrame, mkF, argsToLocals, Value.category]; done) | rfl
set_option maxRecDepth 65536 in
set_option maxHeartbeats 40000000 in
theorem rm2 (l : Launch) (Z : State) (a0 : Array Value) (hw : ∀ d ∈ tables_1, d.before a0 Z = true) (ws : List Jvm.Cond) (p1 : Int32) (w0 w1 w2 w3 w4 w5 r : Addr) (h0 : Heap) (n0 : Nat) (Z0 : n0 ≤ h0.size) (S0 : Sta Z h0 "com/example/actd/actd/model/ActivityState" "WAITING" "Lcom/example/actd/actd/model/ActivityState;" (.ref w0)) (S1 : Sta Z h0 "com/example/actd/actd/model/ActivityState" "RESUMED" "Lcom/example/actd/actd/model/ActivityState;" (.ref w1)) (S2 : Sta Z h0 "com/example/actd/actd/model/ActivityState" "PAUSING" "Lcom/example/actd/actd/model/ActivityState;" (.ref w2)) (S3 : Sta Z h0 "com/example/actd/actd/model/ActivityState" "PAUSED" "Lcom/example/actd/actd/model/ActivityState;" (.ref w3)) (S4 : Sta Z h0 "com/example/actd/actd/model/ActivityState" "STOPPED" "Lcom/example/actd/actd/model/ActivityState;" (.ref w4)) (S5 : Sta Z h0 "com/example/actd/actd/model/ActivityState" "DESTROYED" "Lcom/example/actd/actd/model/ActivityState;" (.ref w5)) (hpk : own_st p1 w0 w1 w2 w3 w4 w5 = r) :
    MetFree l (⟨"com/example/actd/actd/model/CallbackStateAfterPinLaw", "state", "(I)Lcom/example/actd/actd/model/ActivityState;"⟩ : MethodName) (head1 (Jvm.Cond.code (⟨"com/example/actd/actd/model/CallbackStateAfterPinLaw", "state", "(I)Lcom/example/actd/actd/model/ActivityState;"⟩ : MethodName) method_3_code 1 (some (.object "com/example/actd/actd/model/ActivityState")) :: ws) ({ frames := 0, cells := 0, slots := 0, locals := 0 } : Room)) (fun a U => a = #[(.int p1)] ∧ Z.Warmed39 U.vm ∧ U.heap = h0) (fun _ _ _ _ _ => True) (fun _ U o U' => ∃ v L, o = .returned v ∧ (QV (.ref r) h0 n0 v U'.heap L) ∧ FrameEnd U o U' L ({ frames := 0, cells := 0, slots := 0, locals := 0 } : Room).cells ({ frames := 0, cells := 0, slots := 0, locals := 0 } : Room).slots) := by
  refine MetFree.of_bodySF (plainFor_of_name pn_0) hisR ?_
  intro p e s m args below meth c s₁ Bd hml0 hP hK
  obtain ⟨rfl, hZ, hh⟩ := hP
  have hx := Bd.exec
  have hby := Bd.bytes
  have hml : c.maxLocals = 1 := hml0
  have hown : s.vm.findClass "com/example/actd/actd/model/CallbackStateAfterPinLaw" = some m.cls := findClass_of_methodNamed Bd.named
  have hnm := (name_of_methodNamed Bd.named Bd.method).1
  have X0 : Stand p l e ({ frames := 0, cells := 0, slots := 0, locals := 0 } : Room) s m #[(.int p1)] below meth c s₁ [] 0 0 := Stand.of_body Bd
  have e0 : s₁.heap = h0 := by rw [← hh, Bd.state]; rfl
  have N0 := Fr.nil n0
  have pre0 : ∀ t, Steps p.tables e below (s₁.setTop (mkF m 0 #[.val (.int p1)] [])) t → Steps p.tables e below (s₁.setTop (entryFrame m #[(.int p1)] 1)) t := fun t k => castTop (ef_2 m p1) k
  have pre1 : ∀ t, Steps p.tables e below (s₁.setTop (mkF m 1 #[.val (.int p1)] [(.int p1)])) t → Steps p.tables e below (s₁.setTop (entryFrame m #[(.int p1)] 1)) t := fun t k => pre0 t (by
      show Steps p.tables e below (s₁.setTop (mkF m 0 #[.val (.int p1)] [])) _
      refine XS.iloadN X0.here hx rfl (hb hby d2_0) rfl ?_
      exact k)
  by_cases hc1_2 : p1 = (0 : Int32)
  · obtain ⟨T3, X3, e3, st3⟩ := getS2 X0 hx hZ hown (host := "") (Or.inl (hw _ (List.mem_of_getElem? (i := 36) rfl))) Via.refl e0 S0 (g := (mkF m 4 #[.val (.int p1)] [])) rfl (hb hby d2_4)
    obtain ⟨fs, hr, hrun, hended, hW, hsame⟩ := X3.leave (v := some (.ref w0)) (fun h => by rw [Bd.returns] at h; cases h)
    refine ⟨_, _, pre1 _ ?_, hrun, hended, _, _, rfl, ?_, ⟨_, rfl⟩, hW, hsame.mono (by decide) (by decide)⟩
    · show Steps p.tables e below (s₁.setTop (mkF m 1 #[.val (.int p1)] [(.int p1)])) _
      refine XS.ifNo X0.here hx rfl (hb hby d2_1) rfl ((if0 _ _).trans (teq hc1_2).2) ?_
      show Steps p.tables e below (s₁.setTop (mkF m 4 #[.val (.int p1)] [])) _
      refine st3 _ ?_
      show Steps p.tables e below (T3.setTop (mkF m 7 #[.val (.int p1)] [(.ref w0)])) _
      jvm_step X3.here [X3.here.top, hx, (hb hby d2_7), X3.method', Bd.returns, Value.isRef, FieldType.isReference]
      first | (intro acts; rw [hr _ acts rfl rfl rfl]) | rw [hr _ _ rfl rfl rfl]
      exact Steps.refl _
    · show QV (.ref r) h0 n0 _ T3.heap _
      rw [e3]
      exact ⟨by rw [← hpk]; rw [own_st, if_pos hc1_2], N0, rfl⟩
  · have pre4 : ∀ t, Steps p.tables e below (s₁.setTop (mkF m 10 #[.val (.int p1)] [(.int (1 : Int32)), (.int p1)])) t → Steps p.tables e below (s₁.setTop (entryFrame m #[(.int p1)] 1)) t := fun t k => pre1 t (by
        show Steps p.tables e below (s₁.setTop (mkF m 1 #[.val (.int p1)] [(.int p1)])) _
        refine XS.ifYes X0.here hx rfl (pc0 := 1) (pc' := 8) rfl (hb hby d2_1) rfl ((if0 _ _).trans (feq hc1_2).2) (by decide) (by decide) ?_
        show Steps p.tables e below (s₁.setTop (mkF m 8 #[.val (.int p1)] [])) _
        refine XS.iloadN X0.here hx rfl (hb hby d2_8) rfl ?_
        show Steps p.tables e below (s₁.setTop (mkF m 9 #[.val (.int p1)] [(.int p1)])) _
        refine XS.iconst X0.here hx rfl (hb hby d2_9) ?_
        exact k)
    by_cases hc10_5 : p1 = (1 : Int32)
    · obtain ⟨T6, X6, e6, st6⟩ := getS2 X0 hx hZ hown (host := "") (Or.inl (hw _ (List.mem_of_getElem? (i := 28) rfl))) Via.refl e0 S1 (g := (mkF m 13 #[.val (.int p1)] [])) rfl (hb hby d2_13)
      obtain ⟨fs, hr, hrun, hended, hW, hsame⟩ := X6.leave (v := some (.ref w1)) (fun h => by rw [Bd.returns] at h; cases h)
      refine ⟨_, _, pre4 _ ?_, hrun, hended, _, _, rfl, ?_, ⟨_, rfl⟩, hW, hsame.mono (by decide) (by decide)⟩
      · show Steps p.tables e below (s₁.setTop (mkF m 10 #[.val (.int p1)] [(.int (1 : Int32)), (.int p1)])) _
        refine XS.icmpNo X0.here hx rfl (hb hby d2_10) rfl (teq hc10_5).2 ?_
        show Steps p.tables e below (s₁.setTop (mkF m 13 #[.val (.int p1)] [])) _
        refine st6 _ ?_
        show Steps p.tables e below (T6.setTop (mkF m 16 #[.val (.int p1)] [(.ref w1)])) _
        jvm_step X6.here [X6.here.top, hx, (hb hby d2_16), X6.method', Bd.returns, Value.isRef, FieldType.isReference]
        first | (intro acts; rw [hr _ acts rfl rfl rfl]) | rw [hr _ _ rfl rfl rfl]
        exact Steps.refl _
      · show QV (.ref r) h0 n0 _ T6.heap _
        rw [e6]
        exact ⟨by rw [← hpk]; rw [own_st, if_neg hc1_2, if_pos hc10_5], N0, rfl⟩
    · have pre7 : ∀ t, Steps p.tables e below (s₁.setTop (mkF m 19 #[.val (.int p1)] [(.int (2 : Int32)), (.int p1)])) t → Steps p.tables e below (s₁.setTop (entryFrame m #[(.int p1)] 1)) t := fun t k => pre4 t (by
          show Steps p.tables e below (s₁.setTop (mkF m 10 #[.val (.int p1)] [(.int (1 : Int32)), (.int p1)])) _
          refine XS.icmpYes X0.here hx rfl (pc0 := 10) (pc' := 17) rfl (hb hby d2_10) rfl (feq hc10_5).2 (by decide) (by decide) ?_
          show Steps p.tables e below (s₁.setTop (mkF m 17 #[.val (.int p1)] [])) _
          refine XS.iloadN X0.here hx rfl (hb hby d2_17) rfl ?_
          show Steps p.tables e below (s₁.setTop (mkF m 18 #[.val (.int p1)] [(.int p1)])) _
          refine XS.iconst X0.here hx rfl (hb hby d2_18) ?_
          exact k)
      by_cases hc19_8 : p1 = (2 : Int32)
      · obtain ⟨T9, X9, e9, st9⟩ := getS2 X0 hx hZ hown (host := "") (Or.inl (hw _ (List.mem_of_getElem? (i := 34) rfl))) Via.refl e0 S2 (g := (mkF m 22 #[.val (.int p1)] [])) rfl (hb hby d2_22)
        obtain ⟨fs, hr, hrun, hended, hW, hsame⟩ := X9.leave (v := some (.ref w2)) (fun h => by rw [Bd.returns] at h; cases h)
        refine ⟨_, _, pre7 _ ?_, hrun, hended, _, _, rfl, ?_, ⟨_, rfl⟩, hW, hsame.mono (by decide) (by decide)⟩
        · show Steps p.tables e below (s₁.setTop (mkF m 19 #[.val (.int p1)] [(.int (2 : Int32)), (.int p1)])) _
          refine XS.icmpNo X0.here hx rfl (hb hby d2_19) rfl (teq hc19_8).2 ?_
          show Steps p.tables e below (s₁.setTop (mkF m 22 #[.val (.int p1)] [])) _
          refine st9 _ ?_
          show Steps p.tables e below (T9.setTop (mkF m 25 #[.val (.int p1)] [(.ref w2)])) _
          jvm_step X9.here [X9.here.top, hx, (hb hby d2_25), X9.method', Bd.returns, Value.isRef, FieldType.isReference]
          first | (intro acts; rw [hr _ acts rfl rfl rfl]) | rw [hr _ _ rfl rfl rfl]
          exact Steps.refl _
        · show QV (.ref r) h0 n0 _ T9.heap _
          rw [e9]
          exact ⟨by rw [← hpk]; rw [own_st, if_neg hc1_2, if_neg hc10_5, if_pos hc19_8], N0, rfl⟩
      · have pre10 : ∀ t, Steps p.tables e below (s₁.setTop (mkF m 28 #[.val (.int p1)] [(.int (3 : Int32)), (.int p1)])) t → Steps p.tables e below (s₁.setTop (entryFrame m #[(.int p1)] 1)) t := fun t k => pre7 t (by
            show Steps p.tables e below (s₁.setTop (mkF m 19 #[.val (.int p1)] [(.int (2 : Int32)), (.int p1)])) _
            refine XS.icmpYes X0.here hx rfl (pc0 := 19) (pc' := 26) rfl (hb hby d2_19) rfl (feq hc19_8).2 (by decide) (by decide) ?_
            show Steps p.tables e below (s₁.setTop (mkF m 26 #[.val (.int p1)] [])) _
            refine XS.iloadN X0.here hx rfl (hb hby d2_26) rfl ?_
            show Steps p.tables e below (s₁.setTop (mkF m 27 #[.val (.int p1)] [(.int p1)])) _
            refine XS.iconst X0.here hx rfl (hb hby d2_27) ?_
            exact k)
        by_cases hc28_11 : p1 = (3 : Int32)
        · obtain ⟨T12, X12, e12, st12⟩ := getS2 X0 hx hZ hown (host := "") (Or.inl (hw _ (List.mem_of_getElem? (i := 11) rfl))) Via.refl e0 S3 (g := (mkF m 31 #[.val (.int p1)] [])) rfl (hb hby d2_31)
          obtain ⟨fs, hr, hrun, hended, hW, hsame⟩ := X12.leave (v := some (.ref w3)) (fun h => by rw [Bd.returns] at h; cases h)
          refine ⟨_, _, pre10 _ ?_, hrun, hended, _, _, rfl, ?_, ⟨_, rfl⟩, hW, hsame.mono (by decide) (by decide)⟩
          · show Steps p.tables e below (s₁.setTop (mkF m 28 #[.val (.int p1)] [(.int (3 : Int32)), (.int p1)])) _
            refine XS.icmpNo X0.here hx rfl (hb hby d2_28) rfl (teq hc28_11).2 ?_
            show Steps p.tables e below (s₁.setTop (mkF m 31 #[.val (.int p1)] [])) _
            refine st12 _ ?_
            show Steps p.tables e below (T12.setTop (mkF m 34 #[.val (.int p1)] [(.ref w3)])) _
            jvm_step X12.here [X12.here.top, hx, (hb hby d2_34), X12.method', Bd.returns, Value.isRef, FieldType.isReference]
            first | (intro acts; rw [hr _ acts rfl rfl rfl]) | rw [hr _ _ rfl rfl rfl]
            exact Steps.refl _
          · show QV (.ref r) h0 n0 _ T12.heap _
            rw [e12]
            exact ⟨by rw [← hpk]; rw [own_st, if_neg hc1_2, if_neg hc10_5, if_neg hc19_8, if_pos hc28_11], N0, rfl⟩
        · have pre13 : ∀ t, Steps p.tables e below (s₁.setTop (mkF m 37 #[.val (.int p1)] [(.int (4 : Int32)), (.int p1)])) t → Steps p.tables e below (s₁.setTop (entryFrame m #[(.int p1)] 1)) t := fun t k => pre10 t (by
              show Steps p.tables e below (s₁.setTop (mkF m 28 #[.val (.int p1)] [(.int (3 : Int32)), (.int p1)])) _
              refine XS.icmpYes X0.here hx rfl (pc0 := 28) (pc' := 35) rfl (hb hby d2_28) rfl (feq hc28_11).2 (by decide) (by decide) ?_
              show Steps p.tables e below (s₁.setTop (mkF m 35 #[.val (.int p1)] [])) _
              refine XS.iloadN X0.here hx rfl (hb hby d2_35) rfl ?_
              show Steps p.tables e below (s₁.setTop (mkF m 36 #[.val (.int p1)] [(.int p1)])) _
              refine XS.iconst X0.here hx rfl (hb hby d2_36) ?_
              exact k)
          by_cases hc37_14 : p1 = (4 : Int32)
          · obtain ⟨T15, X15, e15, st15⟩ := getS2 X0 hx hZ hown (host := "") (Or.inl (hw _ (List.mem_of_getElem? (i := 25) rfl))) Via.refl e0 S4 (g := (mkF m 40 #[.val (.int p1)] [])) rfl (hb hby d2_40)
            obtain ⟨fs, hr, hrun, hended, hW, hsame⟩ := X15.leave (v := some (.ref w4)) (fun h => by rw [Bd.returns] at h; cases h)
            refine ⟨_, _, pre13 _ ?_, hrun, hended, _, _, rfl, ?_, ⟨_, rfl⟩, hW, hsame.mono (by decide) (by decide)⟩
            · show Steps p.tables e below (s₁.setTop (mkF m 37 #[.val (.int p1)] [(.int (4 : Int32)), (.int p1)])) _
              refine XS.icmpNo X0.here hx rfl (hb hby d2_37) rfl (teq hc37_14).2 ?_
              show Steps p.tables e below (s₁.setTop (mkF m 40 #[.val (.int p1)] [])) _
              refine st15 _ ?_
              show Steps p.tables e below (T15.setTop (mkF m 43 #[.val (.int p1)] [(.ref w4)])) _
              jvm_step X15.here [X15.here.top, hx, (hb hby d2_43), X15.method', Bd.returns, Value.isRef, FieldType.isReference]
              first | (intro acts; rw [hr _ acts rfl rfl rfl]) | rw [hr _ _ rfl rfl rfl]
              exact Steps.refl _
            · show QV (.ref r) h0 n0 _ T15.heap _
              rw [e15]
              exact ⟨by rw [← hpk]; rw [own_st, if_neg hc1_2, if_neg hc10_5, if_neg hc19_8, if_neg hc28_11, if_pos hc37_14], N0, rfl⟩
          · obtain ⟨T16, X16, e16, st16⟩ := getS2 X0 hx hZ hown (host := "") (Or.inl (hw _ (List.mem_of_getElem? (i := 32) rfl))) Via.refl e0 S5 (g := (mkF m 44 #[.val (.int p1)] [])) rfl (hb hby d2_44)
            obtain ⟨fs, hr, hrun, hended, hW, hsame⟩ := X16.leave (v := some (.ref w5)) (fun h => by rw [Bd.returns] at h; cases h)
            refine ⟨_, _, pre13 _ ?_, hrun, hended, _, _, rfl, ?_, ⟨_, rfl⟩, hW, hsame.mono (by decide) (by decide)⟩
            · show Steps p.tables e below (s₁.setTop (mkF m 37 #[.val (.int p1)] [(.int (4 : Int32)), (.int p1)])) _
              refine XS.icmpYes X0.here hx rfl (pc0 := 37) (pc' := 44) rfl (hb hby d2_37) rfl (feq hc37_14).2 (by decide) (by decide) ?_
              show Steps p.tables e below (s₁.setTop (mkF m 44 #[.val (.int p1)] [])) _
              refine st16 _ ?_
              show Steps p.tables e below (T16.setTop (mkF m 47 #[.val (.int p1)] [(.ref w5)])) _
              jvm_step X16.here [X16.here.top, hx, (hb hby d2_47), X16.method', Bd.returns, Value.isRef, FieldType.isReference]
              first | (intro acts; rw [hr _ acts rfl rfl rfl]) | rw [hr _ _ rfl rfl rfl]
              exact Steps.refl _
            · show QV (.ref r) h0 n0 _ T16.heap _
              rw [e16]
              exact ⟨by rw [← hpk]; rw [own_st, if_neg hc1_2, if_neg hc10_5, if_neg hc19_8, if_neg hc28_11, if_neg hc37_14], N0, rfl⟩
theorem d3_0 : decode prog_22_method_6_code 0 = .ok (.aload_n 0, 1) := by decide +kernel
theorem d3_1 : decode prog_22_method_6_code 1 = .ok (.getfield 51, 3) := by decide +kernel
theorem d3_4 : decode prog_22_method_6_code 4 = .ok (.ifnonnull 7, 3) := by decide +kernel
theorem d3_7 : decode prog_22_method_6_code 7 = .ok (.aload_n 1, 1) := by decide +kernel
theorem d3_8 : decode prog_22_method_6_code 8 = .ok (.goto 7, 3) := by decide +kernel
theorem d3_11 : decode prog_22_method_6_code 11 = .ok (.aload_n 0, 1) := by decide +kernel
theorem d3_12 : decode prog_22_method_6_code 12 = .ok (.getfield 51, 3) := by decide +kernel
theorem d3_15 : decode prog_22_method_6_code 15 = .ok (.areturn, 1) := by decide +kernel
theorem pn_1 : plainName "com/example/actd/actd/model/Callback" = true := by first | (simp [plainName, overriddenIn]; done) | decide +kernel
theorem ef_3 (m : MethodId) (x0 : Addr) (x1 : Addr) : entryFrame m #[(.ref x0), (.ref x1)] 2 = mkF m 0 #[.val (.ref x0), .val (.ref x1)] [] := by first | (simp [entryFrame, mkF, argsToLocals, Value.category]; done) | rfl
set_option maxRecDepth 65536 in
set_option maxHeartbeats 40000000 in
theorem rm3_t (l : Launch) (Z : State) (a0 : Array Value) (hw : ∀ d ∈ tables_1, d.before a0 Z = true) (ws : List Jvm.Cond) (a1 : Addr) (a2 : Addr) (r : Addr) (h0 : Heap) (n0 : Nat) (Z0 : n0 ≤ h0.size) (FS : Fld Z h0 a1 "com/example/actd/actd/model/Callback" "stateAfter" "Lcom/example/actd/actd/model/ActivityState;" (.ref r)) :
    MetFree l (⟨"com/example/actd/actd/model/Callback", "stateAfter", "(Lcom/example/actd/actd/model/ActivityState;)Lcom/example/actd/actd/model/ActivityState;"⟩ : MethodName) (head1 (Jvm.Cond.code (⟨"com/example/actd/actd/model/Callback", "stateAfter", "(Lcom/example/actd/actd/model/ActivityState;)Lcom/example/actd/actd/model/ActivityState;"⟩ : MethodName) prog_22_method_6_code 2 (some (.object "com/example/actd/actd/model/ActivityState")) :: ws) ({ frames := 0, cells := 0, slots := 0, locals := 0 } : Room)) (fun a U => a = #[(.ref a1), (.ref a2)] ∧ Z.Warmed39 U.vm ∧ U.heap = h0) (fun _ _ _ _ _ => True) (fun _ U o U' => ∃ v L, o = .returned v ∧ (QV (.ref r) h0 n0 v U'.heap L) ∧ FrameEnd U o U' L ({ frames := 0, cells := 0, slots := 0, locals := 0 } : Room).cells ({ frames := 0, cells := 0, slots := 0, locals := 0 } : Room).slots) := by
  refine MetFree.of_bodySF (plainFor_of_name pn_1) hisR ?_
  intro p e s m args below meth c s₁ Bd hml0 hP hK
  obtain ⟨rfl, hZ, hh⟩ := hP
  have hx := Bd.exec
  have hby := Bd.bytes
  have hml : c.maxLocals = 2 := hml0
  have hown : s.vm.findClass "com/example/actd/actd/model/Callback" = some m.cls := findClass_of_methodNamed Bd.named
  have hnm := (name_of_methodNamed Bd.named Bd.method).1
  have X0 : Stand p l e ({ frames := 0, cells := 0, slots := 0, locals := 0 } : Room) s m #[(.ref a1), (.ref a2)] below meth c s₁ [] 0 0 := Stand.of_body Bd
  have e0 : s₁.heap = h0 := by rw [← hh, Bd.state]; rfl
  have N0 := Fr.nil n0
  have pre0 : ∀ t, Steps p.tables e below (s₁.setTop (mkF m 0 #[.val (.ref a1), .val (.ref a2)] [])) t → Steps p.tables e below (s₁.setTop (entryFrame m #[(.ref a1), (.ref a2)] 2)) t := fun t k => castTop (ef_3 m a1 a2) k
  obtain ⟨T1, X1, e1, st1⟩ := getF X0 hx hZ hown (host := "") (Or.inl (hw _ (List.mem_of_getElem? (i := 19) rfl))) Via.refl e0 FS (g := (mkF m 1 #[.val (.ref a1), .val (.ref a2)] [(.ref a1)])) rfl rfl (hb hby d3_1)
  obtain ⟨T2, X2, e2, st2⟩ := getF X1 hx hZ hown (host := "") (Or.inl (hw _ (List.mem_of_getElem? (i := 19) rfl))) Via.refl e1 FS (g := (mkF m 12 #[.val (.ref a1), .val (.ref a2)] [(.ref a1)])) rfl rfl (hb hby d3_12)
  obtain ⟨fs, hr, hrun, hended, hW, hsame⟩ := X2.leave (v := some (.ref r)) (fun h => by rw [Bd.returns] at h; cases h)
  refine ⟨_, _, pre0 _ ?_, hrun, hended, _, _, rfl, ?_, ⟨_, rfl⟩, hW, hsame.mono (by decide) (by decide)⟩
  · show Steps p.tables e below (s₁.setTop (mkF m 0 #[.val (.ref a1), .val (.ref a2)] [])) _
    refine XS.aloadN X0.here hx rfl (hb hby d3_0) rfl rfl ?_
    show Steps p.tables e below (s₁.setTop (mkF m 1 #[.val (.ref a1), .val (.ref a2)] [(.ref a1)])) _
    refine st1 _ ?_
    show Steps p.tables e below (T1.setTop (mkF m 4 #[.val (.ref a1), .val (.ref a2)] [(.ref r)])) _
    refine XS.ifnonnullYes X1.here hx rfl (pc0 := 4) (pc' := 11) rfl (hb hby d3_4) rfl (by decide) (by decide) ?_
    show Steps p.tables e below (T1.setTop (mkF m 11 #[.val (.ref a1), .val (.ref a2)] [])) _
    refine XS.aloadN X1.here hx rfl (hb hby d3_11) rfl rfl ?_
    show Steps p.tables e below (T1.setTop (mkF m 12 #[.val (.ref a1), .val (.ref a2)] [(.ref a1)])) _
    refine st2 _ ?_
    show Steps p.tables e below (T2.setTop (mkF m 15 #[.val (.ref a1), .val (.ref a2)] [(.ref r)])) _
    jvm_step X2.here [X2.here.top, hx, (hb hby d3_15), X2.method', Bd.returns, Value.isRef, FieldType.isReference]
    first | (intro acts; rw [hr _ acts rfl rfl rfl]) | rw [hr _ _ rfl rfl rfl]
    exact Steps.refl _
  · show QV (.ref r) h0 n0 _ T2.heap _
    rw [e2]
    exact ⟨rfl, N0, rfl⟩
set_option maxRecDepth 65536 in
set_option maxHeartbeats 40000000 in
theorem rm3_f (l : Launch) (Z : State) (a0 : Array Value) (hw : ∀ d ∈ tables_1, d.before a0 Z = true) (ws : List Jvm.Cond) (a1 : Addr) (a2 : Addr) (h0 : Heap) (n0 : Nat) (Z0 : n0 ≤ h0.size) (FS : Fld Z h0 a1 "com/example/actd/actd/model/Callback" "stateAfter" "Lcom/example/actd/actd/model/ActivityState;" .null) :
    MetFree l (⟨"com/example/actd/actd/model/Callback", "stateAfter", "(Lcom/example/actd/actd/model/ActivityState;)Lcom/example/actd/actd/model/ActivityState;"⟩ : MethodName) (head1 (Jvm.Cond.code (⟨"com/example/actd/actd/model/Callback", "stateAfter", "(Lcom/example/actd/actd/model/ActivityState;)Lcom/example/actd/actd/model/ActivityState;"⟩ : MethodName) prog_22_method_6_code 2 (some (.object "com/example/actd/actd/model/ActivityState")) :: ws) ({ frames := 0, cells := 0, slots := 0, locals := 0 } : Room)) (fun a U => a = #[(.ref a1), (.ref a2)] ∧ Z.Warmed39 U.vm ∧ U.heap = h0) (fun _ _ _ _ _ => True) (fun _ U o U' => ∃ v L, o = .returned v ∧ (QV (.ref a2) h0 n0 v U'.heap L) ∧ FrameEnd U o U' L ({ frames := 0, cells := 0, slots := 0, locals := 0 } : Room).cells ({ frames := 0, cells := 0, slots := 0, locals := 0 } : Room).slots) := by
  refine MetFree.of_bodySF (plainFor_of_name pn_1) hisR ?_
  intro p e s m args below meth c s₁ Bd hml0 hP hK
  obtain ⟨rfl, hZ, hh⟩ := hP
  have hx := Bd.exec
  have hby := Bd.bytes
  have hml : c.maxLocals = 2 := hml0
  have hown : s.vm.findClass "com/example/actd/actd/model/Callback" = some m.cls := findClass_of_methodNamed Bd.named
  have hnm := (name_of_methodNamed Bd.named Bd.method).1
  have X0 : Stand p l e ({ frames := 0, cells := 0, slots := 0, locals := 0 } : Room) s m #[(.ref a1), (.ref a2)] below meth c s₁ [] 0 0 := Stand.of_body Bd
  have e0 : s₁.heap = h0 := by rw [← hh, Bd.state]; rfl
  have N0 := Fr.nil n0
  have pre0 : ∀ t, Steps p.tables e below (s₁.setTop (mkF m 0 #[.val (.ref a1), .val (.ref a2)] [])) t → Steps p.tables e below (s₁.setTop (entryFrame m #[(.ref a1), (.ref a2)] 2)) t := fun t k => castTop (ef_3 m a1 a2) k
  obtain ⟨T1, X1, e1, st1⟩ := getF X0 hx hZ hown (host := "") (Or.inl (hw _ (List.mem_of_getElem? (i := 19) rfl))) Via.refl e0 FS (g := (mkF m 1 #[.val (.ref a1), .val (.ref a2)] [(.ref a1)])) rfl rfl (hb hby d3_1)
  obtain ⟨fs, hr, hrun, hended, hW, hsame⟩ := X1.leave (v := some (.ref a2)) (fun h => by rw [Bd.returns] at h; cases h)
  refine ⟨_, _, pre0 _ ?_, hrun, hended, _, _, rfl, ?_, ⟨_, rfl⟩, hW, hsame.mono (by decide) (by decide)⟩
  · show Steps p.tables e below (s₁.setTop (mkF m 0 #[.val (.ref a1), .val (.ref a2)] [])) _
    refine XS.aloadN X0.here hx rfl (hb hby d3_0) rfl rfl ?_
    show Steps p.tables e below (s₁.setTop (mkF m 1 #[.val (.ref a1), .val (.ref a2)] [(.ref a1)])) _
    refine st1 _ ?_
    show Steps p.tables e below (T1.setTop (mkF m 4 #[.val (.ref a1), .val (.ref a2)] [.null])) _
    refine XS.ifnonnullNo X1.here hx rfl (hb hby d3_4) rfl ?_
    show Steps p.tables e below (T1.setTop (mkF m 7 #[.val (.ref a1), .val (.ref a2)] [])) _
    refine XS.aloadN X1.here hx rfl (hb hby d3_7) rfl rfl ?_
    show Steps p.tables e below (T1.setTop (mkF m 8 #[.val (.ref a1), .val (.ref a2)] [(.ref a2)])) _
    refine XS.goto X1.here hx rfl (pc0 := 8) (pc' := 15) rfl (hb hby d3_8) (by decide) (by decide) ?_
    show Steps p.tables e below (T1.setTop (mkF m 15 #[.val (.ref a1), .val (.ref a2)] [(.ref a2)])) _
    jvm_step X1.here [X1.here.top, hx, (hb hby d3_15), X1.method', Bd.returns, Value.isRef, FieldType.isReference]
    first | (intro acts; rw [hr _ acts rfl rfl rfl]) | rw [hr _ _ rfl rfl rfl]
    exact Steps.refl _
  · show QV (.ref a2) h0 n0 _ T1.heap _
    rw [e1]
    exact ⟨rfl, N0, rfl⟩
theorem rm3 (l : Launch) (Z : State) (a0 : Array Value) (hw : ∀ d ∈ tables_1, d.before a0 Z = true) (ws : List Jvm.Cond) (a1 : Addr) (a2 : Addr) (r : Addr) (fv : Value) (h0 : Heap) (n0 : Nat) (Z0 : n0 ≤ h0.size) (FS : Fld Z h0 a1 "com/example/actd/actd/model/Callback" "stateAfter" "Lcom/example/actd/actd/model/ActivityState;" fv) (hfv : fv = .ref r ∨ (fv = .null ∧ a2 = r)) :
    MetFree l (⟨"com/example/actd/actd/model/Callback", "stateAfter", "(Lcom/example/actd/actd/model/ActivityState;)Lcom/example/actd/actd/model/ActivityState;"⟩ : MethodName) (head1 (Jvm.Cond.code (⟨"com/example/actd/actd/model/Callback", "stateAfter", "(Lcom/example/actd/actd/model/ActivityState;)Lcom/example/actd/actd/model/ActivityState;"⟩ : MethodName) prog_22_method_6_code 2 (some (.object "com/example/actd/actd/model/ActivityState")) :: ws) ({ frames := 0, cells := 0, slots := 0, locals := 0 } : Room)) (fun a U => a = #[(.ref a1), (.ref a2)] ∧ Z.Warmed39 U.vm ∧ U.heap = h0) (fun _ _ _ _ _ => True) (fun _ U o U' => ∃ v L, o = .returned v ∧ (QV (.ref r) h0 n0 v U'.heap L) ∧ FrameEnd U o U' L ({ frames := 0, cells := 0, slots := 0, locals := 0 } : Room).cells ({ frames := 0, cells := 0, slots := 0, locals := 0 } : Room).slots) := by
  rcases hfv with rfl | ⟨rfl, rfl⟩
  · exact rm3_t l Z a0 hw ws a1 a2 r h0 n0 Z0 FS
  · exact rm3_f l Z a0 hw ws a1 a2 h0 n0 Z0 FS
theorem d4_0 : decode method_4_code 0 = .ok (.iload_n 0, 1) := by decide +kernel
theorem d4_1 : decode method_4_code 1 = .ok (.ifCond .ne 7, 3) := by decide +kernel
theorem d4_4 : decode method_4_code 4 = .ok (.getstatic 49, 3) := by decide +kernel
theorem d4_7 : decode method_4_code 7 = .ok (.areturn, 1) := by decide +kernel
theorem d4_8 : decode method_4_code 8 = .ok (.iload_n 0, 1) := by decide +kernel
theorem d4_9 : decode method_4_code 9 = .ok (.iconst 1, 1) := by decide +kernel
theorem d4_10 : decode method_4_code 10 = .ok (.if_icmp .ne 7, 3) := by decide +kernel
theorem d4_13 : decode method_4_code 13 = .ok (.getstatic 46, 3) := by decide +kernel
theorem d4_16 : decode method_4_code 16 = .ok (.areturn, 1) := by decide +kernel
theorem d4_17 : decode method_4_code 17 = .ok (.iload_n 0, 1) := by decide +kernel
theorem d4_18 : decode method_4_code 18 = .ok (.iconst 2, 1) := by decide +kernel
theorem d4_19 : decode method_4_code 19 = .ok (.if_icmp .ne 7, 3) := by decide +kernel
theorem d4_22 : decode method_4_code 22 = .ok (.getstatic 40, 3) := by decide +kernel
theorem d4_25 : decode method_4_code 25 = .ok (.areturn, 1) := by decide +kernel
theorem d4_26 : decode method_4_code 26 = .ok (.iload_n 0, 1) := by decide +kernel
theorem d4_27 : decode method_4_code 27 = .ok (.iconst 3, 1) := by decide +kernel
theorem d4_28 : decode method_4_code 28 = .ok (.if_icmp .ne 7, 3) := by decide +kernel
theorem d4_31 : decode method_4_code 31 = .ok (.getstatic 46, 3) := by decide +kernel
theorem d4_34 : decode method_4_code 34 = .ok (.areturn, 1) := by decide +kernel
theorem d4_35 : decode method_4_code 35 = .ok (.iload_n 0, 1) := by decide +kernel
theorem d4_36 : decode method_4_code 36 = .ok (.iconst 4, 1) := by decide +kernel
theorem d4_37 : decode method_4_code 37 = .ok (.if_icmp .ne 7, 3) := by decide +kernel
theorem d4_40 : decode method_4_code 40 = .ok (.getstatic 49, 3) := by decide +kernel
theorem d4_43 : decode method_4_code 43 = .ok (.areturn, 1) := by decide +kernel
theorem d4_44 : decode method_4_code 44 = .ok (.iload_n 0, 1) := by decide +kernel
theorem d4_45 : decode method_4_code 45 = .ok (.iconst 5, 1) := by decide +kernel
theorem d4_46 : decode method_4_code 46 = .ok (.if_icmp .ne 7, 3) := by decide +kernel
theorem d4_49 : decode method_4_code 49 = .ok (.getstatic 49, 3) := by decide +kernel
theorem d4_52 : decode method_4_code 52 = .ok (.areturn, 1) := by decide +kernel
theorem d4_53 : decode method_4_code 53 = .ok (.iload_n 0, 1) := by decide +kernel
theorem d4_54 : decode method_4_code 54 = .ok (.bipush 6, 2) := by decide +kernel
theorem d4_56 : decode method_4_code 56 = .ok (.if_icmp .ne 5, 3) := by decide +kernel
theorem d4_59 : decode method_4_code 59 = .ok (.aload_n 1, 1) := by decide +kernel
theorem d4_60 : decode method_4_code 60 = .ok (.areturn, 1) := by decide +kernel
theorem d4_61 : decode method_4_code 61 = .ok (.getstatic 52, 3) := by decide +kernel
theorem d4_64 : decode method_4_code 64 = .ok (.areturn, 1) := by decide +kernel
theorem ef_4 (m : MethodId) (x0 : Int32) (x1 : Addr) : entryFrame m #[(.int x0), (.ref x1)] 2 = mkF m 0 #[.val (.int x0), .val (.ref x1)] [] := by first | (simp [entryFrame, mkF, argsToLocals, Value.category]; done) | rfl
set_option maxRecDepth 65536 in
set_option maxHeartbeats 40000000 in
theorem rm4 (l : Launch) (Z : State) (a0 : Array Value) (hw : ∀ d ∈ tables_1, d.before a0 Z = true) (ws : List Jvm.Cond) (p1 : Int32) (a2 : Addr) (w1 w3 w4 w5 r : Addr) (h0 : Heap) (n0 : Nat) (Z0 : n0 ≤ h0.size) (S1 : Sta Z h0 "com/example/actd/actd/model/ActivityState" "RESUMED" "Lcom/example/actd/actd/model/ActivityState;" (.ref w1)) (S3 : Sta Z h0 "com/example/actd/actd/model/ActivityState" "PAUSED" "Lcom/example/actd/actd/model/ActivityState;" (.ref w3)) (S4 : Sta Z h0 "com/example/actd/actd/model/ActivityState" "STOPPED" "Lcom/example/actd/actd/model/ActivityState;" (.ref w4)) (S5 : Sta Z h0 "com/example/actd/actd/model/ActivityState" "DESTROYED" "Lcom/example/actd/actd/model/ActivityState;" (.ref w5)) (hex : own_exp p1 a2 w1 w3 w4 w5 = r) :
    MetFree l (⟨"com/example/actd/actd/model/CallbackStateAfterPinLaw", "expected", "(ILcom/example/actd/actd/model/ActivityState;)Lcom/example/actd/actd/model/ActivityState;"⟩ : MethodName) (head1 (Jvm.Cond.code (⟨"com/example/actd/actd/model/CallbackStateAfterPinLaw", "expected", "(ILcom/example/actd/actd/model/ActivityState;)Lcom/example/actd/actd/model/ActivityState;"⟩ : MethodName) method_4_code 2 (some (.object "com/example/actd/actd/model/ActivityState")) :: ws) ({ frames := 0, cells := 0, slots := 0, locals := 0 } : Room)) (fun a U => a = #[(.int p1), (.ref a2)] ∧ Z.Warmed39 U.vm ∧ U.heap = h0) (fun _ _ _ _ _ => True) (fun _ U o U' => ∃ v L, o = .returned v ∧ (QV (.ref r) h0 n0 v U'.heap L) ∧ FrameEnd U o U' L ({ frames := 0, cells := 0, slots := 0, locals := 0 } : Room).cells ({ frames := 0, cells := 0, slots := 0, locals := 0 } : Room).slots) := by
  refine MetFree.of_bodySF (plainFor_of_name pn_0) hisR ?_
  intro p e s m args below meth c s₁ Bd hml0 hP hK
  obtain ⟨rfl, hZ, hh⟩ := hP
  have hx := Bd.exec
  have hby := Bd.bytes
  have hml : c.maxLocals = 2 := hml0
  have hown : s.vm.findClass "com/example/actd/actd/model/CallbackStateAfterPinLaw" = some m.cls := findClass_of_methodNamed Bd.named
  have hnm := (name_of_methodNamed Bd.named Bd.method).1
  have X0 : Stand p l e ({ frames := 0, cells := 0, slots := 0, locals := 0 } : Room) s m #[(.int p1), (.ref a2)] below meth c s₁ [] 0 0 := Stand.of_body Bd
  have e0 : s₁.heap = h0 := by rw [← hh, Bd.state]; rfl
  have N0 := Fr.nil n0
  have pre0 : ∀ t, Steps p.tables e below (s₁.setTop (mkF m 0 #[.val (.int p1), .val (.ref a2)] [])) t → Steps p.tables e below (s₁.setTop (entryFrame m #[(.int p1), (.ref a2)] 2)) t := fun t k => castTop (ef_4 m p1 a2) k
  have pre1 : ∀ t, Steps p.tables e below (s₁.setTop (mkF m 1 #[.val (.int p1), .val (.ref a2)] [(.int p1)])) t → Steps p.tables e below (s₁.setTop (entryFrame m #[(.int p1), (.ref a2)] 2)) t := fun t k => pre0 t (by
      show Steps p.tables e below (s₁.setTop (mkF m 0 #[.val (.int p1), .val (.ref a2)] [])) _
      refine XS.iloadN X0.here hx rfl (hb hby d4_0) rfl ?_
      exact k)
  by_cases hc1_2 : p1 = (0 : Int32)
  · obtain ⟨T3, X3, e3, st3⟩ := getS2 X0 hx hZ hown (host := "") (Or.inl (hw _ (List.mem_of_getElem? (i := 25) rfl))) Via.refl e0 S4 (g := (mkF m 4 #[.val (.int p1), .val (.ref a2)] [])) rfl (hb hby d4_4)
    obtain ⟨fs, hr, hrun, hended, hW, hsame⟩ := X3.leave (v := some (.ref w4)) (fun h => by rw [Bd.returns] at h; cases h)
    refine ⟨_, _, pre1 _ ?_, hrun, hended, _, _, rfl, ?_, ⟨_, rfl⟩, hW, hsame.mono (by decide) (by decide)⟩
    · show Steps p.tables e below (s₁.setTop (mkF m 1 #[.val (.int p1), .val (.ref a2)] [(.int p1)])) _
      refine XS.ifNo X0.here hx rfl (hb hby d4_1) rfl ((if0 _ _).trans (teq hc1_2).2) ?_
      show Steps p.tables e below (s₁.setTop (mkF m 4 #[.val (.int p1), .val (.ref a2)] [])) _
      refine st3 _ ?_
      show Steps p.tables e below (T3.setTop (mkF m 7 #[.val (.int p1), .val (.ref a2)] [(.ref w4)])) _
      jvm_step X3.here [X3.here.top, hx, (hb hby d4_7), X3.method', Bd.returns, Value.isRef, FieldType.isReference]
      first | (intro acts; rw [hr _ acts rfl rfl rfl]) | rw [hr _ _ rfl rfl rfl]
      exact Steps.refl _
    · show QV (.ref r) h0 n0 _ T3.heap _
      rw [e3]
      exact ⟨by rw [← hex]; rw [own_exp, if_pos hc1_2], N0, rfl⟩
  · have pre4 : ∀ t, Steps p.tables e below (s₁.setTop (mkF m 10 #[.val (.int p1), .val (.ref a2)] [(.int (1 : Int32)), (.int p1)])) t → Steps p.tables e below (s₁.setTop (entryFrame m #[(.int p1), (.ref a2)] 2)) t := fun t k => pre1 t (by
        show Steps p.tables e below (s₁.setTop (mkF m 1 #[.val (.int p1), .val (.ref a2)] [(.int p1)])) _
        refine XS.ifYes X0.here hx rfl (pc0 := 1) (pc' := 8) rfl (hb hby d4_1) rfl ((if0 _ _).trans (feq hc1_2).2) (by decide) (by decide) ?_
        show Steps p.tables e below (s₁.setTop (mkF m 8 #[.val (.int p1), .val (.ref a2)] [])) _
        refine XS.iloadN X0.here hx rfl (hb hby d4_8) rfl ?_
        show Steps p.tables e below (s₁.setTop (mkF m 9 #[.val (.int p1), .val (.ref a2)] [(.int p1)])) _
        refine XS.iconst X0.here hx rfl (hb hby d4_9) ?_
        exact k)
    by_cases hc10_5 : p1 = (1 : Int32)
    · obtain ⟨T6, X6, e6, st6⟩ := getS2 X0 hx hZ hown (host := "") (Or.inl (hw _ (List.mem_of_getElem? (i := 11) rfl))) Via.refl e0 S3 (g := (mkF m 13 #[.val (.int p1), .val (.ref a2)] [])) rfl (hb hby d4_13)
      obtain ⟨fs, hr, hrun, hended, hW, hsame⟩ := X6.leave (v := some (.ref w3)) (fun h => by rw [Bd.returns] at h; cases h)
      refine ⟨_, _, pre4 _ ?_, hrun, hended, _, _, rfl, ?_, ⟨_, rfl⟩, hW, hsame.mono (by decide) (by decide)⟩
      · show Steps p.tables e below (s₁.setTop (mkF m 10 #[.val (.int p1), .val (.ref a2)] [(.int (1 : Int32)), (.int p1)])) _
        refine XS.icmpNo X0.here hx rfl (hb hby d4_10) rfl (teq hc10_5).2 ?_
        show Steps p.tables e below (s₁.setTop (mkF m 13 #[.val (.int p1), .val (.ref a2)] [])) _
        refine st6 _ ?_
        show Steps p.tables e below (T6.setTop (mkF m 16 #[.val (.int p1), .val (.ref a2)] [(.ref w3)])) _
        jvm_step X6.here [X6.here.top, hx, (hb hby d4_16), X6.method', Bd.returns, Value.isRef, FieldType.isReference]
        first | (intro acts; rw [hr _ acts rfl rfl rfl]) | rw [hr _ _ rfl rfl rfl]
        exact Steps.refl _
      · show QV (.ref r) h0 n0 _ T6.heap _
        rw [e6]
        exact ⟨by rw [← hex]; rw [own_exp, if_neg hc1_2, if_pos hc10_5], N0, rfl⟩
    · have pre7 : ∀ t, Steps p.tables e below (s₁.setTop (mkF m 19 #[.val (.int p1), .val (.ref a2)] [(.int (2 : Int32)), (.int p1)])) t → Steps p.tables e below (s₁.setTop (entryFrame m #[(.int p1), (.ref a2)] 2)) t := fun t k => pre4 t (by
          show Steps p.tables e below (s₁.setTop (mkF m 10 #[.val (.int p1), .val (.ref a2)] [(.int (1 : Int32)), (.int p1)])) _
          refine XS.icmpYes X0.here hx rfl (pc0 := 10) (pc' := 17) rfl (hb hby d4_10) rfl (feq hc10_5).2 (by decide) (by decide) ?_
          show Steps p.tables e below (s₁.setTop (mkF m 17 #[.val (.int p1), .val (.ref a2)] [])) _
          refine XS.iloadN X0.here hx rfl (hb hby d4_17) rfl ?_
          show Steps p.tables e below (s₁.setTop (mkF m 18 #[.val (.int p1), .val (.ref a2)] [(.int p1)])) _
          refine XS.iconst X0.here hx rfl (hb hby d4_18) ?_
          exact k)
      by_cases hc19_8 : p1 = (2 : Int32)
      · obtain ⟨T9, X9, e9, st9⟩ := getS2 X0 hx hZ hown (host := "") (Or.inl (hw _ (List.mem_of_getElem? (i := 28) rfl))) Via.refl e0 S1 (g := (mkF m 22 #[.val (.int p1), .val (.ref a2)] [])) rfl (hb hby d4_22)
        obtain ⟨fs, hr, hrun, hended, hW, hsame⟩ := X9.leave (v := some (.ref w1)) (fun h => by rw [Bd.returns] at h; cases h)
        refine ⟨_, _, pre7 _ ?_, hrun, hended, _, _, rfl, ?_, ⟨_, rfl⟩, hW, hsame.mono (by decide) (by decide)⟩
        · show Steps p.tables e below (s₁.setTop (mkF m 19 #[.val (.int p1), .val (.ref a2)] [(.int (2 : Int32)), (.int p1)])) _
          refine XS.icmpNo X0.here hx rfl (hb hby d4_19) rfl (teq hc19_8).2 ?_
          show Steps p.tables e below (s₁.setTop (mkF m 22 #[.val (.int p1), .val (.ref a2)] [])) _
          refine st9 _ ?_
          show Steps p.tables e below (T9.setTop (mkF m 25 #[.val (.int p1), .val (.ref a2)] [(.ref w1)])) _
          jvm_step X9.here [X9.here.top, hx, (hb hby d4_25), X9.method', Bd.returns, Value.isRef, FieldType.isReference]
          first | (intro acts; rw [hr _ acts rfl rfl rfl]) | rw [hr _ _ rfl rfl rfl]
          exact Steps.refl _
        · show QV (.ref r) h0 n0 _ T9.heap _
          rw [e9]
          exact ⟨by rw [← hex]; rw [own_exp, if_neg hc1_2, if_neg hc10_5, if_pos hc19_8], N0, rfl⟩
      · have pre10 : ∀ t, Steps p.tables e below (s₁.setTop (mkF m 28 #[.val (.int p1), .val (.ref a2)] [(.int (3 : Int32)), (.int p1)])) t → Steps p.tables e below (s₁.setTop (entryFrame m #[(.int p1), (.ref a2)] 2)) t := fun t k => pre7 t (by
            show Steps p.tables e below (s₁.setTop (mkF m 19 #[.val (.int p1), .val (.ref a2)] [(.int (2 : Int32)), (.int p1)])) _
            refine XS.icmpYes X0.here hx rfl (pc0 := 19) (pc' := 26) rfl (hb hby d4_19) rfl (feq hc19_8).2 (by decide) (by decide) ?_
            show Steps p.tables e below (s₁.setTop (mkF m 26 #[.val (.int p1), .val (.ref a2)] [])) _
            refine XS.iloadN X0.here hx rfl (hb hby d4_26) rfl ?_
            show Steps p.tables e below (s₁.setTop (mkF m 27 #[.val (.int p1), .val (.ref a2)] [(.int p1)])) _
            refine XS.iconst X0.here hx rfl (hb hby d4_27) ?_
            exact k)
        by_cases hc28_11 : p1 = (3 : Int32)
        · obtain ⟨T12, X12, e12, st12⟩ := getS2 X0 hx hZ hown (host := "") (Or.inl (hw _ (List.mem_of_getElem? (i := 11) rfl))) Via.refl e0 S3 (g := (mkF m 31 #[.val (.int p1), .val (.ref a2)] [])) rfl (hb hby d4_31)
          obtain ⟨fs, hr, hrun, hended, hW, hsame⟩ := X12.leave (v := some (.ref w3)) (fun h => by rw [Bd.returns] at h; cases h)
          refine ⟨_, _, pre10 _ ?_, hrun, hended, _, _, rfl, ?_, ⟨_, rfl⟩, hW, hsame.mono (by decide) (by decide)⟩
          · show Steps p.tables e below (s₁.setTop (mkF m 28 #[.val (.int p1), .val (.ref a2)] [(.int (3 : Int32)), (.int p1)])) _
            refine XS.icmpNo X0.here hx rfl (hb hby d4_28) rfl (teq hc28_11).2 ?_
            show Steps p.tables e below (s₁.setTop (mkF m 31 #[.val (.int p1), .val (.ref a2)] [])) _
            refine st12 _ ?_
            show Steps p.tables e below (T12.setTop (mkF m 34 #[.val (.int p1), .val (.ref a2)] [(.ref w3)])) _
            jvm_step X12.here [X12.here.top, hx, (hb hby d4_34), X12.method', Bd.returns, Value.isRef, FieldType.isReference]
            first | (intro acts; rw [hr _ acts rfl rfl rfl]) | rw [hr _ _ rfl rfl rfl]
            exact Steps.refl _
          · show QV (.ref r) h0 n0 _ T12.heap _
            rw [e12]
            exact ⟨by rw [← hex]; rw [own_exp, if_neg hc1_2, if_neg hc10_5, if_neg hc19_8, if_pos hc28_11], N0, rfl⟩
        · have pre13 : ∀ t, Steps p.tables e below (s₁.setTop (mkF m 37 #[.val (.int p1), .val (.ref a2)] [(.int (4 : Int32)), (.int p1)])) t → Steps p.tables e below (s₁.setTop (entryFrame m #[(.int p1), (.ref a2)] 2)) t := fun t k => pre10 t (by
              show Steps p.tables e below (s₁.setTop (mkF m 28 #[.val (.int p1), .val (.ref a2)] [(.int (3 : Int32)), (.int p1)])) _
              refine XS.icmpYes X0.here hx rfl (pc0 := 28) (pc' := 35) rfl (hb hby d4_28) rfl (feq hc28_11).2 (by decide) (by decide) ?_
              show Steps p.tables e below (s₁.setTop (mkF m 35 #[.val (.int p1), .val (.ref a2)] [])) _
              refine XS.iloadN X0.here hx rfl (hb hby d4_35) rfl ?_
              show Steps p.tables e below (s₁.setTop (mkF m 36 #[.val (.int p1), .val (.ref a2)] [(.int p1)])) _
              refine XS.iconst X0.here hx rfl (hb hby d4_36) ?_
              exact k)
          by_cases hc37_14 : p1 = (4 : Int32)
          · obtain ⟨T15, X15, e15, st15⟩ := getS2 X0 hx hZ hown (host := "") (Or.inl (hw _ (List.mem_of_getElem? (i := 25) rfl))) Via.refl e0 S4 (g := (mkF m 40 #[.val (.int p1), .val (.ref a2)] [])) rfl (hb hby d4_40)
            obtain ⟨fs, hr, hrun, hended, hW, hsame⟩ := X15.leave (v := some (.ref w4)) (fun h => by rw [Bd.returns] at h; cases h)
            refine ⟨_, _, pre13 _ ?_, hrun, hended, _, _, rfl, ?_, ⟨_, rfl⟩, hW, hsame.mono (by decide) (by decide)⟩
            · show Steps p.tables e below (s₁.setTop (mkF m 37 #[.val (.int p1), .val (.ref a2)] [(.int (4 : Int32)), (.int p1)])) _
              refine XS.icmpNo X0.here hx rfl (hb hby d4_37) rfl (teq hc37_14).2 ?_
              show Steps p.tables e below (s₁.setTop (mkF m 40 #[.val (.int p1), .val (.ref a2)] [])) _
              refine st15 _ ?_
              show Steps p.tables e below (T15.setTop (mkF m 43 #[.val (.int p1), .val (.ref a2)] [(.ref w4)])) _
              jvm_step X15.here [X15.here.top, hx, (hb hby d4_43), X15.method', Bd.returns, Value.isRef, FieldType.isReference]
              first | (intro acts; rw [hr _ acts rfl rfl rfl]) | rw [hr _ _ rfl rfl rfl]
              exact Steps.refl _
            · show QV (.ref r) h0 n0 _ T15.heap _
              rw [e15]
              exact ⟨by rw [← hex]; rw [own_exp, if_neg hc1_2, if_neg hc10_5, if_neg hc19_8, if_neg hc28_11, if_pos hc37_14], N0, rfl⟩
          · have pre16 : ∀ t, Steps p.tables e below (s₁.setTop (mkF m 46 #[.val (.int p1), .val (.ref a2)] [(.int (5 : Int32)), (.int p1)])) t → Steps p.tables e below (s₁.setTop (entryFrame m #[(.int p1), (.ref a2)] 2)) t := fun t k => pre13 t (by
                show Steps p.tables e below (s₁.setTop (mkF m 37 #[.val (.int p1), .val (.ref a2)] [(.int (4 : Int32)), (.int p1)])) _
                refine XS.icmpYes X0.here hx rfl (pc0 := 37) (pc' := 44) rfl (hb hby d4_37) rfl (feq hc37_14).2 (by decide) (by decide) ?_
                show Steps p.tables e below (s₁.setTop (mkF m 44 #[.val (.int p1), .val (.ref a2)] [])) _
                refine XS.iloadN X0.here hx rfl (hb hby d4_44) rfl ?_
                show Steps p.tables e below (s₁.setTop (mkF m 45 #[.val (.int p1), .val (.ref a2)] [(.int p1)])) _
                refine XS.iconst X0.here hx rfl (hb hby d4_45) ?_
                exact k)
            by_cases hc46_17 : p1 = (5 : Int32)
            · obtain ⟨T18, X18, e18, st18⟩ := getS2 X0 hx hZ hown (host := "") (Or.inl (hw _ (List.mem_of_getElem? (i := 25) rfl))) Via.refl e0 S4 (g := (mkF m 49 #[.val (.int p1), .val (.ref a2)] [])) rfl (hb hby d4_49)
              obtain ⟨fs, hr, hrun, hended, hW, hsame⟩ := X18.leave (v := some (.ref w4)) (fun h => by rw [Bd.returns] at h; cases h)
              refine ⟨_, _, pre16 _ ?_, hrun, hended, _, _, rfl, ?_, ⟨_, rfl⟩, hW, hsame.mono (by decide) (by decide)⟩
              · show Steps p.tables e below (s₁.setTop (mkF m 46 #[.val (.int p1), .val (.ref a2)] [(.int (5 : Int32)), (.int p1)])) _
                refine XS.icmpNo X0.here hx rfl (hb hby d4_46) rfl (teq hc46_17).2 ?_
                show Steps p.tables e below (s₁.setTop (mkF m 49 #[.val (.int p1), .val (.ref a2)] [])) _
                refine st18 _ ?_
                show Steps p.tables e below (T18.setTop (mkF m 52 #[.val (.int p1), .val (.ref a2)] [(.ref w4)])) _
                jvm_step X18.here [X18.here.top, hx, (hb hby d4_52), X18.method', Bd.returns, Value.isRef, FieldType.isReference]
                first | (intro acts; rw [hr _ acts rfl rfl rfl]) | rw [hr _ _ rfl rfl rfl]
                exact Steps.refl _
              · show QV (.ref r) h0 n0 _ T18.heap _
                rw [e18]
                exact ⟨by rw [← hex]; rw [own_exp, if_neg hc1_2, if_neg hc10_5, if_neg hc19_8, if_neg hc28_11, if_neg hc37_14, if_pos hc46_17], N0, rfl⟩
            · have pre19 : ∀ t, Steps p.tables e below (s₁.setTop (mkF m 56 #[.val (.int p1), .val (.ref a2)] [(.int (6 : Int32)), (.int p1)])) t → Steps p.tables e below (s₁.setTop (entryFrame m #[(.int p1), (.ref a2)] 2)) t := fun t k => pre16 t (by
                  show Steps p.tables e below (s₁.setTop (mkF m 46 #[.val (.int p1), .val (.ref a2)] [(.int (5 : Int32)), (.int p1)])) _
                  refine XS.icmpYes X0.here hx rfl (pc0 := 46) (pc' := 53) rfl (hb hby d4_46) rfl (feq hc46_17).2 (by decide) (by decide) ?_
                  show Steps p.tables e below (s₁.setTop (mkF m 53 #[.val (.int p1), .val (.ref a2)] [])) _
                  refine XS.iloadN X0.here hx rfl (hb hby d4_53) rfl ?_
                  show Steps p.tables e below (s₁.setTop (mkF m 54 #[.val (.int p1), .val (.ref a2)] [(.int p1)])) _
                  refine XS.bipush X0.here hx rfl (hb hby d4_54) ?_
                  exact k)
              by_cases hc56_20 : p1 = (6 : Int32)
              · obtain ⟨fs, hr, hrun, hended, hW, hsame⟩ := X0.leave (v := some (.ref a2)) (fun h => by rw [Bd.returns] at h; cases h)
                refine ⟨_, _, pre19 _ ?_, hrun, hended, _, _, rfl, ?_, ⟨_, rfl⟩, hW, hsame.mono (by decide) (by decide)⟩
                · show Steps p.tables e below (s₁.setTop (mkF m 56 #[.val (.int p1), .val (.ref a2)] [(.int (6 : Int32)), (.int p1)])) _
                  refine XS.icmpNo X0.here hx rfl (hb hby d4_56) rfl (teq hc56_20).2 ?_
                  show Steps p.tables e below (s₁.setTop (mkF m 59 #[.val (.int p1), .val (.ref a2)] [])) _
                  refine XS.aloadN X0.here hx rfl (hb hby d4_59) rfl rfl ?_
                  show Steps p.tables e below (s₁.setTop (mkF m 60 #[.val (.int p1), .val (.ref a2)] [(.ref a2)])) _
                  jvm_step X0.here [X0.here.top, hx, (hb hby d4_60), X0.method', Bd.returns, Value.isRef, FieldType.isReference]
                  first | (intro acts; rw [hr _ acts rfl rfl rfl]) | rw [hr _ _ rfl rfl rfl]
                  exact Steps.refl _
                · show QV (.ref r) h0 n0 _ s₁.heap _
                  rw [e0]
                  exact ⟨by rw [← hex]; rw [own_exp, if_neg hc1_2, if_neg hc10_5, if_neg hc19_8, if_neg hc28_11, if_neg hc37_14, if_neg hc46_17, if_pos hc56_20], N0, rfl⟩
              · obtain ⟨T21, X21, e21, st21⟩ := getS2 X0 hx hZ hown (host := "") (Or.inl (hw _ (List.mem_of_getElem? (i := 32) rfl))) Via.refl e0 S5 (g := (mkF m 61 #[.val (.int p1), .val (.ref a2)] [])) rfl (hb hby d4_61)
                obtain ⟨fs, hr, hrun, hended, hW, hsame⟩ := X21.leave (v := some (.ref w5)) (fun h => by rw [Bd.returns] at h; cases h)
                refine ⟨_, _, pre19 _ ?_, hrun, hended, _, _, rfl, ?_, ⟨_, rfl⟩, hW, hsame.mono (by decide) (by decide)⟩
                · show Steps p.tables e below (s₁.setTop (mkF m 56 #[.val (.int p1), .val (.ref a2)] [(.int (6 : Int32)), (.int p1)])) _
                  refine XS.icmpYes X0.here hx rfl (pc0 := 56) (pc' := 61) rfl (hb hby d4_56) rfl (feq hc56_20).2 (by decide) (by decide) ?_
                  show Steps p.tables e below (s₁.setTop (mkF m 61 #[.val (.int p1), .val (.ref a2)] [])) _
                  refine st21 _ ?_
                  show Steps p.tables e below (T21.setTop (mkF m 64 #[.val (.int p1), .val (.ref a2)] [(.ref w5)])) _
                  jvm_step X21.here [X21.here.top, hx, (hb hby d4_64), X21.method', Bd.returns, Value.isRef, FieldType.isReference]
                  first | (intro acts; rw [hr _ acts rfl rfl rfl]) | rw [hr _ _ rfl rfl rfl]
                  exact Steps.refl _
                · show QV (.ref r) h0 n0 _ T21.heap _
                  rw [e21]
                  exact ⟨by rw [← hex]; rw [own_exp, if_neg hc1_2, if_neg hc10_5, if_neg hc19_8, if_neg hc28_11, if_neg hc37_14, if_neg hc46_17, if_neg hc56_20], N0, rfl⟩
theorem ef_0 (m : MethodId) (x0 : Int32) (x1 : Int32) : entryFrame m #[(.int x0), (.int x1)] maxLocals = mkF m 0 #[.val (.int x0), .val (.int x1), .unset, .unset, .unset, .unset, .unset] [] := by first | (simp [entryFrame, mkF, argsToLocals, Value.category, maxLocals]; done) | rfl
theorem pd_0 : parseMethodDescriptor "(I)Lcom/example/actd/actd/model/Callback;" = some ⟨[.int], some (.object "com/example/actd/actd/model/Callback")⟩ := by decide +kernel
theorem pd_1 : parseMethodDescriptor "(I)Lcom/example/actd/actd/model/ActivityState;" = some ⟨[.int], some (.object "com/example/actd/actd/model/ActivityState")⟩ := by decide +kernel
theorem pd_2 : parseMethodDescriptor "(Lcom/example/actd/actd/model/ActivityState;)Lcom/example/actd/actd/model/ActivityState;" = some ⟨[(.object "com/example/actd/actd/model/ActivityState")], some (.object "com/example/actd/actd/model/ActivityState")⟩ := by decide +kernel
theorem pd_3 : parseMethodDescriptor "(ILcom/example/actd/actd/model/ActivityState;)Lcom/example/actd/actd/model/ActivityState;" = some ⟨[.int, (.object "com/example/actd/actd/model/ActivityState")], some (.object "com/example/actd/actd/model/ActivityState")⟩ := by decide +kernel
set_option maxRecDepth 65536 in
set_option maxHeartbeats 40000000 in
theorem rm0 (l : Launch) (Z : State) (a0 : Array Value) (hw : ∀ d ∈ tables_1, d.before a0 Z = true) (ws : List Jvm.Cond) (p1 : Int32) (p2 : Int32) (c0 c1 c2 c3 c4 c5 c6 c7 w0 w1 w2 w3 w4 w5 t b r : Addr) (fv : Value) (h0 : Heap) (n0 : Nat) (Z0 : n0 ≤ h0.size) (R0 : Sta Z h0 "com/example/actd/actd/model/Callback" "CREATE" "Lcom/example/actd/actd/model/Callback;" (.ref c0)) (R1 : Sta Z h0 "com/example/actd/actd/model/Callback" "START" "Lcom/example/actd/actd/model/Callback;" (.ref c1)) (R2 : Sta Z h0 "com/example/actd/actd/model/Callback" "RESUME" "Lcom/example/actd/actd/model/Callback;" (.ref c2)) (R3 : Sta Z h0 "com/example/actd/actd/model/Callback" "PAUSE" "Lcom/example/actd/actd/model/Callback;" (.ref c3)) (R4 : Sta Z h0 "com/example/actd/actd/model/Callback" "STOP" "Lcom/example/actd/actd/model/Callback;" (.ref c4)) (R5 : Sta Z h0 "com/example/actd/actd/model/Callback" "RESTART" "Lcom/example/actd/actd/model/Callback;" (.ref c5)) (R6 : Sta Z h0 "com/example/actd/actd/model/Callback" "NEW_INTENT" "Lcom/example/actd/actd/model/Callback;" (.ref c6)) (R7 : Sta Z h0 "com/example/actd/actd/model/Callback" "DESTROY" "Lcom/example/actd/actd/model/Callback;" (.ref c7)) (S0 : Sta Z h0 "com/example/actd/actd/model/ActivityState" "WAITING" "Lcom/example/actd/actd/model/ActivityState;" (.ref w0)) (S1 : Sta Z h0 "com/example/actd/actd/model/ActivityState" "RESUMED" "Lcom/example/actd/actd/model/ActivityState;" (.ref w1)) (S2 : Sta Z h0 "com/example/actd/actd/model/ActivityState" "PAUSING" "Lcom/example/actd/actd/model/ActivityState;" (.ref w2)) (S3 : Sta Z h0 "com/example/actd/actd/model/ActivityState" "PAUSED" "Lcom/example/actd/actd/model/ActivityState;" (.ref w3)) (S4 : Sta Z h0 "com/example/actd/actd/model/ActivityState" "STOPPED" "Lcom/example/actd/actd/model/ActivityState;" (.ref w4)) (S5 : Sta Z h0 "com/example/actd/actd/model/ActivityState" "DESTROYED" "Lcom/example/actd/actd/model/ActivityState;" (.ref w5)) (hcb : own_cb ((p1 &&& (2147483647 : Int32)) % (8 : Int32)) c0 c1 c2 c3 c4 c5 c6 c7 = t) (hst : own_st ((p2 &&& (2147483647 : Int32)) % (6 : Int32)) w0 w1 w2 w3 w4 w5 = b) (E : Exa Z h0 t "com/example/actd/actd/model/Callback") (FS : Fld Z h0 t "com/example/actd/actd/model/Callback" "stateAfter" "Lcom/example/actd/actd/model/ActivityState;" fv) (hfv : fv = .ref r ∨ (fv = .null ∧ b = r)) (hex : own_exp ((p1 &&& (2147483647 : Int32)) % (8 : Int32)) b w1 w3 w4 w5 = r) :
    MetFree l x (head1 (Jvm.Cond.code x code maxLocals ret :: ws) room_1) (fun a U => a = #[(.int p1), (.int p2)] ∧ Z.Warmed39 U.vm ∧ U.heap = h0) (fun _ _ _ _ _ => True) (fun _ U o U' => ∃ v L, o = .returned v ∧ (v = some (Value.int 1) ∧ Fr n0 L) ∧ FrameEnd U o U' L room_1.cells room_1.slots) := by
  refine MetFree.of_bodySF (plainFor_of_name pn_0) hisR ?_
  intro p e s m args below meth c s₁ Bd hml0 hP hK
  obtain ⟨rfl, hZ, hh⟩ := hP
  have hx := Bd.exec
  have hby := Bd.bytes
  have hml : c.maxLocals = 7 := hml0
  have hown : s.vm.findClass "com/example/actd/actd/model/CallbackStateAfterPinLaw" = some m.cls := findClass_of_methodNamed Bd.named
  have hnm := (name_of_methodNamed Bd.named Bd.method).1
  have X0 : Stand p l e room_1 s m #[(.int p1), (.int p2)] below meth c s₁ [] 0 0 := Stand.of_body Bd
  have e0 : s₁.heap = h0 := by rw [← hh, Bd.state]; rfl
  have N0 := Fr.nil n0
  have pre0 : ∀ t, Steps p.tables e below (s₁.setTop (mkF m 0 #[.val (.int p1), .val (.int p2), .unset, .unset, .unset, .unset, .unset] [])) t → Steps p.tables e below (s₁.setTop (entryFrame m #[(.int p1), (.int p2)] maxLocals)) t := fun t k => castTop (ef_0 m p1 p2) k
  obtain ⟨_, _, ⟨T1, L1, k1, n1⟩, -, X1, ⟨Lc1, hQ1, l1, y1, z1⟩, st1⟩ := Jvm.LawKit.callS X0 hx (y := (⟨"com/example/actd/actd/model/CallbackStateAfterPinLaw", "callback", "(I)Lcom/example/actd/actd/model/Callback;"⟩ : MethodName)) hown (mvT hZ (hw _ (List.mem_of_getElem? (i := 1) rfl))) (mvT hZ (hw _ (List.mem_of_getElem? (i := 2) rfl))) (mvT hZ (hw _ (List.mem_of_getElem? (i := 3) rfl))) (mvT hZ (hw _ (List.mem_of_getElem? (i := 4) rfl))) (by decide) (backOf (W := 0) (rm1 l Z a0 hw [] ((p1 &&& (2147483647 : Int32)) % (8 : Int32)) c0 c1 c2 c3 c4 c5 c6 c7 t h0 n0 Z0 R0 R1 R2 R3 R4 R5 R6 R7 hcb) hZ (hw _ (List.mem_of_getElem? (i := 4) rfl)) (hw _ (List.mem_of_getElem? (i := 3) rfl)) (by decide) (by decide)) (g := (mkF m 17 #[.val (.int p1), .val (.int p2), .val (.int ((p1 &&& (2147483647 : Int32)) % (8 : Int32))), .val (.int ((p2 &&& (2147483647 : Int32)) % (6 : Int32))), .unset, .unset, .unset] [(.int ((p1 &&& (2147483647 : Int32)) % (8 : Int32)))])) rfl (by rw [hml]; rfl) (argsL := [(.int ((p1 &&& (2147483647 : Int32)) % (8 : Int32)))]) (rest := []) (lenOf pd_0 rfl) rfl (by show 2 * 0 + _ ≤ _; exact Nat.le_of_eq rfl) (hb hby at_17) (fun _ _ => ⟨rfl, e0, (by decide : 0 + 0 ≤ _), (by decide : 0 + 0 ≤ _)⟩)
  dsimp only [Pt.U, Pt.locs, Pt.cells, Pt.slots] at X1 l1 y1 z1 st1 hQ1
  subst l1 y1 z1
  obtain ⟨rfl, N1q, e1⟩ := hQ1
  have N1 := Fr.app N0 N1q
  obtain ⟨_, _, ⟨T2, L2, k2, n2⟩, -, X2, ⟨Lc2, hQ2, l2, y2, z2⟩, st2⟩ := Jvm.LawKit.callS X1 hx (y := (⟨"com/example/actd/actd/model/CallbackStateAfterPinLaw", "state", "(I)Lcom/example/actd/actd/model/ActivityState;"⟩ : MethodName)) hown (mvT hZ (hw _ (List.mem_of_getElem? (i := 8) rfl))) (mvT hZ (hw _ (List.mem_of_getElem? (i := 9) rfl))) (mvT hZ (hw _ (List.mem_of_getElem? (i := 3) rfl))) (mvT hZ (hw _ (List.mem_of_getElem? (i := 10) rfl))) (by decide) (backOf (W := 0) (rm2 l Z a0 hw [] ((p2 &&& (2147483647 : Int32)) % (6 : Int32)) w0 w1 w2 w3 w4 w5 b h0 n0 Z0 S0 S1 S2 S3 S4 S5 hst) hZ (hw _ (List.mem_of_getElem? (i := 10) rfl)) (hw _ (List.mem_of_getElem? (i := 3) rfl)) (by decide) (by decide)) (g := (mkF m 23 #[.val (.int p1), .val (.int p2), .val (.int ((p1 &&& (2147483647 : Int32)) % (8 : Int32))), .val (.int ((p2 &&& (2147483647 : Int32)) % (6 : Int32))), .val (.ref t), .unset, .unset] [(.int ((p2 &&& (2147483647 : Int32)) % (6 : Int32)))])) rfl (by rw [hml]; rfl) (argsL := [(.int ((p2 &&& (2147483647 : Int32)) % (6 : Int32)))]) (rest := []) (lenOf pd_1 rfl) rfl (by show 2 * 0 + _ ≤ _; exact Nat.le_of_eq rfl) (hb hby at_23) (fun _ _ => ⟨rfl, e1, (by decide : 0 + 0 ≤ _), (by decide : 0 + 0 ≤ _)⟩)
  dsimp only [Pt.U, Pt.locs, Pt.cells, Pt.slots] at X2 l2 y2 z2 st2 hQ2
  subst l2 y2 z2
  obtain ⟨rfl, N2q, e2⟩ := hQ2
  have N2 := Fr.app N1 N2q
  obtain ⟨cq3, kq3, q3a, q3b, q3c⟩ := isOf hZ e2 E
  obtain ⟨_, _, ⟨T3, L3, k3, n3⟩, -, X3, ⟨Lc3, hQ3, l3, y3, z3⟩, st3⟩ := X2.virtualBack hx (y := (⟨"com/example/actd/actd/model/Callback", "stateAfter", "(Lcom/example/actd/actd/model/ActivityState;)Lcom/example/actd/actd/model/ActivityState;"⟩ : MethodName)) (z := (⟨"com/example/actd/actd/model/Callback", "stateAfter", "(Lcom/example/actd/actd/model/ActivityState;)Lcom/example/actd/actd/model/ActivityState;"⟩ : MethodName)) hown (mvT hZ (hw _ (List.mem_of_getElem? (i := 14) rfl))) (mvT hZ (hw _ (List.mem_of_getElem? (i := 15) rfl))) (notFace_of_selects (args := #[]) (mvT hZ (hw _ (List.mem_of_getElem? (i := 17) rfl)))) (mvT hZ (hw _ (List.mem_of_getElem? (i := 17) rfl))) (mvT hZ (hw _ (List.mem_of_getElem? (i := 16) rfl))) (by decide) (backOf (W := 0) (rm3 l Z a0 hw [] t b r fv h0 n0 Z0 FS hfv) hZ (hw _ (List.mem_of_getElem? (i := 18) rfl)) (hw _ (List.mem_of_getElem? (i := 6) rfl)) (by decide) (by decide)) q3a q3c (g := (mkF m 32 #[.val (.int p1), .val (.int p2), .val (.int ((p1 &&& (2147483647 : Int32)) % (8 : Int32))), .val (.int ((p2 &&& (2147483647 : Int32)) % (6 : Int32))), .val (.ref t), .val (.ref b), .unset] [(.ref b), (.ref t)])) rfl (by rw [hml]; rfl) (Steps.refl _) (argsL := [(.ref b)]) (rest := []) (lenOf pd_2 rfl) rfl (by show 2 * 0 + _ ≤ _; exact Nat.le_of_eq rfl) (hb hby at_32) (fun _ _ => ⟨rfl, e2, (by decide : 0 + 0 ≤ _), (by decide : 0 + 0 ≤ _)⟩)
  dsimp only [Pt.U, Pt.locs, Pt.cells, Pt.slots] at X3 l3 y3 z3 st3 hQ3
  subst l3 y3 z3
  obtain ⟨rfl, N3q, e3⟩ := hQ3
  have N3 := Fr.app N2 N3q
  obtain ⟨_, _, ⟨T4, L4, k4, n4⟩, -, X4, ⟨Lc4, hQ4, l4, y4, z4⟩, st4⟩ := Jvm.LawKit.callS X3 hx (y := (⟨"com/example/actd/actd/model/CallbackStateAfterPinLaw", "expected", "(ILcom/example/actd/actd/model/ActivityState;)Lcom/example/actd/actd/model/ActivityState;"⟩ : MethodName)) hown (mvT hZ (hw _ (List.mem_of_getElem? (i := 22) rfl))) (mvT hZ (hw _ (List.mem_of_getElem? (i := 23) rfl))) (mvT hZ (hw _ (List.mem_of_getElem? (i := 3) rfl))) (mvT hZ (hw _ (List.mem_of_getElem? (i := 24) rfl))) (by decide) (backOf (W := 1) (rm4 l Z a0 hw [] ((p1 &&& (2147483647 : Int32)) % (8 : Int32)) b w1 w3 w4 w5 r h0 n0 Z0 S1 S3 S4 S5 hex) hZ (hw _ (List.mem_of_getElem? (i := 24) rfl)) (hw _ (List.mem_of_getElem? (i := 3) rfl)) (by decide) (by decide)) (g := (mkF m 42 #[.val (.int p1), .val (.int p2), .val (.int ((p1 &&& (2147483647 : Int32)) % (8 : Int32))), .val (.int ((p2 &&& (2147483647 : Int32)) % (6 : Int32))), .val (.ref t), .val (.ref b), .val (.ref r)] [(.ref b), (.int ((p1 &&& (2147483647 : Int32)) % (8 : Int32))), (.ref r)])) rfl (by rw [hml]; rfl) (argsL := [(.int ((p1 &&& (2147483647 : Int32)) % (8 : Int32))), (.ref b)]) (rest := [(.ref r)]) (lenOf pd_3 rfl) rfl (by show 2 * 0 + _ ≤ _; exact Nat.le_of_eq rfl) (hb hby at_42) (fun _ _ => ⟨rfl, e3, (by decide : 0 + 0 ≤ _), (by decide : 0 + 0 ≤ _)⟩)
  dsimp only [Pt.U, Pt.locs, Pt.cells, Pt.slots] at X4 l4 y4 z4 st4 hQ4
  subst l4 y4 z4
  obtain ⟨rfl, N4q, e4⟩ := hQ4
  have N4 := Fr.app N3 N4q
  obtain ⟨fs, hr, hrun, hended, hW, hsame⟩ := X4.leave (v := some (.int (1 : Int32))) (fun h => by rw [Bd.returns] at h; cases h)
  refine ⟨_, _, pre0 _ ?_, hrun, hended, _, _, rfl, ?_, ⟨_, rfl⟩, hW, hsame.mono (by decide) (by decide)⟩
  · show Steps p.tables e below (s₁.setTop (mkF m 0 #[.val (.int p1), .val (.int p2), .unset, .unset, .unset, .unset, .unset] [])) _
    refine XS.iloadN X0.here hx rfl (hb hby at_0) rfl ?_
    show Steps p.tables e below (s₁.setTop (mkF m 1 #[.val (.int p1), .val (.int p2), .unset, .unset, .unset, .unset, .unset] [(.int p1)])) _
    refine Jvm.Stand.ldcI X0 hx hown (mvT hZ (hw _ (List.mem_of_getElem? (i := 0) rfl))) (g := (mkF m 1 #[.val (.int p1), .val (.int p2), .unset, .unset, .unset, .unset, .unset] [(.int p1)])) rfl (hb hby at_1) ?_
    show Steps p.tables e below (s₁.setTop (mkF m 3 #[.val (.int p1), .val (.int p2), .unset, .unset, .unset, .unset, .unset] [(.int (2147483647 : Int32)), (.int p1)])) _
    refine XS.iand X0.here hx rfl (hb hby at_3) rfl ?_
    show Steps p.tables e below (s₁.setTop (mkF m 4 #[.val (.int p1), .val (.int p2), .unset, .unset, .unset, .unset, .unset] [(.int (p1 &&& (2147483647 : Int32)))])) _
    refine XS.bipush X0.here hx rfl (hb hby at_4) ?_
    show Steps p.tables e below (s₁.setTop (mkF m 6 #[.val (.int p1), .val (.int p2), .unset, .unset, .unset, .unset, .unset] [(.int (8 : Int32)), (.int (p1 &&& (2147483647 : Int32)))])) _
    refine iremM X0 hx rfl (hb hby at_6) rfl (by decide) ?_
    show Steps p.tables e below (s₁.setTop (mkF m 7 #[.val (.int p1), .val (.int p2), .unset, .unset, .unset, .unset, .unset] [(.int ((p1 &&& (2147483647 : Int32)) % (8 : Int32)))])) _
    refine XS.istoreN X0.here hx rfl (hb hby at_7) rfl (l' := #[.val (.int p1), .val (.int p2), .val (.int ((p1 &&& (2147483647 : Int32)) % (8 : Int32))), .unset, .unset, .unset, .unset]) rfl ?_
    show Steps p.tables e below (s₁.setTop (mkF m 8 #[.val (.int p1), .val (.int p2), .val (.int ((p1 &&& (2147483647 : Int32)) % (8 : Int32))), .unset, .unset, .unset, .unset] [])) _
    refine XS.iloadN X0.here hx rfl (hb hby at_8) rfl ?_
    show Steps p.tables e below (s₁.setTop (mkF m 9 #[.val (.int p1), .val (.int p2), .val (.int ((p1 &&& (2147483647 : Int32)) % (8 : Int32))), .unset, .unset, .unset, .unset] [(.int p2)])) _
    refine Jvm.Stand.ldcI X0 hx hown (mvT hZ (hw _ (List.mem_of_getElem? (i := 0) rfl))) (g := (mkF m 9 #[.val (.int p1), .val (.int p2), .val (.int ((p1 &&& (2147483647 : Int32)) % (8 : Int32))), .unset, .unset, .unset, .unset] [(.int p2)])) rfl (hb hby at_9) ?_
    show Steps p.tables e below (s₁.setTop (mkF m 11 #[.val (.int p1), .val (.int p2), .val (.int ((p1 &&& (2147483647 : Int32)) % (8 : Int32))), .unset, .unset, .unset, .unset] [(.int (2147483647 : Int32)), (.int p2)])) _
    refine XS.iand X0.here hx rfl (hb hby at_11) rfl ?_
    show Steps p.tables e below (s₁.setTop (mkF m 12 #[.val (.int p1), .val (.int p2), .val (.int ((p1 &&& (2147483647 : Int32)) % (8 : Int32))), .unset, .unset, .unset, .unset] [(.int (p2 &&& (2147483647 : Int32)))])) _
    refine XS.bipush X0.here hx rfl (hb hby at_12) ?_
    show Steps p.tables e below (s₁.setTop (mkF m 14 #[.val (.int p1), .val (.int p2), .val (.int ((p1 &&& (2147483647 : Int32)) % (8 : Int32))), .unset, .unset, .unset, .unset] [(.int (6 : Int32)), (.int (p2 &&& (2147483647 : Int32)))])) _
    refine iremM X0 hx rfl (hb hby at_14) rfl (by decide) ?_
    show Steps p.tables e below (s₁.setTop (mkF m 15 #[.val (.int p1), .val (.int p2), .val (.int ((p1 &&& (2147483647 : Int32)) % (8 : Int32))), .unset, .unset, .unset, .unset] [(.int ((p2 &&& (2147483647 : Int32)) % (6 : Int32)))])) _
    refine XS.istoreN X0.here hx rfl (hb hby at_15) rfl (l' := #[.val (.int p1), .val (.int p2), .val (.int ((p1 &&& (2147483647 : Int32)) % (8 : Int32))), .val (.int ((p2 &&& (2147483647 : Int32)) % (6 : Int32))), .unset, .unset, .unset]) rfl ?_
    show Steps p.tables e below (s₁.setTop (mkF m 16 #[.val (.int p1), .val (.int p2), .val (.int ((p1 &&& (2147483647 : Int32)) % (8 : Int32))), .val (.int ((p2 &&& (2147483647 : Int32)) % (6 : Int32))), .unset, .unset, .unset] [])) _
    refine XS.iloadN X0.here hx rfl (hb hby at_16) rfl ?_
    show Steps p.tables e below (s₁.setTop (mkF m 17 #[.val (.int p1), .val (.int p2), .val (.int ((p1 &&& (2147483647 : Int32)) % (8 : Int32))), .val (.int ((p2 &&& (2147483647 : Int32)) % (6 : Int32))), .unset, .unset, .unset] [(.int ((p1 &&& (2147483647 : Int32)) % (8 : Int32)))])) _
    refine st1 _ ?_
    show Steps p.tables e below (T1.setTop (mkF m 20 #[.val (.int p1), .val (.int p2), .val (.int ((p1 &&& (2147483647 : Int32)) % (8 : Int32))), .val (.int ((p2 &&& (2147483647 : Int32)) % (6 : Int32))), .unset, .unset, .unset] [(.ref t)])) _
    refine XS.astore X1.here hx rfl (hb hby at_20) rfl rfl (l' := #[.val (.int p1), .val (.int p2), .val (.int ((p1 &&& (2147483647 : Int32)) % (8 : Int32))), .val (.int ((p2 &&& (2147483647 : Int32)) % (6 : Int32))), .val (.ref t), .unset, .unset]) rfl ?_
    show Steps p.tables e below (T1.setTop (mkF m 22 #[.val (.int p1), .val (.int p2), .val (.int ((p1 &&& (2147483647 : Int32)) % (8 : Int32))), .val (.int ((p2 &&& (2147483647 : Int32)) % (6 : Int32))), .val (.ref t), .unset, .unset] [])) _
    refine XS.iloadN X1.here hx rfl (hb hby at_22) rfl ?_
    show Steps p.tables e below (T1.setTop (mkF m 23 #[.val (.int p1), .val (.int p2), .val (.int ((p1 &&& (2147483647 : Int32)) % (8 : Int32))), .val (.int ((p2 &&& (2147483647 : Int32)) % (6 : Int32))), .val (.ref t), .unset, .unset] [(.int ((p2 &&& (2147483647 : Int32)) % (6 : Int32)))])) _
    refine st2 _ ?_
    show Steps p.tables e below (T2.setTop (mkF m 26 #[.val (.int p1), .val (.int p2), .val (.int ((p1 &&& (2147483647 : Int32)) % (8 : Int32))), .val (.int ((p2 &&& (2147483647 : Int32)) % (6 : Int32))), .val (.ref t), .unset, .unset] [(.ref b)])) _
    refine XS.astore X2.here hx rfl (hb hby at_26) rfl rfl (l' := #[.val (.int p1), .val (.int p2), .val (.int ((p1 &&& (2147483647 : Int32)) % (8 : Int32))), .val (.int ((p2 &&& (2147483647 : Int32)) % (6 : Int32))), .val (.ref t), .val (.ref b), .unset]) rfl ?_
    show Steps p.tables e below (T2.setTop (mkF m 28 #[.val (.int p1), .val (.int p2), .val (.int ((p1 &&& (2147483647 : Int32)) % (8 : Int32))), .val (.int ((p2 &&& (2147483647 : Int32)) % (6 : Int32))), .val (.ref t), .val (.ref b), .unset] [])) _
    refine XS.aload X2.here hx rfl (hb hby at_28) rfl rfl ?_
    show Steps p.tables e below (T2.setTop (mkF m 30 #[.val (.int p1), .val (.int p2), .val (.int ((p1 &&& (2147483647 : Int32)) % (8 : Int32))), .val (.int ((p2 &&& (2147483647 : Int32)) % (6 : Int32))), .val (.ref t), .val (.ref b), .unset] [(.ref t)])) _
    refine XS.aload X2.here hx rfl (hb hby at_30) rfl rfl ?_
    show Steps p.tables e below (T2.setTop (mkF m 32 #[.val (.int p1), .val (.int p2), .val (.int ((p1 &&& (2147483647 : Int32)) % (8 : Int32))), .val (.int ((p2 &&& (2147483647 : Int32)) % (6 : Int32))), .val (.ref t), .val (.ref b), .unset] [(.ref b), (.ref t)])) _
    refine st3.trans ?_
    show Steps p.tables e below (T3.setTop (mkF m 35 #[.val (.int p1), .val (.int p2), .val (.int ((p1 &&& (2147483647 : Int32)) % (8 : Int32))), .val (.int ((p2 &&& (2147483647 : Int32)) % (6 : Int32))), .val (.ref t), .val (.ref b), .unset] [(.ref r)])) _
    refine XS.astore X3.here hx rfl (hb hby at_35) rfl rfl (l' := #[.val (.int p1), .val (.int p2), .val (.int ((p1 &&& (2147483647 : Int32)) % (8 : Int32))), .val (.int ((p2 &&& (2147483647 : Int32)) % (6 : Int32))), .val (.ref t), .val (.ref b), .val (.ref r)]) rfl ?_
    show Steps p.tables e below (T3.setTop (mkF m 37 #[.val (.int p1), .val (.int p2), .val (.int ((p1 &&& (2147483647 : Int32)) % (8 : Int32))), .val (.int ((p2 &&& (2147483647 : Int32)) % (6 : Int32))), .val (.ref t), .val (.ref b), .val (.ref r)] [])) _
    refine XS.aload X3.here hx rfl (hb hby at_37) rfl rfl ?_
    show Steps p.tables e below (T3.setTop (mkF m 39 #[.val (.int p1), .val (.int p2), .val (.int ((p1 &&& (2147483647 : Int32)) % (8 : Int32))), .val (.int ((p2 &&& (2147483647 : Int32)) % (6 : Int32))), .val (.ref t), .val (.ref b), .val (.ref r)] [(.ref r)])) _
    refine XS.iloadN X3.here hx rfl (hb hby at_39) rfl ?_
    show Steps p.tables e below (T3.setTop (mkF m 40 #[.val (.int p1), .val (.int p2), .val (.int ((p1 &&& (2147483647 : Int32)) % (8 : Int32))), .val (.int ((p2 &&& (2147483647 : Int32)) % (6 : Int32))), .val (.ref t), .val (.ref b), .val (.ref r)] [(.int ((p1 &&& (2147483647 : Int32)) % (8 : Int32))), (.ref r)])) _
    refine XS.aload X3.here hx rfl (hb hby at_40) rfl rfl ?_
    show Steps p.tables e below (T3.setTop (mkF m 42 #[.val (.int p1), .val (.int p2), .val (.int ((p1 &&& (2147483647 : Int32)) % (8 : Int32))), .val (.int ((p2 &&& (2147483647 : Int32)) % (6 : Int32))), .val (.ref t), .val (.ref b), .val (.ref r)] [(.ref b), (.int ((p1 &&& (2147483647 : Int32)) % (8 : Int32))), (.ref r)])) _
    refine st4 _ ?_
    show Steps p.tables e below (T4.setTop (mkF m 45 #[.val (.int p1), .val (.int p2), .val (.int ((p1 &&& (2147483647 : Int32)) % (8 : Int32))), .val (.int ((p2 &&& (2147483647 : Int32)) % (6 : Int32))), .val (.ref t), .val (.ref b), .val (.ref r)] [(.ref r), (.ref r)])) _
    refine Jvm.RoadKit.acmp (g := (mkF m 45 #[.val (.int p1), .val (.int p2), .val (.int ((p1 &&& (2147483647 : Int32)) % (8 : Int32))), .val (.int ((p2 &&& (2147483647 : Int32)) % (6 : Int32))), .val (.ref t), .val (.ref b), .val (.ref r)] [(.ref r), (.ref r)])) X4 hx rfl rfl rfl (pc0 := 45) (pc' := 48) (same := true) rfl (hb hby at_45) rfl (decide_eq_true rfl) (by decide) (by decide) ?_
    show Steps p.tables e below (T4.setTop (mkF m 48 #[.val (.int p1), .val (.int p2), .val (.int ((p1 &&& (2147483647 : Int32)) % (8 : Int32))), .val (.int ((p2 &&& (2147483647 : Int32)) % (6 : Int32))), .val (.ref t), .val (.ref b), .val (.ref r)] [])) _
    refine XS.iconst X4.here hx rfl (hb hby at_48) ?_
    show Steps p.tables e below (T4.setTop (mkF m 49 #[.val (.int p1), .val (.int p2), .val (.int ((p1 &&& (2147483647 : Int32)) % (8 : Int32))), .val (.int ((p2 &&& (2147483647 : Int32)) % (6 : Int32))), .val (.ref t), .val (.ref b), .val (.ref r)] [(.int (1 : Int32))])) _
    refine XS.goto X4.here hx rfl (pc0 := 49) (pc' := 53) rfl (hb hby at_49) (by decide) (by decide) ?_
    show Steps p.tables e below (T4.setTop (mkF m 53 #[.val (.int p1), .val (.int p2), .val (.int ((p1 &&& (2147483647 : Int32)) % (8 : Int32))), .val (.int ((p2 &&& (2147483647 : Int32)) % (6 : Int32))), .val (.ref t), .val (.ref b), .val (.ref r)] [(.int (1 : Int32))])) _
    exact retN X4 hx (t := .boolean) Bd.returns (by simp) (hb hby at_53) hr
  · show _ = some (Value.int 1) ∧ Fr n0 _
    exact ⟨rfl, N4⟩
set_option maxRecDepth 65536 in
set_option maxHeartbeats 40000000 in
theorem comes_1 {Post : Tables → Env → Array Value → State → Outcome → State → Prop} (hpost : ∀ tb e args s v u, (limb_1_1.after args s (.returned v) u = true ∧ limb_1_2.after args s (.returned v) u = true ∧ True) → FrameEnd s (.returned v) u (Jvm.fieldLocs frame_1_writes args s ++ Jvm.arrayLocs frame_1_arrays args s ++ Jvm.staticLocs frame_1_statics s) 0 0 → Post tb e args s (.returned v) u) :
    ArmFor flags0 classFile x code maxLocals ret World_1 tables_1 room_1 Calls_1 rest_1 Pre_1 Post := by
  intro l hfl _ _ p e ha hc hk s m args below hf hA hF happ hP
  obtain ⟨hcalls, hrest, hpre⟩ := hP
  obtain ⟨-, -, -, hnamed, -, -, -, hat⟩ := (Spec.applies_iff hf).mp happ
  obtain ⟨hg, hn⟩ := and_e (Cond.before_iff.mp (show (Jvm.Cond.and given_1 narrow_1).before args s = true from hpre))
  obtain ⟨gc, g0⟩ := and_e hg
  obtain ⟨ga0, g1⟩ := and_e g0
  obtain ⟨w0, w1, rfl⟩ : ∃ w0 w1 : Value, args = #[w0, w1] := by
    have hs : args.size = 2 := by simpa [Cond.value, given_1] using gc
    obtain ⟨L⟩ := args
    match L, hs with
    | [w0, w1], _ => exact ⟨w0, w1, rfl⟩
  have hw := fun d (hd : d ∈ tables_1) => atoms_spec (ws := Jvm.Cond.code x code maxLocals ret :: tables_1) hat d (List.mem_cons_of_mem _ hd)
  have hfit : Fit s := fun {y c} hc i hi => by
    obtain ⟨ha, rfl⟩ := Array.getElem?_eq_some_iff.mp hc
    have q := List.all_eq_true.mp ((Array.all_eq_true_iff_forall_mem.mp hF) _ (Array.getElem_mem ha)) i (List.mem_range.mpr hi)
    simpa [Array.getElem?_eq_getElem hi] using q
  obtain ⟨i0, ei0⟩ := is_v ga0
  obtain rfl : w0 = (.int i0) := Option.some.inj ei0
  obtain ⟨i1, ei1⟩ := is_v g1
  obtain rfl : w1 = (.int i1) := Option.some.inj ei1
  obtain ⟨n1a, n1b⟩ := and_e hn
  obtain ⟨n2a, n2b⟩ := and_e n1b
  obtain ⟨n3a, n3b⟩ := and_e n2b
  obtain ⟨n4a, n4b⟩ := and_e n3b
  obtain ⟨n5a, n5b⟩ := and_e n4b
  obtain ⟨n6a, n6b⟩ := and_e n5b
  obtain ⟨n7a, n7b⟩ := and_e n6b
  obtain ⟨n8a, n8b⟩ := and_e n7b
  obtain ⟨n9a, n9b⟩ := and_e n8b
  obtain ⟨n10a, n10b⟩ := and_e n9b
  obtain ⟨n11a, n11b⟩ := and_e n10b
  obtain ⟨n12a, n12b⟩ := and_e n11b
  obtain ⟨n13a, n13b⟩ := and_e n12b
  obtain ⟨n14a, n14b⟩ := and_e n13b
  obtain ⟨n15a, n15b⟩ := and_e n14b
  obtain ⟨n16a, n16b⟩ := and_e n15b
  obtain ⟨n17a, n17b⟩ := and_e n16b
  obtain ⟨n18a, n18b⟩ := and_e n17b
  obtain ⟨n19a, n19b⟩ := and_e n18b
  obtain ⟨n20a, n20b⟩ := and_e n19b
  obtain ⟨n21a, n21b⟩ := and_e n20b
  obtain ⟨w_CREATE, v_CREATE⟩ := exa_v n1a
  have S_CREATE : Sta s s.heap "com/example/actd/actd/model/Callback" "CREATE" "Lcom/example/actd/actd/model/Callback;" (.ref w_CREATE) := Sta.start v_CREATE (Or.inr ⟨(hw _ (List.mem_of_getElem? (i := 6) rfl)), (hw _ (List.mem_of_getElem? (i := 7) rfl))⟩)
  have E_CREATE : Exa s s.heap w_CREATE "com/example/actd/actd/model/Callback" := Exa.start v_CREATE n1a
  obtain ⟨w_PAUSED, v_PAUSED⟩ := exa_v n2a
  have S_PAUSED : Sta s s.heap "com/example/actd/actd/model/ActivityState" "PAUSED" "Lcom/example/actd/actd/model/ActivityState;" (.ref w_PAUSED) := Sta.start v_PAUSED (Or.inr ⟨(hw _ (List.mem_of_getElem? (i := 12) rfl)), (hw _ (List.mem_of_getElem? (i := 13) rfl))⟩)
  have E_PAUSED : Exa s s.heap w_PAUSED "com/example/actd/actd/model/ActivityState" := Exa.start v_PAUSED n2a
  obtain ⟨w_STOPPED, v_STOPPED⟩ := exa_v n3a
  have S_STOPPED : Sta s s.heap "com/example/actd/actd/model/ActivityState" "STOPPED" "Lcom/example/actd/actd/model/ActivityState;" (.ref w_STOPPED) := Sta.start v_STOPPED (Or.inr ⟨(hw _ (List.mem_of_getElem? (i := 12) rfl)), (hw _ (List.mem_of_getElem? (i := 21) rfl))⟩)
  have E_STOPPED : Exa s s.heap w_STOPPED "com/example/actd/actd/model/ActivityState" := Exa.start v_STOPPED n3a
  obtain ⟨w_NEW_INTENT, v_NEW_INTENT⟩ := exa_v n5a
  have S_NEW_INTENT : Sta s s.heap "com/example/actd/actd/model/Callback" "NEW_INTENT" "Lcom/example/actd/actd/model/Callback;" (.ref w_NEW_INTENT) := Sta.start v_NEW_INTENT (Or.inr ⟨(hw _ (List.mem_of_getElem? (i := 6) rfl)), (hw _ (List.mem_of_getElem? (i := 27) rfl))⟩)
  have E_NEW_INTENT : Exa s s.heap w_NEW_INTENT "com/example/actd/actd/model/Callback" := Exa.start v_NEW_INTENT n5a
  obtain ⟨w_RESUMED, v_RESUMED⟩ := exa_v n6a
  have S_RESUMED : Sta s s.heap "com/example/actd/actd/model/ActivityState" "RESUMED" "Lcom/example/actd/actd/model/ActivityState;" (.ref w_RESUMED) := Sta.start v_RESUMED (Or.inr ⟨(hw _ (List.mem_of_getElem? (i := 12) rfl)), (hw _ (List.mem_of_getElem? (i := 29) rfl))⟩)
  have E_RESUMED : Exa s s.heap w_RESUMED "com/example/actd/actd/model/ActivityState" := Exa.start v_RESUMED n6a
  obtain ⟨w_STOP, v_STOP⟩ := exa_v n8a
  have S_STOP : Sta s s.heap "com/example/actd/actd/model/Callback" "STOP" "Lcom/example/actd/actd/model/Callback;" (.ref w_STOP) := Sta.start v_STOP (Or.inr ⟨(hw _ (List.mem_of_getElem? (i := 6) rfl)), (hw _ (List.mem_of_getElem? (i := 31) rfl))⟩)
  have E_STOP : Exa s s.heap w_STOP "com/example/actd/actd/model/Callback" := Exa.start v_STOP n8a
  obtain ⟨w_DESTROYED, v_DESTROYED⟩ := exa_v n9a
  have S_DESTROYED : Sta s s.heap "com/example/actd/actd/model/ActivityState" "DESTROYED" "Lcom/example/actd/actd/model/ActivityState;" (.ref w_DESTROYED) := Sta.start v_DESTROYED (Or.inr ⟨(hw _ (List.mem_of_getElem? (i := 12) rfl)), (hw _ (List.mem_of_getElem? (i := 33) rfl))⟩)
  have E_DESTROYED : Exa s s.heap w_DESTROYED "com/example/actd/actd/model/ActivityState" := Exa.start v_DESTROYED n9a
  obtain ⟨w_PAUSING, v_PAUSING⟩ := exa_v n11a
  have S_PAUSING : Sta s s.heap "com/example/actd/actd/model/ActivityState" "PAUSING" "Lcom/example/actd/actd/model/ActivityState;" (.ref w_PAUSING) := Sta.start v_PAUSING (Or.inr ⟨(hw _ (List.mem_of_getElem? (i := 12) rfl)), (hw _ (List.mem_of_getElem? (i := 35) rfl))⟩)
  have E_PAUSING : Exa s s.heap w_PAUSING "com/example/actd/actd/model/ActivityState" := Exa.start v_PAUSING n11a
  obtain ⟨w_WAITING, v_WAITING⟩ := exa_v n12a
  have S_WAITING : Sta s s.heap "com/example/actd/actd/model/ActivityState" "WAITING" "Lcom/example/actd/actd/model/ActivityState;" (.ref w_WAITING) := Sta.start v_WAITING (Or.inr ⟨(hw _ (List.mem_of_getElem? (i := 12) rfl)), (hw _ (List.mem_of_getElem? (i := 37) rfl))⟩)
  have E_WAITING : Exa s s.heap w_WAITING "com/example/actd/actd/model/ActivityState" := Exa.start v_WAITING n12a
  obtain ⟨w_RESTART, v_RESTART⟩ := exa_v n13a
  have S_RESTART : Sta s s.heap "com/example/actd/actd/model/Callback" "RESTART" "Lcom/example/actd/actd/model/Callback;" (.ref w_RESTART) := Sta.start v_RESTART (Or.inr ⟨(hw _ (List.mem_of_getElem? (i := 6) rfl)), (hw _ (List.mem_of_getElem? (i := 39) rfl))⟩)
  have E_RESTART : Exa s s.heap w_RESTART "com/example/actd/actd/model/Callback" := Exa.start v_RESTART n13a
  obtain ⟨w_DESTROY, v_DESTROY⟩ := exa_v n15a
  have S_DESTROY : Sta s s.heap "com/example/actd/actd/model/Callback" "DESTROY" "Lcom/example/actd/actd/model/Callback;" (.ref w_DESTROY) := Sta.start v_DESTROY (Or.inr ⟨(hw _ (List.mem_of_getElem? (i := 6) rfl)), (hw _ (List.mem_of_getElem? (i := 41) rfl))⟩)
  have E_DESTROY : Exa s s.heap w_DESTROY "com/example/actd/actd/model/Callback" := Exa.start v_DESTROY n15a
  obtain ⟨w_PAUSE, v_PAUSE⟩ := exa_v n17a
  have S_PAUSE : Sta s s.heap "com/example/actd/actd/model/Callback" "PAUSE" "Lcom/example/actd/actd/model/Callback;" (.ref w_PAUSE) := Sta.start v_PAUSE (Or.inr ⟨(hw _ (List.mem_of_getElem? (i := 6) rfl)), (hw _ (List.mem_of_getElem? (i := 43) rfl))⟩)
  have E_PAUSE : Exa s s.heap w_PAUSE "com/example/actd/actd/model/Callback" := Exa.start v_PAUSE n17a
  obtain ⟨w_START, v_START⟩ := exa_v n19a
  have S_START : Sta s s.heap "com/example/actd/actd/model/Callback" "START" "Lcom/example/actd/actd/model/Callback;" (.ref w_START) := Sta.start v_START (Or.inr ⟨(hw _ (List.mem_of_getElem? (i := 6) rfl)), (hw _ (List.mem_of_getElem? (i := 45) rfl))⟩)
  have E_START : Exa s s.heap w_START "com/example/actd/actd/model/Callback" := Exa.start v_START n19a
  obtain ⟨w_RESUME, v_RESUME⟩ := exa_v n21a
  have S_RESUME : Sta s s.heap "com/example/actd/actd/model/Callback" "RESUME" "Lcom/example/actd/actd/model/Callback;" (.ref w_RESUME) := Sta.start v_RESUME (Or.inr ⟨(hw _ (List.mem_of_getElem? (i := 6) rfl)), (hw _ (List.mem_of_getElem? (i := 47) rfl))⟩)
  have E_RESUME : Exa s s.heap w_RESUME "com/example/actd/actd/model/Callback" := Exa.start v_RESUME n21a
  have F_stateAfter_CREATE : Fld s s.heap w_CREATE "com/example/actd/actd/model/Callback" "stateAfter" "Lcom/example/actd/actd/model/ActivityState;" (.ref w_STOPPED) := own_fld v_CREATE (own_eqR n4a v_STOPPED)
  have F_stateAfter_NEW_INTENT : Fld s s.heap w_NEW_INTENT "com/example/actd/actd/model/Callback" "stateAfter" "Lcom/example/actd/actd/model/ActivityState;" .null := own_fld v_NEW_INTENT (null_v n7a)
  have F_stateAfter_STOP : Fld s s.heap w_STOP "com/example/actd/actd/model/Callback" "stateAfter" "Lcom/example/actd/actd/model/ActivityState;" (.ref w_STOPPED) := own_fld v_STOP (own_eqR n10a v_STOPPED)
  have F_stateAfter_RESTART : Fld s s.heap w_RESTART "com/example/actd/actd/model/Callback" "stateAfter" "Lcom/example/actd/actd/model/ActivityState;" (.ref w_STOPPED) := own_fld v_RESTART (own_eqR n14a v_STOPPED)
  have F_stateAfter_DESTROY : Fld s s.heap w_DESTROY "com/example/actd/actd/model/Callback" "stateAfter" "Lcom/example/actd/actd/model/ActivityState;" (.ref w_DESTROYED) := own_fld v_DESTROY (own_eqR n16a v_DESTROYED)
  have F_stateAfter_PAUSE : Fld s s.heap w_PAUSE "com/example/actd/actd/model/Callback" "stateAfter" "Lcom/example/actd/actd/model/ActivityState;" (.ref w_PAUSED) := own_fld v_PAUSE (own_eqR n18a v_PAUSED)
  have F_stateAfter_START : Fld s s.heap w_START "com/example/actd/actd/model/Callback" "stateAfter" "Lcom/example/actd/actd/model/ActivityState;" (.ref w_PAUSED) := own_fld v_START (own_eqR n20a v_PAUSED)
  have F_stateAfter_RESUME : Fld s s.heap w_RESUME "com/example/actd/actd/model/Callback" "stateAfter" "Lcom/example/actd/actd/model/ActivityState;" (.ref w_RESUMED) := own_fld v_RESUME (own_eqR n21b v_RESUMED)
  obtain ⟨b, hst⟩ : ∃ b : Addr, own_st ((i1 &&& (2147483647 : Int32)) % (6 : Int32)) w_WAITING w_RESUMED w_PAUSING w_PAUSED w_STOPPED w_DESTROYED = b := ⟨_, rfl⟩
  obtain ⟨t, r, fv, hcb, E, FS, hfv, hex⟩ : ∃ (t r : Addr) (fv : Value), own_cb ((i0 &&& (2147483647 : Int32)) % (8 : Int32)) w_CREATE w_START w_RESUME w_PAUSE w_STOP w_RESTART w_NEW_INTENT w_DESTROY = t ∧ Exa s s.heap t "com/example/actd/actd/model/Callback" ∧ Fld s s.heap t "com/example/actd/actd/model/Callback" "stateAfter" "Lcom/example/actd/actd/model/ActivityState;" fv ∧ (fv = .ref r ∨ (fv = .null ∧ b = r)) ∧ own_exp ((i0 &&& (2147483647 : Int32)) % (8 : Int32)) b w_RESUMED w_PAUSED w_STOPPED w_DESTROYED = r := by
    rcases own_mod8 i0 with h | h | h | h | h | h | h | h <;> rw [h]
    · exact ⟨w_CREATE, w_STOPPED, _, rfl, E_CREATE, F_stateAfter_CREATE, Or.inl rfl, rfl⟩
    · exact ⟨w_START, w_PAUSED, _, rfl, E_START, F_stateAfter_START, Or.inl rfl, rfl⟩
    · exact ⟨w_RESUME, w_RESUMED, _, rfl, E_RESUME, F_stateAfter_RESUME, Or.inl rfl, rfl⟩
    · exact ⟨w_PAUSE, w_PAUSED, _, rfl, E_PAUSE, F_stateAfter_PAUSE, Or.inl rfl, rfl⟩
    · exact ⟨w_STOP, w_STOPPED, _, rfl, E_STOP, F_stateAfter_STOP, Or.inl rfl, rfl⟩
    · exact ⟨w_RESTART, w_STOPPED, _, rfl, E_RESTART, F_stateAfter_RESTART, Or.inl rfl, rfl⟩
    · exact ⟨w_NEW_INTENT, b, _, rfl, E_NEW_INTENT, F_stateAfter_NEW_INTENT, Or.inr ⟨rfl, rfl⟩, rfl⟩
    · exact ⟨w_DESTROY, w_DESTROYED, _, rfl, E_DESTROY, F_stateAfter_DESTROY, Or.inl rfl, rfl⟩
  obtain ⟨n, o, h1, h2, h3, _, L, rfl, ⟨rfl, N⟩, hq⟩ := rm0 l s _ hw tables_1 i0 i1 w_CREATE w_START w_RESUME w_PAUSE w_STOP w_RESTART w_NEW_INTENT w_DESTROY w_WAITING w_RESUMED w_PAUSING w_PAUSED w_STOPPED w_DESTROYED t b r fv s.heap s.heap.size (Nat.le_refl _) S_CREATE S_START S_RESUME S_PAUSE S_STOP S_RESTART S_NEW_INTENT S_DESTROY S_WAITING S_RESUMED S_PAUSING S_PAUSED S_STOPPED S_DESTROYED hcb hst E FS hfv hex p e ha hc hk s m _ below hf ((Spec.applies_iff_loose hf).mp happ).1 ⟨rfl, State.Warmed39.refl s, rfl⟩ trivial
  refine ⟨n, _, h1, h2, h3, hpost _ _ _ _ _ _ ⟨Cond.after_iff.mpr rfl, Cond.after_iff.mpr (eq_i res_at (Term.int_eval (1)) rfl), trivial⟩ ⟨hq.1, hq.2.1, (hq.2.2.sift fun y hy => Or.inr (N y hy)).mono (by decide) (by decide)⟩⟩
theorem main_1_1 : Claimed_1_1 := comes_1 fun _ _ _ _ _ _ h hF => ⟨h.1, hF⟩
theorem main_1_2 : Claimed_1_2 := comes_1 fun _ _ _ _ _ _ h hF => ⟨h.2.1, hF⟩
end Jvm.Pilot.@@N@@
namespace Jvm.Pilot.@@N@@
open Jvm Jvm.ClassFile Sem Op Lib Jvm.Free Jvm.Stand Jvm.Pilot.@@N@@.Jvm.D
/-! MADE BY PROGRAM (witnessworld.py) out of the Statement's table words and the real class files: 13 classes; the members and pool entries that the words name. The judged class is class 1, her method 4. -/
namespace start1
open Jvm.ClassFile
def u (s : String) : CpInfo := .utf8 (stringToUtf16 s)
/-- a pool by its gaps: so many unusable entries, then the entry; so many at the end -/
def gap : Nat → List CpInfo → List CpInfo
  | 0, r => r
  | n + 1, r => .unusable :: gap n r
def poolList (es : List (Nat × CpInfo)) (last : Nat) : List CpInfo := es.foldr (fun e r => gap e.1 (e.2 :: r)) (gap last [])
def pool (es : List (Nat × CpInfo)) (last : Nat) : Array CpInfo := ⟨poolList es last⟩
def fileOf (pool : Array CpInfo) (this : Nat) (attrs : Array Attribute := #[]) (ms : Array MethodInfo := #[]) (fl : Nat := 33) (sup : Nat := 0) (ifs : Array Nat := #[]) (fds : Array FieldInfo := #[]) : ClassFile where
  minorVersion := 0
  majorVersion := 65
  constantPool := pool
  accessFlags := fl
  thisClass := this
  superClass := sup
  interfaces := ifs
  fields := fds
  methods := ms
  attributes := attrs
def plain (name : String) (sup : Option ClassId) : Class where
  name := name
  kind := .ordinary
  loader := none
  accessFlags := 33
  super := sup
  interfaces := #[]
  cf := none
  fields := #[]
  methods := #[]
  instanceTypes := #[]
  staticTypes := #[]
  resolved := #[]
  callSites := []
  init := .initialized
  statics := none
  mirror := none

def pool0 : Array CpInfo := pool [(5, u "<init>"), (0, u "()V"), (1, .class_ 10), (1, u "java/lang/Object")] 113

def k0m0 : Method := { name := "<init>", desc := "()V", sig := { parameters := [], returnType := none }, accessFlags := 1, code := none }
/-- java/lang/Object -/
def k0 : Class := { plain "java/lang/Object" none with
  accessFlags := 33
  interfaces := #[]
  cf := some (fileOf pool0 8 #[] #[{ accessFlags := 1, nameIndex := 5, descriptorIndex := 6, attributes := #[] }] 33 0 #[] #[])
  fields := #[]
  methods := #[k0m0]
  instanceTypes := #[]
  staticTypes := #[]
  resolved := Array.replicate 124 none
  statics := none }

def pool1 : Array CpInfo := pool [(2, .class_ 4), (1, u "java/lang/Object"), (0, u "<init>"), (0, u "()V"), (0, .fieldref 8 9), (0, .class_ 10), (0, .nameAndType 11 12), (0, u "com/example/actd/actd/model/Callback"), (0, u "CREATE"), (0, u "Lcom/example/actd/actd/model/Callback;"), (0, .fieldref 8 14), (0, .nameAndType 15 12), (0, u "START"), (0, .fieldref 8 17), (0, .nameAndType 18 12), (0, u "RESUME"), (0, .fieldref 8 20), (0, .nameAndType 21 12), (0, u "PAUSE"), (0, .fieldref 8 23), (0, .nameAndType 24 12), (0, u "STOP"), (0, .fieldref 8 26), (0, .nameAndType 27 12), (0, u "RESTART"), (0, .fieldref 8 29), (0, .nameAndType 30 12), (0, u "NEW_INTENT"), (0, .fieldref 8 32), (0, .nameAndType 33 12), (0, u "DESTROY"), (0, .fieldref 35 36), (0, .class_ 37), (0, .nameAndType 38 39), (0, u "com/example/actd/actd/model/ActivityState"), (0, u "WAITING"), (0, u "Lcom/example/actd/actd/model/ActivityState;"), (0, .fieldref 35 41), (0, .nameAndType 42 39), (0, u "RESUMED"), (0, .fieldref 35 44), (0, .nameAndType 45 39), (0, u "PAUSING"), (0, .fieldref 35 47), (0, .nameAndType 48 39), (0, u "PAUSED"), (0, .fieldref 35 50), (0, .nameAndType 51 39), (0, u "STOPPED"), (0, .fieldref 35 53), (0, .nameAndType 54 39), (0, u "DESTROYED"), (0, .integer 2147483647), (0, .methodref 57 58), (0, .class_ 59), (0, .nameAndType 60 61), (0, u "com/example/actd/actd/model/CallbackStateAfterPinLaw"), (0, u "callback"), (0, u "(I)Lcom/example/actd/actd/model/Callback;"), (0, .methodref 57 63), (0, .nameAndType 64 65), (0, u "state"), (0, u "(I)Lcom/example/actd/actd/model/ActivityState;"), (0, .methodref 8 67), (0, .nameAndType 68 69), (0, u "stateAfter"), (0, u "(Lcom/example/actd/actd/model/ActivityState;)Lcom/example/actd/actd/model/ActivityState;"), (0, .methodref 57 71), (0, .nameAndType 72 73), (0, u "expected"), (0, u "(ILcom/example/actd/actd/model/ActivityState;)Lcom/example/actd/actd/model/ActivityState;"), (3, u "law"), (0, u "(II)Z")] 2

def k1m0 : Method := { name := "<init>", desc := "()V", sig := { parameters := [], returnType := none }, accessFlags := 1, code := none }
def k1c1 : Code := { maxStack := 2, maxLocals := 1, code := method_2_code, exceptionTable := #[], attributes := #[] }
def k1m1 : Method := { name := "callback", desc := "(I)Lcom/example/actd/actd/model/Callback;", sig := { parameters := [.int], returnType := some (.object "com/example/actd/actd/model/Callback") }, accessFlags := 10, code := some k1c1 }
def k1c2 : Code := { maxStack := 2, maxLocals := 1, code := method_3_code, exceptionTable := #[], attributes := #[] }
def k1m2 : Method := { name := "state", desc := "(I)Lcom/example/actd/actd/model/ActivityState;", sig := { parameters := [.int], returnType := some (.object "com/example/actd/actd/model/ActivityState") }, accessFlags := 10, code := some k1c2 }
def k1c3 : Code := { maxStack := 2, maxLocals := 2, code := method_4_code, exceptionTable := #[], attributes := #[] }
def k1m3 : Method := { name := "expected", desc := "(ILcom/example/actd/actd/model/ActivityState;)Lcom/example/actd/actd/model/ActivityState;", sig := { parameters := [.int, (.object "com/example/actd/actd/model/ActivityState")], returnType := some (.object "com/example/actd/actd/model/ActivityState") }, accessFlags := 10, code := some k1c3 }
def k1c4 : Code := { maxStack := 3, maxLocals := 7, code := code, exceptionTable := #[], attributes := #[] }
def k1m4 : Method := { name := "law", desc := "(II)Z", sig := { parameters := [.int, .int], returnType := some .boolean }, accessFlags := 9, code := some k1c4 }
/-- com/example/actd/actd/model/CallbackStateAfterPinLaw -/
def k1 : Class := { plain "com/example/actd/actd/model/CallbackStateAfterPinLaw" (some 0) with
  accessFlags := 49
  interfaces := #[]
  cf := some (fileOf pool1 57 #[] #[{ accessFlags := 1, nameIndex := 5, descriptorIndex := 6, attributes := #[] }, { accessFlags := 10, nameIndex := 60, descriptorIndex := 61, attributes := #[] }, { accessFlags := 10, nameIndex := 64, descriptorIndex := 65, attributes := #[] }, { accessFlags := 10, nameIndex := 72, descriptorIndex := 73, attributes := #[] }, { accessFlags := 9, nameIndex := 77, descriptorIndex := 78, attributes := #[] }] 49 2 #[] #[])
  fields := #[]
  methods := #[k1m0, k1m1, k1m2, k1m3, k1m4]
  instanceTypes := #[]
  staticTypes := #[]
  resolved := Array.replicate 81 none
  statics := none }

def pool2 : Array CpInfo := pool [(1, .class_ 2), (0, u "java/lang/constant/Constable"), (0, .class_ 4), (0, u "java/lang/Object")] 6

/-- java/lang/constant/Constable -/
def k2 : Class := { plain "java/lang/constant/Constable" (some 0) with
  accessFlags := 1537
  interfaces := #[]
  cf := some (fileOf pool2 1 #[] #[] 1537 3 #[] #[])
  fields := #[]
  methods := #[]
  instanceTypes := #[]
  staticTypes := #[]
  resolved := Array.replicate 11 none
  statics := none }

def pool3 : Array CpInfo := pool [(1, .class_ 2), (0, u "java/lang/Comparable"), (0, .class_ 4), (0, u "java/lang/Object")] 7

/-- java/lang/Comparable -/
def k3 : Class := { plain "java/lang/Comparable" (some 0) with
  accessFlags := 1537
  interfaces := #[]
  cf := some (fileOf pool3 1 #[] #[] 1537 3 #[] #[])
  fields := #[]
  methods := #[]
  instanceTypes := #[]
  staticTypes := #[]
  resolved := Array.replicate 12 none
  statics := none }

def pool4 : Array CpInfo := pool [(1, .class_ 2), (0, u "java/io/Serializable"), (0, .class_ 4), (0, u "java/lang/Object")] 2

/-- java/io/Serializable -/
def k4 : Class := { plain "java/io/Serializable" (some 0) with
  accessFlags := 1537
  interfaces := #[]
  cf := some (fileOf pool4 1 #[] #[] 1537 3 #[] #[])
  fields := #[]
  methods := #[]
  instanceTypes := #[]
  staticTypes := #[]
  resolved := Array.replicate 7 none
  statics := none }

def pool5 : Array CpInfo := pool [(2, .class_ 4), (1, u "java/lang/Enum"), (0, u "name"), (0, u "Ljava/lang/String;"), (2, u "ordinal"), (0, u "I"), (1, .class_ 14), (1, u "java/lang/Object"), (4, u "hash"), (86, .class_ 108), (1, u "java/lang/Enum$EnumDesc"), (2, .class_ 112), (0, u "java/lang/constant/Constable"), (0, .class_ 114), (0, u "java/lang/Comparable"), (0, .class_ 116), (0, u "java/io/Serializable")] 87

/-- java/lang/Enum -/
def k5 : Class := { plain "java/lang/Enum" (some 0) with
  accessFlags := 1057
  interfaces := #[2, 3, 4]
  cf := some (fileOf pool5 2 #[.nestMembers #[106]] #[] 1057 12 #[111, 113, 115] #[{ accessFlags := 18, nameIndex := 5, descriptorIndex := 6, attributes := #[] }, { accessFlags := 18, nameIndex := 9, descriptorIndex := 10, attributes := #[] }, { accessFlags := 2, nameIndex := 19, descriptorIndex := 10, attributes := #[] }])
  fields := #[{ name := "name", type := (.object "java/lang/String"), accessFlags := 18, slot := 0, constantValue := 0 }, { name := "ordinal", type := .int, accessFlags := 18, slot := 1, constantValue := 0 }, { name := "hash", type := .int, accessFlags := 2, slot := 2, constantValue := 0 }]
  methods := #[]
  instanceTypes := #[(.object "java/lang/String"), .int, .int]
  staticTypes := #[]
  resolved := Array.replicate 204 none
  statics := none }

def pool6 : Array CpInfo := pool [(1, .class_ 2), (0, u "com/example/actd/actd/model/Callback"), (2, u "CREATE"), (0, u "Lcom/example/actd/actd/model/Callback;"), (2, u "START"), (2, u "RESUME"), (2, u "PAUSE"), (2, u "STOP"), (2, u "RESTART"), (2, u "NEW_INTENT"), (2, u "DESTROY"), (2, u "$VALUES"), (0, u "[Lcom/example/actd/actd/model/Callback;"), (6, .class_ 40), (1, u "java/lang/Enum"), (8, u "label"), (0, u "Ljava/lang/String;"), (0, .fieldref 1 52), (0, .nameAndType 53 54), (0, u "stateAfter"), (0, u "Lcom/example/actd/actd/model/ActivityState;"), (82, u "LAUNCH"), (0, u "Ljava/util/List;"), (11, u "(Lcom/example/actd/actd/model/ActivityState;)Lcom/example/actd/actd/model/ActivityState;")] 28

def k6c0 : Code := { maxStack := 1, maxLocals := 2, code := prog_22_method_6_code, exceptionTable := #[], attributes := #[] }
def k6m0 : Method := { name := "stateAfter", desc := "(Lcom/example/actd/actd/model/ActivityState;)Lcom/example/actd/actd/model/ActivityState;", sig := { parameters := [(.object "com/example/actd/actd/model/ActivityState")], returnType := some (.object "com/example/actd/actd/model/ActivityState") }, accessFlags := 1, code := some k6c0 }
/-- com/example/actd/actd/model/Callback -/
def k6 : Class := { plain "com/example/actd/actd/model/Callback" (some 5) with
  accessFlags := 16433
  interfaces := #[]
  cf := some (fileOf pool6 1 #[] #[{ accessFlags := 1, nameIndex := 53, descriptorIndex := 150, attributes := #[] }] 16433 38 #[] #[{ accessFlags := 16409, nameIndex := 5, descriptorIndex := 6, attributes := #[] }, { accessFlags := 16409, nameIndex := 9, descriptorIndex := 6, attributes := #[] }, { accessFlags := 16409, nameIndex := 12, descriptorIndex := 6, attributes := #[] }, { accessFlags := 16409, nameIndex := 15, descriptorIndex := 6, attributes := #[] }, { accessFlags := 16409, nameIndex := 18, descriptorIndex := 6, attributes := #[] }, { accessFlags := 16409, nameIndex := 21, descriptorIndex := 6, attributes := #[] }, { accessFlags := 16409, nameIndex := 24, descriptorIndex := 6, attributes := #[] }, { accessFlags := 16409, nameIndex := 27, descriptorIndex := 6, attributes := #[] }, { accessFlags := 25, nameIndex := 137, descriptorIndex := 138, attributes := #[] }, { accessFlags := 18, nameIndex := 49, descriptorIndex := 50, attributes := #[] }, { accessFlags := 18, nameIndex := 53, descriptorIndex := 54, attributes := #[] }, { accessFlags := 4122, nameIndex := 30, descriptorIndex := 31, attributes := #[] }])
  fields := #[{ name := "CREATE", type := (.object "com/example/actd/actd/model/Callback"), accessFlags := 16409, slot := 0, constantValue := 0 }, { name := "START", type := (.object "com/example/actd/actd/model/Callback"), accessFlags := 16409, slot := 1, constantValue := 0 }, { name := "RESUME", type := (.object "com/example/actd/actd/model/Callback"), accessFlags := 16409, slot := 2, constantValue := 0 }, { name := "PAUSE", type := (.object "com/example/actd/actd/model/Callback"), accessFlags := 16409, slot := 3, constantValue := 0 }, { name := "STOP", type := (.object "com/example/actd/actd/model/Callback"), accessFlags := 16409, slot := 4, constantValue := 0 }, { name := "RESTART", type := (.object "com/example/actd/actd/model/Callback"), accessFlags := 16409, slot := 5, constantValue := 0 }, { name := "NEW_INTENT", type := (.object "com/example/actd/actd/model/Callback"), accessFlags := 16409, slot := 6, constantValue := 0 }, { name := "DESTROY", type := (.object "com/example/actd/actd/model/Callback"), accessFlags := 16409, slot := 7, constantValue := 0 }, { name := "LAUNCH", type := (.object "java/util/List"), accessFlags := 25, slot := 8, constantValue := 0 }, { name := "label", type := (.object "java/lang/String"), accessFlags := 18, slot := 3, constantValue := 0 }, { name := "stateAfter", type := (.object "com/example/actd/actd/model/ActivityState"), accessFlags := 18, slot := 4, constantValue := 0 }, { name := "$VALUES", type := (.array (.object "com/example/actd/actd/model/Callback")), accessFlags := 4122, slot := 9, constantValue := 0 }]
  methods := #[k6m0]
  instanceTypes := #[(.object "java/lang/String"), .int, .int, (.object "java/lang/String"), (.object "com/example/actd/actd/model/ActivityState")]
  staticTypes := #[(.object "com/example/actd/actd/model/Callback"), (.object "com/example/actd/actd/model/Callback"), (.object "com/example/actd/actd/model/Callback"), (.object "com/example/actd/actd/model/Callback"), (.object "com/example/actd/actd/model/Callback"), (.object "com/example/actd/actd/model/Callback"), (.object "com/example/actd/actd/model/Callback"), (.object "com/example/actd/actd/model/Callback"), (.object "java/util/List"), (.array (.object "com/example/actd/actd/model/Callback"))]
  resolved := Array.replicate 179 none
  statics := some 0 }

def pool7 : Array CpInfo := pool [(1, .class_ 2), (0, u "com/example/actd/actd/model/ActivityState"), (2, u "WAITING"), (0, u "Lcom/example/actd/actd/model/ActivityState;"), (2, u "RESUMED"), (2, u "PAUSING"), (2, u "PAUSED"), (2, u "STOPPED"), (2, u "DESTROYED"), (2, u "$VALUES"), (0, u "[Lcom/example/actd/actd/model/ActivityState;"), (6, .class_ 34), (1, u "java/lang/Enum")] 28

/-- com/example/actd/actd/model/ActivityState -/
def k7 : Class := { plain "com/example/actd/actd/model/ActivityState" (some 5) with
  accessFlags := 16433
  interfaces := #[]
  cf := some (fileOf pool7 1 #[] #[] 16433 32 #[] #[{ accessFlags := 16409, nameIndex := 5, descriptorIndex := 6, attributes := #[] }, { accessFlags := 16409, nameIndex := 9, descriptorIndex := 6, attributes := #[] }, { accessFlags := 16409, nameIndex := 12, descriptorIndex := 6, attributes := #[] }, { accessFlags := 16409, nameIndex := 15, descriptorIndex := 6, attributes := #[] }, { accessFlags := 16409, nameIndex := 18, descriptorIndex := 6, attributes := #[] }, { accessFlags := 16409, nameIndex := 21, descriptorIndex := 6, attributes := #[] }, { accessFlags := 4122, nameIndex := 24, descriptorIndex := 25, attributes := #[] }])
  fields := #[{ name := "WAITING", type := (.object "com/example/actd/actd/model/ActivityState"), accessFlags := 16409, slot := 0, constantValue := 0 }, { name := "RESUMED", type := (.object "com/example/actd/actd/model/ActivityState"), accessFlags := 16409, slot := 1, constantValue := 0 }, { name := "PAUSING", type := (.object "com/example/actd/actd/model/ActivityState"), accessFlags := 16409, slot := 2, constantValue := 0 }, { name := "PAUSED", type := (.object "com/example/actd/actd/model/ActivityState"), accessFlags := 16409, slot := 3, constantValue := 0 }, { name := "STOPPED", type := (.object "com/example/actd/actd/model/ActivityState"), accessFlags := 16409, slot := 4, constantValue := 0 }, { name := "DESTROYED", type := (.object "com/example/actd/actd/model/ActivityState"), accessFlags := 16409, slot := 5, constantValue := 0 }, { name := "$VALUES", type := (.array (.object "com/example/actd/actd/model/ActivityState")), accessFlags := 4122, slot := 6, constantValue := 0 }]
  methods := #[]
  instanceTypes := #[(.object "java/lang/String"), .int, .int]
  staticTypes := #[(.object "com/example/actd/actd/model/ActivityState"), (.object "com/example/actd/actd/model/ActivityState"), (.object "com/example/actd/actd/model/ActivityState"), (.object "com/example/actd/actd/model/ActivityState"), (.object "com/example/actd/actd/model/ActivityState"), (.object "com/example/actd/actd/model/ActivityState"), (.array (.object "com/example/actd/actd/model/ActivityState"))]
  resolved := Array.replicate 63 none
  statics := some 1 }

def pool8 : Array CpInfo := pool [(1, u "java/lang/Cloneable"), (0, .class_ 1), (0, u "java/lang/Object"), (0, .class_ 3)] 3

/-- java/lang/Cloneable -/
def k8 : Class := { plain "java/lang/Cloneable" (some 0) with
  accessFlags := 1537
  interfaces := #[]
  cf := some (fileOf pool8 2 #[] #[] 1537 4 #[] #[])
  fields := #[]
  methods := #[]
  instanceTypes := #[]
  staticTypes := #[]
  resolved := Array.replicate 8 none
  statics := none }

/-- the primitive byte -/
def k9 : Class := { plain "byte" none with kind := .primitive 'B', accessFlags := 0x411 }
/-- [B -/
def k10 : Class := { plain "[B" (some 0) with kind := .array 9 .byte, interfaces := #[8, 4], accessFlags := 1041 }

/-- the primitive int -/
def k11 : Class := { plain "int" none with kind := .primitive 'I', accessFlags := 0x411 }
/-- [I -/
def k12 : Class := { plain "[I" (some 0) with kind := .array 11 .int, interfaces := #[8, 4], accessFlags := 1041 }

def heap : Heap := #[{ cls := 6, slots := #[.ref 2, .ref 14, .ref 15, .ref 13, .ref 7, .ref 11, .ref 5, .ref 12, .null, .null], vm := .statics 6 },
  { cls := 7, slots := #[.ref 10, .ref 6, .ref 9, .ref 3, .ref 4, .ref 8, .null], vm := .statics 7 },
  { cls := 6, slots := #[.null, .int 0, .int 0, .null, .ref 4], vm := .none },
  { cls := 7, slots := #[.null, .int 0, .int 0], vm := .none },
  { cls := 7, slots := #[.null, .int 0, .int 0], vm := .none },
  { cls := 6, slots := #[.null, .int 0, .int 0, .null, .null], vm := .none },
  { cls := 7, slots := #[.null, .int 0, .int 0], vm := .none },
  { cls := 6, slots := #[.null, .int 0, .int 0, .null, .ref 4], vm := .none },
  { cls := 7, slots := #[.null, .int 0, .int 0], vm := .none },
  { cls := 7, slots := #[.null, .int 0, .int 0], vm := .none },
  { cls := 7, slots := #[.null, .int 0, .int 0], vm := .none },
  { cls := 6, slots := #[.null, .int 0, .int 0, .null, .ref 4], vm := .none },
  { cls := 6, slots := #[.null, .int 0, .int 0, .null, .ref 8], vm := .none },
  { cls := 6, slots := #[.null, .int 0, .int 0, .null, .ref 3], vm := .none },
  { cls := 6, slots := #[.null, .int 0, .int 0, .null, .ref 3], vm := .none },
  { cls := 6, slots := #[.null, .int 0, .int 0, .null, .ref 6], vm := .none }]
def classes : Array Class := #[k0, k1, k2, k3, k4, k5, k6, k7, k8, k9, k10, k11, k12]
def interned : List (Array UInt16 × Addr) := []
def slotsUsed : Nat := 75
def theMethod : MethodId := ⟨1, 4⟩
def args0 : Array Value := #[.int 5, .int 7]
def aboutOver (below : List Frame) : State where
  vm := { classes := classes, interned := interned.toArray }
  heap := heap
  slotsUsed := slotsUsed
  threads := #[{ frames := .invoking theMethod args0 :: below }]
def below0 : List Frame := [.native { method := ⟨0, 0⟩, args := #[] }]
def about1 : State := aboutOver below0
def p0 : Program := .bare "" "" ""
def e0 : Env := launch0.env 0 0 0
theorem w_frames : about1.frames = Frame.invoking theMethod args0 :: below0 := rfl
set_option maxRecDepth 65536 in
theorem w_args : argsFit about1.vm theMethod args0 = true := by decide +kernel
set_option maxRecDepth 65536 in
theorem w_heap : heapFits about1 = true := by decide +kernel
set_option maxRecDepth 65536 in
theorem w_runnable : about1.curStatus? = some .runnable := by decide +kernel
set_option maxRecDepth 65536 in
theorem w_alone : about1.alone = true := by decide +kernel
set_option maxRecDepth 65536 in
theorem w_named : about1.methodNamed? x = some theMethod := by decide +kernel
set_option maxRecDepth 65536 in
theorem w_hears : about1.hears theMethod below0 = true := by decide +kernel
set_option maxRecDepth 65536 in
theorem w_ripe : about1.ripe theMethod args0 below0 = true := by decide +kernel
theorem w_running : about1.status = .running := rfl
set_option maxRecDepth 65536 in
theorem w_room : about1.hasRoom e0.platform room_1 = true :=
  launch0.hasRoom_least _ room_1 (by decide +kernel) (by decide +kernel) (by decide +kernel) (by decide +kernel) (by decide +kernel) (by decide +kernel)
theorem allAtoms_all (ts : List Jvm.Cond) (a : Array Jvm.Value) (st : Jvm.State) : (allAtoms ts).before a st = ts.all (fun c => c.before a st) := by
  induction ts with
  | nil => rfl
  | cons c t ih =>
    show (Jvm.Cond.and c (allAtoms t)).before a st = _
    rw [Jvm.Cond.before_and, ih, List.all_cons]
def words1 : List Jvm.Cond := Jvm.Cond.code x code maxLocals ret :: tables_1
/-- a 'code' word, met by the world's own term for the bytes: nothing is compared byte by byte -/
theorem code_word {y : MethodName} {bytes : ByteArray} {mx : Nat} {rt : Option FieldType} {a : Array Value} {s : State} {m : MethodId} {meth : Method} {c : Code} (h1 : s.methodNamed? y = some m) (h2 : s.vm.method? m = some meth) (h3 : meth.code = some c) (h4 : c.code = bytes)
    (h5 : (c.maxLocals == mx && c.exceptionTable.isEmpty && decide (c.maxStack ≤ mostOperands) && decide (meth.sig.returnType = rt) && !meth.locks && decide (parseMethodDescriptor y.desc = some meth.sig)) = true) : (Jvm.Cond.code y bytes mx rt).before a s = true := by
  simp only [Bool.and_eq_true, beq_iff_eq, Bool.not_eq_true', decide_eq_true_eq] at h5
  obtain ⟨⟨⟨⟨⟨g1, g2⟩, g3⟩, g4⟩, g5⟩, g6⟩ := h5
  simp [Cond.before, Cond.holds, Cond.value, h1, h2, h3, h4, g1, g2, g3, g4, g5, g6]
def isCode : Jvm.Cond → Bool
  | .code _ _ _ _ => true
  | _ => false
theorem all_split {L : List Jvm.Cond} {P : Jvm.Cond → Bool} (h1 : L.all (fun c => isCode c || P c) = true) (h2 : ∀ c ∈ L.filter isCode, P c = true) : L.all P = true := by
  refine List.all_eq_true.mpr fun c hc => ?_
  have h := List.all_eq_true.mp h1 c hc
  rcases Bool.eq_false_or_eq_true (isCode c) with hi | hi
  · exact h2 c (List.mem_filter.mpr ⟨hc, hi⟩)
  · simpa [hi] using h
set_option maxRecDepth 65536 in
theorem w_c0 : (Jvm.Cond.code x code maxLocals ret).before args0 about1 = true := code_word (m := ⟨1, 4⟩) (meth := k1m4) (c := k1c4) (by decide +kernel) rfl rfl rfl (by decide +kernel)
set_option maxRecDepth 65536 in
theorem w_c1 : (Jvm.Cond.code ({ cls := "com/example/actd/actd/model/CallbackStateAfterPinLaw", name := "callback", desc := "(I)Lcom/example/actd/actd/model/Callback;" } : Jvm.MethodName) method_2_code (1 : Nat) (Option.some (Jvm.ClassFile.FieldType.object "com/example/actd/actd/model/Callback"))).before args0 about1 = true := code_word (m := ⟨1, 1⟩) (meth := k1m1) (c := k1c1) (by decide +kernel) rfl rfl rfl (by decide +kernel)
set_option maxRecDepth 65536 in
theorem w_c2 : (Jvm.Cond.code ({ cls := "com/example/actd/actd/model/CallbackStateAfterPinLaw", name := "state", desc := "(I)Lcom/example/actd/actd/model/ActivityState;" } : Jvm.MethodName) method_3_code (1 : Nat) (Option.some (Jvm.ClassFile.FieldType.object "com/example/actd/actd/model/ActivityState"))).before args0 about1 = true := code_word (m := ⟨1, 2⟩) (meth := k1m2) (c := k1c2) (by decide +kernel) rfl rfl rfl (by decide +kernel)
set_option maxRecDepth 65536 in
theorem w_c3 : (Jvm.Cond.code ({ cls := "com/example/actd/actd/model/Callback", name := "stateAfter", desc := "(Lcom/example/actd/actd/model/ActivityState;)Lcom/example/actd/actd/model/ActivityState;" } : Jvm.MethodName) prog_22_method_6_code (2 : Nat) (Option.some (Jvm.ClassFile.FieldType.object "com/example/actd/actd/model/ActivityState"))).before args0 about1 = true := code_word (m := ⟨6, 0⟩) (meth := k6m0) (c := k6c0) (by decide +kernel) rfl rfl rfl (by decide +kernel)
set_option maxRecDepth 65536 in
theorem w_c4 : (Jvm.Cond.code ({ cls := "com/example/actd/actd/model/CallbackStateAfterPinLaw", name := "expected", desc := "(ILcom/example/actd/actd/model/ActivityState;)Lcom/example/actd/actd/model/ActivityState;" } : Jvm.MethodName) method_4_code (2 : Nat) (Option.some (Jvm.ClassFile.FieldType.object "com/example/actd/actd/model/ActivityState"))).before args0 about1 = true := code_word (m := ⟨1, 3⟩) (meth := k1m3) (c := k1c3) (by decide +kernel) rfl rfl rfl (by decide +kernel)
def codes1 : List Jvm.Cond := [Jvm.Cond.code x code maxLocals ret, Jvm.Cond.code ({ cls := "com/example/actd/actd/model/CallbackStateAfterPinLaw", name := "callback", desc := "(I)Lcom/example/actd/actd/model/Callback;" } : Jvm.MethodName) method_2_code (1 : Nat) (Option.some (Jvm.ClassFile.FieldType.object "com/example/actd/actd/model/Callback")), Jvm.Cond.code ({ cls := "com/example/actd/actd/model/CallbackStateAfterPinLaw", name := "state", desc := "(I)Lcom/example/actd/actd/model/ActivityState;" } : Jvm.MethodName) method_3_code (1 : Nat) (Option.some (Jvm.ClassFile.FieldType.object "com/example/actd/actd/model/ActivityState")), Jvm.Cond.code ({ cls := "com/example/actd/actd/model/Callback", name := "stateAfter", desc := "(Lcom/example/actd/actd/model/ActivityState;)Lcom/example/actd/actd/model/ActivityState;" } : Jvm.MethodName) prog_22_method_6_code (2 : Nat) (Option.some (Jvm.ClassFile.FieldType.object "com/example/actd/actd/model/ActivityState")), Jvm.Cond.code ({ cls := "com/example/actd/actd/model/CallbackStateAfterPinLaw", name := "expected", desc := "(ILcom/example/actd/actd/model/ActivityState;)Lcom/example/actd/actd/model/ActivityState;" } : Jvm.MethodName) method_4_code (2 : Nat) (Option.some (Jvm.ClassFile.FieldType.object "com/example/actd/actd/model/ActivityState"))]
set_option maxRecDepth 65536 in
theorem codes_eq : words1.filter isCode = codes1 := rfl
theorem w_codes : ∀ c ∈ words1.filter isCode, c.before args0 about1 = true := by
  rw [codes_eq]
  intro c hc
  simp only [codes1, List.mem_cons, List.not_mem_nil, or_false] at hc
  rcases hc with rfl | rfl | rfl | rfl | rfl
  · exact w_c0
  · exact w_c1
  · exact w_c2
  · exact w_c3
  · exact w_c4
set_option maxRecDepth 65536 in
theorem w_t1 : (words1.take 24).all (fun c => isCode c || c.before args0 about1) = true := by decide +kernel
set_option maxRecDepth 65536 in
theorem w_t2 : ((words1.drop 24).take 24).all (fun c => isCode c || c.before args0 about1) = true := by decide +kernel
set_option maxRecDepth 65536 in
theorem w_t3 : ((words1.drop 24).drop 24).all (fun c => isCode c || c.before args0 about1) = true := by decide +kernel
theorem w_tables : (allAtoms (Jvm.Cond.code x code maxLocals ret :: tables_1)).before args0 about1 = true := by
  rw [allAtoms_all]
  show words1.all (fun c => c.before args0 about1) = true
  refine all_split ?_ w_codes
  rw [← List.take_append_drop 24 words1, List.all_append, w_t1, ← List.take_append_drop 24 (words1.drop 24), List.all_append, w_t2, w_t3]
  rfl
set_option maxRecDepth 65536 in
theorem w_case : (Jvm.Cond.and given_1 narrow_1).before args0 about1 = true := by decide +kernel
theorem w_applies : (headSpec (Jvm.Cond.code x code maxLocals ret :: tables_1) room_1).applies x e0.platform about1 = true :=
  (Spec.applies_iff w_frames).mpr ⟨w_running, w_runnable, w_alone, w_named, w_hears, w_ripe, w_room, w_tables⟩
theorem atStart : AtStart classFile x code maxLocals ret World_1 tables_1 room_1 Calls_1 rest_1 Pre_1 launch0 p0 e0 about1 theMethod args0 below0 :=
  ⟨lists_1, trivial, launch0.admits_env _ _ _, launch0.least_env, fairChoices_fair.cas, fairChoices_fair.clock, w_frames, w_args, w_heap, w_applies, trivial, trivial, w_case⟩
end start1
theorem witness_1 : WitnessClaimed_1 := ⟨start1.p0, start1.e0, start1.about1, start1.theMethod, start1.args0, start1.below0, start1.atStart⟩
end Jvm.Pilot.@@N@@
