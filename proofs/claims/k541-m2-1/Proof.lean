import JvmDerived
import JvmDerived.Pilot.@@N@@Statement
import JvmDerived.Pilot.@@N@@Code
set_option linter.unusedVariables false
set_option linter.unusedSimpArgs false
namespace Jvm.RoadKit
open Sem ClassFile Op Lib Jvm.Stand Jvm.Free Jvm.LawKit
section New
variable {p : Program} {l : Launch} {e : Env} {R : Room} {s : State} {m : MethodId} {args : Array Value} {below : List Frame} {meth : Method} {c : Code} {T : State} {locs : List Loc} {cells slots : Nat}
theorem retI (X : Stand p l e R s m args below meth c T locs cells slots) (hx : p.tables.exec = Jvm.exec) {pc : Nat} {Ls : Array Slot} {z : Int32} {rest : List Value} (hret : meth.sig.returnType = some .int) (hd : decode c.code pc = .ok (.ireturn, 1)) {fs : List Frame}
    (hl : ∀ (f : JFrame) (acts : List Action), f.method = m → f.locked = none → f.entered = [] → (doReturn e (T.setTop f) acts (some (.int z))).1 = T.setFrames fs) : Steps p.tables e below (T.setTop (mkF m pc Ls (.int z :: rest))) (T.setFrames fs) := by
  have hm' : T.vm.method? m = some meth := X.method'
  have hn : narrow .int (.int z) = .int z := rfl
  show Steps p.tables e below (T.setTop { method := m, pc := pc, locals := Ls, stack := _ :: rest, locked := none }) _
  jvm_step X.here [X.here.top, hx, hd, hm', hret, hn]
  first | (intro acts; rw [hl _ acts rfl rfl rfl]) | rw [hl _ _ rfl rfl rfl]
  exact Steps.refl _
end New
end Jvm.RoadKit
@@BLOCK:Masks.lean.txt@@
namespace Jvm.Pilot.@@N@@
open Jvm Jvm.ClassFile Sem Op Lib Jvm.Free Jvm.Stand Jvm.LawKit Jvm.RoadKit Bundle Jvm.Pilot.@@N@@.Jvm.D
theorem own_eqI {args : Array Value} {first s : State} {o : Option Outcome} {idx : List Nat} {a : Term} {k : Int32} (h : (Jvm.Cond.eq a (Term.int k)).value args first o s idx = some true) : a.eval args first o idx s = some (.int k) := by
  simp only [Cond.value, Term.eval] at h
  cases ha : a.eval args first o idx s with
  | none => simp [ha] at h
  | some x => cases x <;> simp [ha] at h ⊢; exact h
theorem own_eqR {args : Array Value} {first s : State} {o : Option Outcome} {idx : List Nat} {a b : Term} {y : Addr} (h : (Jvm.Cond.eq a b).value args first o s idx = some true) (hb : b.eval args first o idx s = some (.ref y)) : a.eval args first o idx s = some (.ref y) := by
  simp only [Cond.value, hb] at h
  cases ha : a.eval args first o idx s with
  | none => simp [ha] at h
  | some x => cases x <;> simp [ha] at h ⊢; exact h
theorem own_elemI {args : Array Value} {s : State} {t : Term} {a : Addr} {cell : Cell} {i : Int32} {v : Value} (ht : t.eval args s none [] s = some (.ref a)) (hAt : s.arrayAt? a = some cell) (h : (Term.elem t (.int i)).eval args s none [] s = some v) : cell.slots[i.toNatClampNeg]? = some v := by
  obtain ⟨a', j', cell', ht', hi', hAt', hin, hslot⟩ := Term.elem_spec h
  cases ht.symm.trans ht'
  cases hAt.symm.trans hAt'
  have q : (Term.int i).eval args s none [] s = some (.int i) := rfl
  cases q.symm.trans hi'
  exact hslot
theorem own_fld {args : Array Value} {s : State} {t : Term} {C n d : String} {x : Addr} {v : Value} (ht : t.eval args s none [] s = some (.ref x)) (h : (Term.field t C n d).eval args s none [] s = some v) : Fld s s.heap x C n d v := Fld.start ((fld_at ht).symm.trans h)
def QV (r : Value) (h0 : Heap) (n0 : Nat) (v : Option Value) (h : Heap) (L : List Loc) : Prop := v = some r ∧ Fr n0 L ∧ h = h0
theorem own_i32_in (q : Int32) (k : Int32) (h : q.toInt = k.toInt) : q = k := Int32.toInt_inj.mp h
theorem own_mod9 (p : Int32) : ((p &&& (2147483647 : Int32)) % (9 : Int32)) = 0 ∨ ((p &&& (2147483647 : Int32)) % (9 : Int32)) = 1 ∨ ((p &&& (2147483647 : Int32)) % (9 : Int32)) = 2 ∨ ((p &&& (2147483647 : Int32)) % (9 : Int32)) = 3 ∨ ((p &&& (2147483647 : Int32)) % (9 : Int32)) = 4 ∨ ((p &&& (2147483647 : Int32)) % (9 : Int32)) = 5 ∨ ((p &&& (2147483647 : Int32)) % (9 : Int32)) = 6 ∨ ((p &&& (2147483647 : Int32)) % (9 : Int32)) = 7 ∨ ((p &&& (2147483647 : Int32)) % (9 : Int32)) = 8 := by
  have h := (Jvm.Kit.i32_and_bounds p (m := 2147483647) (by decide)).1
  generalize p &&& (2147483647 : Int32) = u at h ⊢
  rw [Int32.le_iff_toInt_le] at h
  have h1 : (0 : Int) ≤ u.toInt := h
  have hm : (u % (9 : Int32)).toInt = u.toInt.tmod 9 := Int32.toInt_mod u 9
  have h2 : (u % (9 : Int32)).toInt = u.toInt % 9 := hm.trans (Int.tmod_eq_emod_of_nonneg h1)
  generalize u % (9 : Int32) = q at h2 ⊢
  have e : q.toInt = 0 ∨ q.toInt = 1 ∨ q.toInt = 2 ∨ q.toInt = 3 ∨ q.toInt = 4 ∨ q.toInt = 5 ∨ q.toInt = 6 ∨ q.toInt = 7 ∨ q.toInt = 8 := by omega
  rcases e with e | e | e | e | e | e | e | e | e
  · exact Or.inl (own_i32_in q 0 e)
  · exact Or.inr (Or.inl (own_i32_in q 1 e))
  · exact Or.inr (Or.inr (Or.inl (own_i32_in q 2 e)))
  · exact Or.inr (Or.inr (Or.inr (Or.inl (own_i32_in q 3 e))))
  · exact Or.inr (Or.inr (Or.inr (Or.inr (Or.inl (own_i32_in q 4 e)))))
  · exact Or.inr (Or.inr (Or.inr (Or.inr (Or.inr (Or.inl (own_i32_in q 5 e))))))
  · exact Or.inr (Or.inr (Or.inr (Or.inr (Or.inr (Or.inr (Or.inl (own_i32_in q 6 e)))))))
  · exact Or.inr (Or.inr (Or.inr (Or.inr (Or.inr (Or.inr (Or.inr (Or.inl (own_i32_in q 7 e))))))))
  · exact Or.inr (Or.inr (Or.inr (Or.inr (Or.inr (Or.inr (Or.inr (Or.inr (own_i32_in q 8 e))))))))
def own_pick (p : Int32) (w0 w1 w2 w3 w4 w5 w6 w7 w8 : Addr) : Addr := if p = 0 then w0 else if p = 1 then w1 else if p = 2 then w2 else if p = 3 then w3 else if p = 4 then w4 else if p = 5 then w5 else if p = 6 then w6 else if p = 7 then w7 else w8
def own_is (a b : Addr) : Int32 := if a = b then 1 else 0
def own_exp (t w6 w7 : Addr) : Int32 := if t = w6 then 1 else if t = w7 then 1 else 0
theorem d1_0 : decode method_2_code 0 = .ok (.iload_n 0, 1) := by decide +kernel
theorem d1_1 : decode method_2_code 1 = .ok (.ifCond .ne 7, 3) := by decide +kernel
theorem d1_4 : decode method_2_code 4 = .ok (.getstatic 7, 3) := by decide +kernel
theorem d1_7 : decode method_2_code 7 = .ok (.areturn, 1) := by decide +kernel
theorem d1_8 : decode method_2_code 8 = .ok (.iload_n 0, 1) := by decide +kernel
theorem d1_9 : decode method_2_code 9 = .ok (.iconst 1, 1) := by decide +kernel
theorem d1_10 : decode method_2_code 10 = .ok (.if_icmp .ne 7, 3) := by decide +kernel
theorem d1_13 : decode method_2_code 13 = .ok (.getstatic 13, 3) := by decide +kernel
theorem d1_16 : decode method_2_code 16 = .ok (.areturn, 1) := by decide +kernel
theorem d1_17 : decode method_2_code 17 = .ok (.iload_n 0, 1) := by decide +kernel
theorem d1_18 : decode method_2_code 18 = .ok (.iconst 2, 1) := by decide +kernel
theorem d1_19 : decode method_2_code 19 = .ok (.if_icmp .ne 7, 3) := by decide +kernel
theorem d1_22 : decode method_2_code 22 = .ok (.getstatic 16, 3) := by decide +kernel
theorem d1_25 : decode method_2_code 25 = .ok (.areturn, 1) := by decide +kernel
theorem d1_26 : decode method_2_code 26 = .ok (.iload_n 0, 1) := by decide +kernel
theorem d1_27 : decode method_2_code 27 = .ok (.iconst 3, 1) := by decide +kernel
theorem d1_28 : decode method_2_code 28 = .ok (.if_icmp .ne 7, 3) := by decide +kernel
theorem d1_31 : decode method_2_code 31 = .ok (.getstatic 19, 3) := by decide +kernel
theorem d1_34 : decode method_2_code 34 = .ok (.areturn, 1) := by decide +kernel
theorem d1_35 : decode method_2_code 35 = .ok (.iload_n 0, 1) := by decide +kernel
theorem d1_36 : decode method_2_code 36 = .ok (.iconst 4, 1) := by decide +kernel
theorem d1_37 : decode method_2_code 37 = .ok (.if_icmp .ne 7, 3) := by decide +kernel
theorem d1_40 : decode method_2_code 40 = .ok (.getstatic 22, 3) := by decide +kernel
theorem d1_43 : decode method_2_code 43 = .ok (.areturn, 1) := by decide +kernel
theorem d1_44 : decode method_2_code 44 = .ok (.iload_n 0, 1) := by decide +kernel
theorem d1_45 : decode method_2_code 45 = .ok (.iconst 5, 1) := by decide +kernel
theorem d1_46 : decode method_2_code 46 = .ok (.if_icmp .ne 7, 3) := by decide +kernel
theorem d1_49 : decode method_2_code 49 = .ok (.getstatic 25, 3) := by decide +kernel
theorem d1_52 : decode method_2_code 52 = .ok (.areturn, 1) := by decide +kernel
theorem d1_53 : decode method_2_code 53 = .ok (.iload_n 0, 1) := by decide +kernel
theorem d1_54 : decode method_2_code 54 = .ok (.bipush 6, 2) := by decide +kernel
theorem d1_56 : decode method_2_code 56 = .ok (.if_icmp .ne 7, 3) := by decide +kernel
theorem d1_59 : decode method_2_code 59 = .ok (.getstatic 28, 3) := by decide +kernel
theorem d1_62 : decode method_2_code 62 = .ok (.areturn, 1) := by decide +kernel
theorem d1_63 : decode method_2_code 63 = .ok (.iload_n 0, 1) := by decide +kernel
theorem d1_64 : decode method_2_code 64 = .ok (.bipush 7, 2) := by decide +kernel
theorem d1_66 : decode method_2_code 66 = .ok (.if_icmp .ne 7, 3) := by decide +kernel
theorem d1_69 : decode method_2_code 69 = .ok (.getstatic 31, 3) := by decide +kernel
theorem d1_72 : decode method_2_code 72 = .ok (.areturn, 1) := by decide +kernel
theorem d1_73 : decode method_2_code 73 = .ok (.getstatic 34, 3) := by decide +kernel
theorem d1_76 : decode method_2_code 76 = .ok (.areturn, 1) := by decide +kernel
theorem pn_0 : plainName "com/example/vallet/vallet/TransactionTypeIsReversalPinLaw" = true := by first | (simp [plainName, overriddenIn]; done) | decide +kernel
theorem ef_1 (m : MethodId) (x0 : Int32) : entryFrame m #[(.int x0)] 1 = mkF m 0 #[.val (.int x0)] [] := by first | (simp [entryFrame, mkF, argsToLocals, Value.category]; done) | rfl
set_option maxRecDepth 65536 in
set_option maxHeartbeats 40000000 in
theorem rm1 (l : Launch) (Z : State) (a0 : Array Value) (hw : ∀ d ∈ tables_1, d.before a0 Z = true) (ws : List Jvm.Cond) (p1 : Int32) (w0 w1 w2 w3 w4 w5 w6 w7 w8 r : Addr) (h0 : Heap) (n0 : Nat) (Z0 : n0 ≤ h0.size) (S0 : Sta Z h0 "com/example/vallet/vallet/TransactionType" "BILLPAY" "Lcom/example/vallet/vallet/TransactionType;" (.ref w0)) (S1 : Sta Z h0 "com/example/vallet/vallet/TransactionType" "DEPOSIT" "Lcom/example/vallet/vallet/TransactionType;" (.ref w1)) (S2 : Sta Z h0 "com/example/vallet/vallet/TransactionType" "DISBURSEMENT" "Lcom/example/vallet/vallet/TransactionType;" (.ref w2)) (S3 : Sta Z h0 "com/example/vallet/vallet/TransactionType" "TRANSFER" "Lcom/example/vallet/vallet/TransactionType;" (.ref w3)) (S4 : Sta Z h0 "com/example/vallet/vallet/TransactionType" "MERCHANTPAY" "Lcom/example/vallet/vallet/TransactionType;" (.ref w4)) (S5 : Sta Z h0 "com/example/vallet/vallet/TransactionType" "INTTRANSFER" "Lcom/example/vallet/vallet/TransactionType;" (.ref w5)) (S6 : Sta Z h0 "com/example/vallet/vallet/TransactionType" "ADJUSTMENT" "Lcom/example/vallet/vallet/TransactionType;" (.ref w6)) (S7 : Sta Z h0 "com/example/vallet/vallet/TransactionType" "REVERSAL" "Lcom/example/vallet/vallet/TransactionType;" (.ref w7)) (S8 : Sta Z h0 "com/example/vallet/vallet/TransactionType" "WITHDRAWAL" "Lcom/example/vallet/vallet/TransactionType;" (.ref w8)) (hpk : own_pick p1 w0 w1 w2 w3 w4 w5 w6 w7 w8 = r) :
    MetFree l (⟨"com/example/vallet/vallet/TransactionTypeIsReversalPinLaw", "pick", "(I)Lcom/example/vallet/vallet/TransactionType;"⟩ : MethodName) (head1 (Jvm.Cond.code (⟨"com/example/vallet/vallet/TransactionTypeIsReversalPinLaw", "pick", "(I)Lcom/example/vallet/vallet/TransactionType;"⟩ : MethodName) method_2_code 1 (some (.object "com/example/vallet/vallet/TransactionType")) :: ws) ({ frames := 0, cells := 0, slots := 0, locals := 0 } : Room)) (fun a U => a = #[(.int p1)] ∧ Z.Warmed39 U.vm ∧ U.heap = h0) (fun _ _ _ _ _ => True) (fun _ U o U' => ∃ v L, o = .returned v ∧ (QV (.ref r) h0 n0 v U'.heap L) ∧ FrameEnd U o U' L ({ frames := 0, cells := 0, slots := 0, locals := 0 } : Room).cells ({ frames := 0, cells := 0, slots := 0, locals := 0 } : Room).slots) := by
  refine MetFree.of_bodySF (plainFor_of_name pn_0) hisR ?_
  intro p e s m args below meth c s₁ Bd hml0 hP hK
  obtain ⟨rfl, hZ, hh⟩ := hP
  have hx := Bd.exec
  have hby := Bd.bytes
  have hml : c.maxLocals = 1 := hml0
  have hown : s.vm.findClass "com/example/vallet/vallet/TransactionTypeIsReversalPinLaw" = some m.cls := findClass_of_methodNamed Bd.named
  have hnm := (name_of_methodNamed Bd.named Bd.method).1
  have X0 : Stand p l e ({ frames := 0, cells := 0, slots := 0, locals := 0 } : Room) s m #[(.int p1)] below meth c s₁ [] 0 0 := Stand.of_body Bd
  have e0 : s₁.heap = h0 := by rw [← hh, Bd.state]; rfl
  have N0 := Fr.nil n0
  have pre0 : ∀ t, Steps p.tables e below (s₁.setTop (mkF m 0 #[.val (.int p1)] [])) t → Steps p.tables e below (s₁.setTop (entryFrame m #[(.int p1)] 1)) t := fun t k => castTop (ef_1 m p1) k
  have pre1 : ∀ t, Steps p.tables e below (s₁.setTop (mkF m 1 #[.val (.int p1)] [(.int p1)])) t → Steps p.tables e below (s₁.setTop (entryFrame m #[(.int p1)] 1)) t := fun t k => pre0 t (by
      show Steps p.tables e below (s₁.setTop (mkF m 0 #[.val (.int p1)] [])) _
      refine XS.iloadN X0.here hx rfl (hb hby d1_0) rfl ?_
      exact k)
  by_cases hc1_2 : p1 = (0 : Int32)
  · obtain ⟨T3, X3, e3, st3⟩ := getS2 X0 hx hZ hown (host := "") (Or.inl (hw _ (List.mem_of_getElem? (i := 5) rfl))) Via.refl e0 S0 (g := (mkF m 4 #[.val (.int p1)] [])) rfl (hb hby d1_4)
    obtain ⟨fs, hr, hrun, hended, hW, hsame⟩ := X3.leave (v := some (.ref w0)) (fun h => by rw [Bd.returns] at h; cases h)
    refine ⟨_, _, pre1 _ ?_, hrun, hended, _, _, rfl, ?_, ⟨_, rfl⟩, hW, hsame.mono (by decide) (by decide)⟩
    · show Steps p.tables e below (s₁.setTop (mkF m 1 #[.val (.int p1)] [(.int p1)])) _
      refine XS.ifNo X0.here hx rfl (hb hby d1_1) rfl ((if0 _ _).trans (teq hc1_2).2) ?_
      show Steps p.tables e below (s₁.setTop (mkF m 4 #[.val (.int p1)] [])) _
      refine st3 _ ?_
      show Steps p.tables e below (T3.setTop (mkF m 7 #[.val (.int p1)] [(.ref w0)])) _
      jvm_step X3.here [X3.here.top, hx, (hb hby d1_7), X3.method', Bd.returns, Value.isRef, FieldType.isReference]
      first | (intro acts; rw [hr _ acts rfl rfl rfl]) | rw [hr _ _ rfl rfl rfl]
      exact Steps.refl _
    · show QV (.ref r) h0 n0 _ T3.heap _
      rw [e3]
      exact ⟨by rw [← hpk]; rw [own_pick, if_pos hc1_2], N0, rfl⟩
  · have pre4 : ∀ t, Steps p.tables e below (s₁.setTop (mkF m 10 #[.val (.int p1)] [(.int (1 : Int32)), (.int p1)])) t → Steps p.tables e below (s₁.setTop (entryFrame m #[(.int p1)] 1)) t := fun t k => pre1 t (by
        show Steps p.tables e below (s₁.setTop (mkF m 1 #[.val (.int p1)] [(.int p1)])) _
        refine XS.ifYes X0.here hx rfl (pc0 := 1) (pc' := 8) rfl (hb hby d1_1) rfl ((if0 _ _).trans (feq hc1_2).2) (by decide) (by decide) ?_
        show Steps p.tables e below (s₁.setTop (mkF m 8 #[.val (.int p1)] [])) _
        refine XS.iloadN X0.here hx rfl (hb hby d1_8) rfl ?_
        show Steps p.tables e below (s₁.setTop (mkF m 9 #[.val (.int p1)] [(.int p1)])) _
        refine XS.iconst X0.here hx rfl (hb hby d1_9) ?_
        exact k)
    by_cases hc10_5 : p1 = (1 : Int32)
    · obtain ⟨T6, X6, e6, st6⟩ := getS2 X0 hx hZ hown (host := "") (Or.inl (hw _ (List.mem_of_getElem? (i := 27) rfl))) Via.refl e0 S1 (g := (mkF m 13 #[.val (.int p1)] [])) rfl (hb hby d1_13)
      obtain ⟨fs, hr, hrun, hended, hW, hsame⟩ := X6.leave (v := some (.ref w1)) (fun h => by rw [Bd.returns] at h; cases h)
      refine ⟨_, _, pre4 _ ?_, hrun, hended, _, _, rfl, ?_, ⟨_, rfl⟩, hW, hsame.mono (by decide) (by decide)⟩
      · show Steps p.tables e below (s₁.setTop (mkF m 10 #[.val (.int p1)] [(.int (1 : Int32)), (.int p1)])) _
        refine XS.icmpNo X0.here hx rfl (hb hby d1_10) rfl (teq hc10_5).2 ?_
        show Steps p.tables e below (s₁.setTop (mkF m 13 #[.val (.int p1)] [])) _
        refine st6 _ ?_
        show Steps p.tables e below (T6.setTop (mkF m 16 #[.val (.int p1)] [(.ref w1)])) _
        jvm_step X6.here [X6.here.top, hx, (hb hby d1_16), X6.method', Bd.returns, Value.isRef, FieldType.isReference]
        first | (intro acts; rw [hr _ acts rfl rfl rfl]) | rw [hr _ _ rfl rfl rfl]
        exact Steps.refl _
      · show QV (.ref r) h0 n0 _ T6.heap _
        rw [e6]
        exact ⟨by rw [← hpk]; rw [own_pick, if_neg hc1_2, if_pos hc10_5], N0, rfl⟩
    · have pre7 : ∀ t, Steps p.tables e below (s₁.setTop (mkF m 19 #[.val (.int p1)] [(.int (2 : Int32)), (.int p1)])) t → Steps p.tables e below (s₁.setTop (entryFrame m #[(.int p1)] 1)) t := fun t k => pre4 t (by
          show Steps p.tables e below (s₁.setTop (mkF m 10 #[.val (.int p1)] [(.int (1 : Int32)), (.int p1)])) _
          refine XS.icmpYes X0.here hx rfl (pc0 := 10) (pc' := 17) rfl (hb hby d1_10) rfl (feq hc10_5).2 (by decide) (by decide) ?_
          show Steps p.tables e below (s₁.setTop (mkF m 17 #[.val (.int p1)] [])) _
          refine XS.iloadN X0.here hx rfl (hb hby d1_17) rfl ?_
          show Steps p.tables e below (s₁.setTop (mkF m 18 #[.val (.int p1)] [(.int p1)])) _
          refine XS.iconst X0.here hx rfl (hb hby d1_18) ?_
          exact k)
      by_cases hc19_8 : p1 = (2 : Int32)
      · obtain ⟨T9, X9, e9, st9⟩ := getS2 X0 hx hZ hown (host := "") (Or.inl (hw _ (List.mem_of_getElem? (i := 25) rfl))) Via.refl e0 S2 (g := (mkF m 22 #[.val (.int p1)] [])) rfl (hb hby d1_22)
        obtain ⟨fs, hr, hrun, hended, hW, hsame⟩ := X9.leave (v := some (.ref w2)) (fun h => by rw [Bd.returns] at h; cases h)
        refine ⟨_, _, pre7 _ ?_, hrun, hended, _, _, rfl, ?_, ⟨_, rfl⟩, hW, hsame.mono (by decide) (by decide)⟩
        · show Steps p.tables e below (s₁.setTop (mkF m 19 #[.val (.int p1)] [(.int (2 : Int32)), (.int p1)])) _
          refine XS.icmpNo X0.here hx rfl (hb hby d1_19) rfl (teq hc19_8).2 ?_
          show Steps p.tables e below (s₁.setTop (mkF m 22 #[.val (.int p1)] [])) _
          refine st9 _ ?_
          show Steps p.tables e below (T9.setTop (mkF m 25 #[.val (.int p1)] [(.ref w2)])) _
          jvm_step X9.here [X9.here.top, hx, (hb hby d1_25), X9.method', Bd.returns, Value.isRef, FieldType.isReference]
          first | (intro acts; rw [hr _ acts rfl rfl rfl]) | rw [hr _ _ rfl rfl rfl]
          exact Steps.refl _
        · show QV (.ref r) h0 n0 _ T9.heap _
          rw [e9]
          exact ⟨by rw [← hpk]; rw [own_pick, if_neg hc1_2, if_neg hc10_5, if_pos hc19_8], N0, rfl⟩
      · have pre10 : ∀ t, Steps p.tables e below (s₁.setTop (mkF m 28 #[.val (.int p1)] [(.int (3 : Int32)), (.int p1)])) t → Steps p.tables e below (s₁.setTop (entryFrame m #[(.int p1)] 1)) t := fun t k => pre7 t (by
            show Steps p.tables e below (s₁.setTop (mkF m 19 #[.val (.int p1)] [(.int (2 : Int32)), (.int p1)])) _
            refine XS.icmpYes X0.here hx rfl (pc0 := 19) (pc' := 26) rfl (hb hby d1_19) rfl (feq hc19_8).2 (by decide) (by decide) ?_
            show Steps p.tables e below (s₁.setTop (mkF m 26 #[.val (.int p1)] [])) _
            refine XS.iloadN X0.here hx rfl (hb hby d1_26) rfl ?_
            show Steps p.tables e below (s₁.setTop (mkF m 27 #[.val (.int p1)] [(.int p1)])) _
            refine XS.iconst X0.here hx rfl (hb hby d1_27) ?_
            exact k)
        by_cases hc28_11 : p1 = (3 : Int32)
        · obtain ⟨T12, X12, e12, st12⟩ := getS2 X0 hx hZ hown (host := "") (Or.inl (hw _ (List.mem_of_getElem? (i := 23) rfl))) Via.refl e0 S3 (g := (mkF m 31 #[.val (.int p1)] [])) rfl (hb hby d1_31)
          obtain ⟨fs, hr, hrun, hended, hW, hsame⟩ := X12.leave (v := some (.ref w3)) (fun h => by rw [Bd.returns] at h; cases h)
          refine ⟨_, _, pre10 _ ?_, hrun, hended, _, _, rfl, ?_, ⟨_, rfl⟩, hW, hsame.mono (by decide) (by decide)⟩
          · show Steps p.tables e below (s₁.setTop (mkF m 28 #[.val (.int p1)] [(.int (3 : Int32)), (.int p1)])) _
            refine XS.icmpNo X0.here hx rfl (hb hby d1_28) rfl (teq hc28_11).2 ?_
            show Steps p.tables e below (s₁.setTop (mkF m 31 #[.val (.int p1)] [])) _
            refine st12 _ ?_
            show Steps p.tables e below (T12.setTop (mkF m 34 #[.val (.int p1)] [(.ref w3)])) _
            jvm_step X12.here [X12.here.top, hx, (hb hby d1_34), X12.method', Bd.returns, Value.isRef, FieldType.isReference]
            first | (intro acts; rw [hr _ acts rfl rfl rfl]) | rw [hr _ _ rfl rfl rfl]
            exact Steps.refl _
          · show QV (.ref r) h0 n0 _ T12.heap _
            rw [e12]
            exact ⟨by rw [← hpk]; rw [own_pick, if_neg hc1_2, if_neg hc10_5, if_neg hc19_8, if_pos hc28_11], N0, rfl⟩
        · have pre13 : ∀ t, Steps p.tables e below (s₁.setTop (mkF m 37 #[.val (.int p1)] [(.int (4 : Int32)), (.int p1)])) t → Steps p.tables e below (s₁.setTop (entryFrame m #[(.int p1)] 1)) t := fun t k => pre10 t (by
              show Steps p.tables e below (s₁.setTop (mkF m 28 #[.val (.int p1)] [(.int (3 : Int32)), (.int p1)])) _
              refine XS.icmpYes X0.here hx rfl (pc0 := 28) (pc' := 35) rfl (hb hby d1_28) rfl (feq hc28_11).2 (by decide) (by decide) ?_
              show Steps p.tables e below (s₁.setTop (mkF m 35 #[.val (.int p1)] [])) _
              refine XS.iloadN X0.here hx rfl (hb hby d1_35) rfl ?_
              show Steps p.tables e below (s₁.setTop (mkF m 36 #[.val (.int p1)] [(.int p1)])) _
              refine XS.iconst X0.here hx rfl (hb hby d1_36) ?_
              exact k)
          by_cases hc37_14 : p1 = (4 : Int32)
          · obtain ⟨T15, X15, e15, st15⟩ := getS2 X0 hx hZ hown (host := "") (Or.inl (hw _ (List.mem_of_getElem? (i := 35) rfl))) Via.refl e0 S4 (g := (mkF m 40 #[.val (.int p1)] [])) rfl (hb hby d1_40)
            obtain ⟨fs, hr, hrun, hended, hW, hsame⟩ := X15.leave (v := some (.ref w4)) (fun h => by rw [Bd.returns] at h; cases h)
            refine ⟨_, _, pre13 _ ?_, hrun, hended, _, _, rfl, ?_, ⟨_, rfl⟩, hW, hsame.mono (by decide) (by decide)⟩
            · show Steps p.tables e below (s₁.setTop (mkF m 37 #[.val (.int p1)] [(.int (4 : Int32)), (.int p1)])) _
              refine XS.icmpNo X0.here hx rfl (hb hby d1_37) rfl (teq hc37_14).2 ?_
              show Steps p.tables e below (s₁.setTop (mkF m 40 #[.val (.int p1)] [])) _
              refine st15 _ ?_
              show Steps p.tables e below (T15.setTop (mkF m 43 #[.val (.int p1)] [(.ref w4)])) _
              jvm_step X15.here [X15.here.top, hx, (hb hby d1_43), X15.method', Bd.returns, Value.isRef, FieldType.isReference]
              first | (intro acts; rw [hr _ acts rfl rfl rfl]) | rw [hr _ _ rfl rfl rfl]
              exact Steps.refl _
            · show QV (.ref r) h0 n0 _ T15.heap _
              rw [e15]
              exact ⟨by rw [← hpk]; rw [own_pick, if_neg hc1_2, if_neg hc10_5, if_neg hc19_8, if_neg hc28_11, if_pos hc37_14], N0, rfl⟩
          · have pre16 : ∀ t, Steps p.tables e below (s₁.setTop (mkF m 46 #[.val (.int p1)] [(.int (5 : Int32)), (.int p1)])) t → Steps p.tables e below (s₁.setTop (entryFrame m #[(.int p1)] 1)) t := fun t k => pre13 t (by
                show Steps p.tables e below (s₁.setTop (mkF m 37 #[.val (.int p1)] [(.int (4 : Int32)), (.int p1)])) _
                refine XS.icmpYes X0.here hx rfl (pc0 := 37) (pc' := 44) rfl (hb hby d1_37) rfl (feq hc37_14).2 (by decide) (by decide) ?_
                show Steps p.tables e below (s₁.setTop (mkF m 44 #[.val (.int p1)] [])) _
                refine XS.iloadN X0.here hx rfl (hb hby d1_44) rfl ?_
                show Steps p.tables e below (s₁.setTop (mkF m 45 #[.val (.int p1)] [(.int p1)])) _
                refine XS.iconst X0.here hx rfl (hb hby d1_45) ?_
                exact k)
            by_cases hc46_17 : p1 = (5 : Int32)
            · obtain ⟨T18, X18, e18, st18⟩ := getS2 X0 hx hZ hown (host := "") (Or.inl (hw _ (List.mem_of_getElem? (i := 39) rfl))) Via.refl e0 S5 (g := (mkF m 49 #[.val (.int p1)] [])) rfl (hb hby d1_49)
              obtain ⟨fs, hr, hrun, hended, hW, hsame⟩ := X18.leave (v := some (.ref w5)) (fun h => by rw [Bd.returns] at h; cases h)
              refine ⟨_, _, pre16 _ ?_, hrun, hended, _, _, rfl, ?_, ⟨_, rfl⟩, hW, hsame.mono (by decide) (by decide)⟩
              · show Steps p.tables e below (s₁.setTop (mkF m 46 #[.val (.int p1)] [(.int (5 : Int32)), (.int p1)])) _
                refine XS.icmpNo X0.here hx rfl (hb hby d1_46) rfl (teq hc46_17).2 ?_
                show Steps p.tables e below (s₁.setTop (mkF m 49 #[.val (.int p1)] [])) _
                refine st18 _ ?_
                show Steps p.tables e below (T18.setTop (mkF m 52 #[.val (.int p1)] [(.ref w5)])) _
                jvm_step X18.here [X18.here.top, hx, (hb hby d1_52), X18.method', Bd.returns, Value.isRef, FieldType.isReference]
                first | (intro acts; rw [hr _ acts rfl rfl rfl]) | rw [hr _ _ rfl rfl rfl]
                exact Steps.refl _
              · show QV (.ref r) h0 n0 _ T18.heap _
                rw [e18]
                exact ⟨by rw [← hpk]; rw [own_pick, if_neg hc1_2, if_neg hc10_5, if_neg hc19_8, if_neg hc28_11, if_neg hc37_14, if_pos hc46_17], N0, rfl⟩
            · have pre19 : ∀ t, Steps p.tables e below (s₁.setTop (mkF m 56 #[.val (.int p1)] [(.int (6 : Int32)), (.int p1)])) t → Steps p.tables e below (s₁.setTop (entryFrame m #[(.int p1)] 1)) t := fun t k => pre16 t (by
                  show Steps p.tables e below (s₁.setTop (mkF m 46 #[.val (.int p1)] [(.int (5 : Int32)), (.int p1)])) _
                  refine XS.icmpYes X0.here hx rfl (pc0 := 46) (pc' := 53) rfl (hb hby d1_46) rfl (feq hc46_17).2 (by decide) (by decide) ?_
                  show Steps p.tables e below (s₁.setTop (mkF m 53 #[.val (.int p1)] [])) _
                  refine XS.iloadN X0.here hx rfl (hb hby d1_53) rfl ?_
                  show Steps p.tables e below (s₁.setTop (mkF m 54 #[.val (.int p1)] [(.int p1)])) _
                  refine XS.bipush X0.here hx rfl (hb hby d1_54) ?_
                  exact k)
              by_cases hc56_20 : p1 = (6 : Int32)
              · obtain ⟨T21, X21, e21, st21⟩ := getS2 X0 hx hZ hown (host := "") (Or.inl (hw _ (List.mem_of_getElem? (i := 8) rfl))) Via.refl e0 S6 (g := (mkF m 59 #[.val (.int p1)] [])) rfl (hb hby d1_59)
                obtain ⟨fs, hr, hrun, hended, hW, hsame⟩ := X21.leave (v := some (.ref w6)) (fun h => by rw [Bd.returns] at h; cases h)
                refine ⟨_, _, pre19 _ ?_, hrun, hended, _, _, rfl, ?_, ⟨_, rfl⟩, hW, hsame.mono (by decide) (by decide)⟩
                · show Steps p.tables e below (s₁.setTop (mkF m 56 #[.val (.int p1)] [(.int (6 : Int32)), (.int p1)])) _
                  refine XS.icmpNo X0.here hx rfl (hb hby d1_56) rfl (teq hc56_20).2 ?_
                  show Steps p.tables e below (s₁.setTop (mkF m 59 #[.val (.int p1)] [])) _
                  refine st21 _ ?_
                  show Steps p.tables e below (T21.setTop (mkF m 62 #[.val (.int p1)] [(.ref w6)])) _
                  jvm_step X21.here [X21.here.top, hx, (hb hby d1_62), X21.method', Bd.returns, Value.isRef, FieldType.isReference]
                  first | (intro acts; rw [hr _ acts rfl rfl rfl]) | rw [hr _ _ rfl rfl rfl]
                  exact Steps.refl _
                · show QV (.ref r) h0 n0 _ T21.heap _
                  rw [e21]
                  exact ⟨by rw [← hpk]; rw [own_pick, if_neg hc1_2, if_neg hc10_5, if_neg hc19_8, if_neg hc28_11, if_neg hc37_14, if_neg hc46_17, if_pos hc56_20], N0, rfl⟩
              · have pre22 : ∀ t, Steps p.tables e below (s₁.setTop (mkF m 66 #[.val (.int p1)] [(.int (7 : Int32)), (.int p1)])) t → Steps p.tables e below (s₁.setTop (entryFrame m #[(.int p1)] 1)) t := fun t k => pre19 t (by
                    show Steps p.tables e below (s₁.setTop (mkF m 56 #[.val (.int p1)] [(.int (6 : Int32)), (.int p1)])) _
                    refine XS.icmpYes X0.here hx rfl (pc0 := 56) (pc' := 63) rfl (hb hby d1_56) rfl (feq hc56_20).2 (by decide) (by decide) ?_
                    show Steps p.tables e below (s₁.setTop (mkF m 63 #[.val (.int p1)] [])) _
                    refine XS.iloadN X0.here hx rfl (hb hby d1_63) rfl ?_
                    show Steps p.tables e below (s₁.setTop (mkF m 64 #[.val (.int p1)] [(.int p1)])) _
                    refine XS.bipush X0.here hx rfl (hb hby d1_64) ?_
                    exact k)
                by_cases hc66_23 : p1 = (7 : Int32)
                · obtain ⟨T24, X24, e24, st24⟩ := getS2 X0 hx hZ hown (host := "") (Or.inl (hw _ (List.mem_of_getElem? (i := 10) rfl))) Via.refl e0 S7 (g := (mkF m 69 #[.val (.int p1)] [])) rfl (hb hby d1_69)
                  obtain ⟨fs, hr, hrun, hended, hW, hsame⟩ := X24.leave (v := some (.ref w7)) (fun h => by rw [Bd.returns] at h; cases h)
                  refine ⟨_, _, pre22 _ ?_, hrun, hended, _, _, rfl, ?_, ⟨_, rfl⟩, hW, hsame.mono (by decide) (by decide)⟩
                  · show Steps p.tables e below (s₁.setTop (mkF m 66 #[.val (.int p1)] [(.int (7 : Int32)), (.int p1)])) _
                    refine XS.icmpNo X0.here hx rfl (hb hby d1_66) rfl (teq hc66_23).2 ?_
                    show Steps p.tables e below (s₁.setTop (mkF m 69 #[.val (.int p1)] [])) _
                    refine st24 _ ?_
                    show Steps p.tables e below (T24.setTop (mkF m 72 #[.val (.int p1)] [(.ref w7)])) _
                    jvm_step X24.here [X24.here.top, hx, (hb hby d1_72), X24.method', Bd.returns, Value.isRef, FieldType.isReference]
                    first | (intro acts; rw [hr _ acts rfl rfl rfl]) | rw [hr _ _ rfl rfl rfl]
                    exact Steps.refl _
                  · show QV (.ref r) h0 n0 _ T24.heap _
                    rw [e24]
                    exact ⟨by rw [← hpk]; rw [own_pick, if_neg hc1_2, if_neg hc10_5, if_neg hc19_8, if_neg hc28_11, if_neg hc37_14, if_neg hc46_17, if_neg hc56_20, if_pos hc66_23], N0, rfl⟩
                · obtain ⟨T25, X25, e25, st25⟩ := getS2 X0 hx hZ hown (host := "") (Or.inl (hw _ (List.mem_of_getElem? (i := 37) rfl))) Via.refl e0 S8 (g := (mkF m 73 #[.val (.int p1)] [])) rfl (hb hby d1_73)
                  obtain ⟨fs, hr, hrun, hended, hW, hsame⟩ := X25.leave (v := some (.ref w8)) (fun h => by rw [Bd.returns] at h; cases h)
                  refine ⟨_, _, pre22 _ ?_, hrun, hended, _, _, rfl, ?_, ⟨_, rfl⟩, hW, hsame.mono (by decide) (by decide)⟩
                  · show Steps p.tables e below (s₁.setTop (mkF m 66 #[.val (.int p1)] [(.int (7 : Int32)), (.int p1)])) _
                    refine XS.icmpYes X0.here hx rfl (pc0 := 66) (pc' := 73) rfl (hb hby d1_66) rfl (feq hc66_23).2 (by decide) (by decide) ?_
                    show Steps p.tables e below (s₁.setTop (mkF m 73 #[.val (.int p1)] [])) _
                    refine st25 _ ?_
                    show Steps p.tables e below (T25.setTop (mkF m 76 #[.val (.int p1)] [(.ref w8)])) _
                    jvm_step X25.here [X25.here.top, hx, (hb hby d1_76), X25.method', Bd.returns, Value.isRef, FieldType.isReference]
                    first | (intro acts; rw [hr _ acts rfl rfl rfl]) | rw [hr _ _ rfl rfl rfl]
                    exact Steps.refl _
                  · show QV (.ref r) h0 n0 _ T25.heap _
                    rw [e25]
                    exact ⟨by rw [← hpk]; rw [own_pick, if_neg hc1_2, if_neg hc10_5, if_neg hc19_8, if_neg hc28_11, if_neg hc37_14, if_neg hc46_17, if_neg hc56_20, if_neg hc66_23], N0, rfl⟩
theorem d2_0 : decode prog_12_method_7_code 0 = .ok (.aload_n 0, 1) := by decide +kernel
theorem d2_1 : decode prog_12_method_7_code 1 = .ok (.getfield 50, 3) := by decide +kernel
theorem d2_4 : decode prog_12_method_7_code 4 = .ok (.getstatic 69, 3) := by decide +kernel
theorem d2_7 : decode prog_12_method_7_code 7 = .ok (.if_acmp .ne 7, 3) := by decide +kernel
theorem d2_10 : decode prog_12_method_7_code 10 = .ok (.iconst 1, 1) := by decide +kernel
theorem d2_11 : decode prog_12_method_7_code 11 = .ok (.goto 4, 3) := by decide +kernel
theorem d2_14 : decode prog_12_method_7_code 14 = .ok (.iconst 0, 1) := by decide +kernel
theorem d2_15 : decode prog_12_method_7_code 15 = .ok (.ireturn, 1) := by decide +kernel
theorem pn_1 : plainName "com/example/vallet/vallet/TransactionType" = true := by first | (simp [plainName, overriddenIn]; done) | decide +kernel
theorem ef_2 (m : MethodId) (x0 : Addr) : entryFrame m #[(.ref x0)] 1 = mkF m 0 #[.val (.ref x0)] [] := by first | (simp [entryFrame, mkF, argsToLocals, Value.category]; done) | rfl
set_option maxRecDepth 65536 in
set_option maxHeartbeats 40000000 in
theorem rm2 (l : Launch) (Z : State) (a0 : Array Value) (hw : ∀ d ∈ tables_1, d.before a0 Z = true) (ws : List Jvm.Cond) (a1 : Addr) (mt wr : Addr) (h0 : Heap) (n0 : Nat) (Z0 : n0 ≤ h0.size) (FM : Fld Z h0 a1 "com/example/vallet/vallet/TransactionType" "made" "Lcom/example/vallet/vallet/TransactionType$Made;" (.ref mt)) (SR : Sta Z h0 "com/example/vallet/vallet/TransactionType$Made" "AS_REVERSAL" "Lcom/example/vallet/vallet/TransactionType$Made;" (.ref wr)) :
    MetFree l (⟨"com/example/vallet/vallet/TransactionType", "isReversal", "()Z"⟩ : MethodName) (head1 (Jvm.Cond.code (⟨"com/example/vallet/vallet/TransactionType", "isReversal", "()Z"⟩ : MethodName) prog_12_method_7_code 1 (some .boolean) :: ws) ({ frames := 0, cells := 0, slots := 0, locals := 0 } : Room)) (fun a U => a = #[(.ref a1)] ∧ Z.Warmed39 U.vm ∧ U.heap = h0) (fun _ _ _ _ _ => True) (fun _ U o U' => ∃ v L, o = .returned v ∧ (QV (.int (own_is mt wr)) h0 n0 v U'.heap L) ∧ FrameEnd U o U' L ({ frames := 0, cells := 0, slots := 0, locals := 0 } : Room).cells ({ frames := 0, cells := 0, slots := 0, locals := 0 } : Room).slots) := by
  refine MetFree.of_bodySF (plainFor_of_name pn_1) hisR ?_
  intro p e s m args below meth c s₁ Bd hml0 hP hK
  obtain ⟨rfl, hZ, hh⟩ := hP
  have hx := Bd.exec
  have hby := Bd.bytes
  have hml : c.maxLocals = 1 := hml0
  have hown : s.vm.findClass "com/example/vallet/vallet/TransactionType" = some m.cls := findClass_of_methodNamed Bd.named
  have hnm := (name_of_methodNamed Bd.named Bd.method).1
  have X0 : Stand p l e ({ frames := 0, cells := 0, slots := 0, locals := 0 } : Room) s m #[(.ref a1)] below meth c s₁ [] 0 0 := Stand.of_body Bd
  have e0 : s₁.heap = h0 := by rw [← hh, Bd.state]; rfl
  have N0 := Fr.nil n0
  have pre0 : ∀ t, Steps p.tables e below (s₁.setTop (mkF m 0 #[.val (.ref a1)] [])) t → Steps p.tables e below (s₁.setTop (entryFrame m #[(.ref a1)] 1)) t := fun t k => castTop (ef_2 m a1) k
  obtain ⟨T1, X1, e1, st1⟩ := getF X0 hx hZ hown (host := "") (Or.inl (hw _ (List.mem_of_getElem? (i := 17) rfl))) Via.refl e0 FM (g := (mkF m 1 #[.val (.ref a1)] [(.ref a1)])) rfl rfl (hb hby d2_1)
  obtain ⟨T2, X2, e2, st2⟩ := getS2 X1 hx hZ hown (host := "") (Or.inl (hw _ (List.mem_of_getElem? (i := 21) rfl))) Via.refl e1 SR (g := (mkF m 4 #[.val (.ref a1)] [(.ref mt)])) rfl (hb hby d2_4)
  have pre3 : ∀ t, Steps p.tables e below (T2.setTop (mkF m 7 #[.val (.ref a1)] [(.ref wr), (.ref mt)])) t → Steps p.tables e below (s₁.setTop (entryFrame m #[(.ref a1)] 1)) t := fun t k => pre0 t (by
      show Steps p.tables e below (s₁.setTop (mkF m 0 #[.val (.ref a1)] [])) _
      refine XS.aloadN X0.here hx rfl (hb hby d2_0) rfl rfl ?_
      show Steps p.tables e below (s₁.setTop (mkF m 1 #[.val (.ref a1)] [(.ref a1)])) _
      refine st1 _ ?_
      show Steps p.tables e below (T1.setTop (mkF m 4 #[.val (.ref a1)] [(.ref mt)])) _
      refine st2 _ ?_
      exact k)
  by_cases hc7_4 : mt = wr
  · obtain ⟨fs, hr, hrun, hended, hW, hsame⟩ := X2.leave (v := some (.int (1 : Int32))) (fun h => by rw [Bd.returns] at h; cases h)
    refine ⟨_, _, pre3 _ ?_, hrun, hended, _, _, rfl, ?_, ⟨_, rfl⟩, hW, hsame.mono (by decide) (by decide)⟩
    · show Steps p.tables e below (T2.setTop (mkF m 7 #[.val (.ref a1)] [(.ref wr), (.ref mt)])) _
      refine Jvm.RoadKit.acmp (g := (mkF m 7 #[.val (.ref a1)] [(.ref wr), (.ref mt)])) X2 hx rfl rfl rfl (pc0 := 7) (pc' := 10) (same := true) rfl (hb hby d2_7) rfl (decide_eq_true (congrArg Value.ref hc7_4)) (by decide) (by decide) ?_
      show Steps p.tables e below (T2.setTop (mkF m 10 #[.val (.ref a1)] [])) _
      refine XS.iconst X2.here hx rfl (hb hby d2_10) ?_
      show Steps p.tables e below (T2.setTop (mkF m 11 #[.val (.ref a1)] [(.int (1 : Int32))])) _
      refine XS.goto X2.here hx rfl (pc0 := 11) (pc' := 15) rfl (hb hby d2_11) (by decide) (by decide) ?_
      show Steps p.tables e below (T2.setTop (mkF m 15 #[.val (.ref a1)] [(.int (1 : Int32))])) _
      exact retN X2 hx (t := .boolean) Bd.returns (by simp) (hb hby d2_15) hr
    · show QV (.int (own_is mt wr)) h0 n0 _ T2.heap _
      rw [e2]
      exact ⟨by rw [own_is, if_pos hc7_4], N0, rfl⟩
  · obtain ⟨fs, hr, hrun, hended, hW, hsame⟩ := X2.leave (v := some (.int (0 : Int32))) (fun h => by rw [Bd.returns] at h; cases h)
    refine ⟨_, _, pre3 _ ?_, hrun, hended, _, _, rfl, ?_, ⟨_, rfl⟩, hW, hsame.mono (by decide) (by decide)⟩
    · show Steps p.tables e below (T2.setTop (mkF m 7 #[.val (.ref a1)] [(.ref wr), (.ref mt)])) _
      refine Jvm.RoadKit.acmp (g := (mkF m 7 #[.val (.ref a1)] [(.ref wr), (.ref mt)])) X2 hx rfl rfl rfl (pc0 := 7) (pc' := 14) (same := false) rfl (hb hby d2_7) rfl (decide_eq_false fun q => hc7_4 (Value.ref.inj q)) (by decide) (by decide) ?_
      show Steps p.tables e below (T2.setTop (mkF m 14 #[.val (.ref a1)] [])) _
      refine XS.iconst X2.here hx rfl (hb hby d2_14) ?_
      show Steps p.tables e below (T2.setTop (mkF m 15 #[.val (.ref a1)] [(.int (0 : Int32))])) _
      exact retN X2 hx (t := .boolean) Bd.returns (by simp) (hb hby d2_15) hr
    · show QV (.int (own_is mt wr)) h0 n0 _ T2.heap _
      rw [e2]
      exact ⟨by rw [own_is, if_neg hc7_4], N0, rfl⟩
theorem d3_0 : decode prog_12_method_6_code 0 = .ok (.aload_n 0, 1) := by decide +kernel
theorem d3_1 : decode prog_12_method_6_code 1 = .ok (.getfield 50, 3) := by decide +kernel
theorem d3_4 : decode prog_12_method_6_code 4 = .ok (.getstatic 64, 3) := by decide +kernel
theorem d3_7 : decode prog_12_method_6_code 7 = .ok (.if_acmp .ne 7, 3) := by decide +kernel
theorem d3_10 : decode prog_12_method_6_code 10 = .ok (.iconst 1, 1) := by decide +kernel
theorem d3_11 : decode prog_12_method_6_code 11 = .ok (.goto 4, 3) := by decide +kernel
theorem d3_14 : decode prog_12_method_6_code 14 = .ok (.iconst 0, 1) := by decide +kernel
theorem d3_15 : decode prog_12_method_6_code 15 = .ok (.ireturn, 1) := by decide +kernel
theorem ef_3 (m : MethodId) (x0 : Addr) : entryFrame m #[(.ref x0)] 1 = mkF m 0 #[.val (.ref x0)] [] := by first | (simp [entryFrame, mkF, argsToLocals, Value.category]; done) | rfl
set_option maxRecDepth 65536 in
set_option maxHeartbeats 40000000 in
theorem rm3 (l : Launch) (Z : State) (a0 : Array Value) (hw : ∀ d ∈ tables_1, d.before a0 Z = true) (ws : List Jvm.Cond) (a1 : Addr) (mt wa : Addr) (h0 : Heap) (n0 : Nat) (Z0 : n0 ≤ h0.size) (FM : Fld Z h0 a1 "com/example/vallet/vallet/TransactionType" "made" "Lcom/example/vallet/vallet/TransactionType$Made;" (.ref mt)) (SA : Sta Z h0 "com/example/vallet/vallet/TransactionType$Made" "AS_TRANSFER" "Lcom/example/vallet/vallet/TransactionType$Made;" (.ref wa)) :
    MetFree l (⟨"com/example/vallet/vallet/TransactionType", "isPostedAsTransfer", "()Z"⟩ : MethodName) (head1 (Jvm.Cond.code (⟨"com/example/vallet/vallet/TransactionType", "isPostedAsTransfer", "()Z"⟩ : MethodName) prog_12_method_6_code 1 (some .boolean) :: ws) ({ frames := 0, cells := 0, slots := 0, locals := 0 } : Room)) (fun a U => a = #[(.ref a1)] ∧ Z.Warmed39 U.vm ∧ U.heap = h0) (fun _ _ _ _ _ => True) (fun _ U o U' => ∃ v L, o = .returned v ∧ (QV (.int (own_is mt wa)) h0 n0 v U'.heap L) ∧ FrameEnd U o U' L ({ frames := 0, cells := 0, slots := 0, locals := 0 } : Room).cells ({ frames := 0, cells := 0, slots := 0, locals := 0 } : Room).slots) := by
  refine MetFree.of_bodySF (plainFor_of_name pn_1) hisR ?_
  intro p e s m args below meth c s₁ Bd hml0 hP hK
  obtain ⟨rfl, hZ, hh⟩ := hP
  have hx := Bd.exec
  have hby := Bd.bytes
  have hml : c.maxLocals = 1 := hml0
  have hown : s.vm.findClass "com/example/vallet/vallet/TransactionType" = some m.cls := findClass_of_methodNamed Bd.named
  have hnm := (name_of_methodNamed Bd.named Bd.method).1
  have X0 : Stand p l e ({ frames := 0, cells := 0, slots := 0, locals := 0 } : Room) s m #[(.ref a1)] below meth c s₁ [] 0 0 := Stand.of_body Bd
  have e0 : s₁.heap = h0 := by rw [← hh, Bd.state]; rfl
  have N0 := Fr.nil n0
  have pre0 : ∀ t, Steps p.tables e below (s₁.setTop (mkF m 0 #[.val (.ref a1)] [])) t → Steps p.tables e below (s₁.setTop (entryFrame m #[(.ref a1)] 1)) t := fun t k => castTop (ef_3 m a1) k
  obtain ⟨T1, X1, e1, st1⟩ := getF X0 hx hZ hown (host := "") (Or.inl (hw _ (List.mem_of_getElem? (i := 17) rfl))) Via.refl e0 FM (g := (mkF m 1 #[.val (.ref a1)] [(.ref a1)])) rfl rfl (hb hby d3_1)
  obtain ⟨T2, X2, e2, st2⟩ := getS2 X1 hx hZ hown (host := "") (Or.inl (hw _ (List.mem_of_getElem? (i := 34) rfl))) Via.refl e1 SA (g := (mkF m 4 #[.val (.ref a1)] [(.ref mt)])) rfl (hb hby d3_4)
  have pre3 : ∀ t, Steps p.tables e below (T2.setTop (mkF m 7 #[.val (.ref a1)] [(.ref wa), (.ref mt)])) t → Steps p.tables e below (s₁.setTop (entryFrame m #[(.ref a1)] 1)) t := fun t k => pre0 t (by
      show Steps p.tables e below (s₁.setTop (mkF m 0 #[.val (.ref a1)] [])) _
      refine XS.aloadN X0.here hx rfl (hb hby d3_0) rfl rfl ?_
      show Steps p.tables e below (s₁.setTop (mkF m 1 #[.val (.ref a1)] [(.ref a1)])) _
      refine st1 _ ?_
      show Steps p.tables e below (T1.setTop (mkF m 4 #[.val (.ref a1)] [(.ref mt)])) _
      refine st2 _ ?_
      exact k)
  by_cases hc7_4 : mt = wa
  · obtain ⟨fs, hr, hrun, hended, hW, hsame⟩ := X2.leave (v := some (.int (1 : Int32))) (fun h => by rw [Bd.returns] at h; cases h)
    refine ⟨_, _, pre3 _ ?_, hrun, hended, _, _, rfl, ?_, ⟨_, rfl⟩, hW, hsame.mono (by decide) (by decide)⟩
    · show Steps p.tables e below (T2.setTop (mkF m 7 #[.val (.ref a1)] [(.ref wa), (.ref mt)])) _
      refine Jvm.RoadKit.acmp (g := (mkF m 7 #[.val (.ref a1)] [(.ref wa), (.ref mt)])) X2 hx rfl rfl rfl (pc0 := 7) (pc' := 10) (same := true) rfl (hb hby d3_7) rfl (decide_eq_true (congrArg Value.ref hc7_4)) (by decide) (by decide) ?_
      show Steps p.tables e below (T2.setTop (mkF m 10 #[.val (.ref a1)] [])) _
      refine XS.iconst X2.here hx rfl (hb hby d3_10) ?_
      show Steps p.tables e below (T2.setTop (mkF m 11 #[.val (.ref a1)] [(.int (1 : Int32))])) _
      refine XS.goto X2.here hx rfl (pc0 := 11) (pc' := 15) rfl (hb hby d3_11) (by decide) (by decide) ?_
      show Steps p.tables e below (T2.setTop (mkF m 15 #[.val (.ref a1)] [(.int (1 : Int32))])) _
      exact retN X2 hx (t := .boolean) Bd.returns (by simp) (hb hby d3_15) hr
    · show QV (.int (own_is mt wa)) h0 n0 _ T2.heap _
      rw [e2]
      exact ⟨by rw [own_is, if_pos hc7_4], N0, rfl⟩
  · obtain ⟨fs, hr, hrun, hended, hW, hsame⟩ := X2.leave (v := some (.int (0 : Int32))) (fun h => by rw [Bd.returns] at h; cases h)
    refine ⟨_, _, pre3 _ ?_, hrun, hended, _, _, rfl, ?_, ⟨_, rfl⟩, hW, hsame.mono (by decide) (by decide)⟩
    · show Steps p.tables e below (T2.setTop (mkF m 7 #[.val (.ref a1)] [(.ref wa), (.ref mt)])) _
      refine Jvm.RoadKit.acmp (g := (mkF m 7 #[.val (.ref a1)] [(.ref wa), (.ref mt)])) X2 hx rfl rfl rfl (pc0 := 7) (pc' := 14) (same := false) rfl (hb hby d3_7) rfl (decide_eq_false fun q => hc7_4 (Value.ref.inj q)) (by decide) (by decide) ?_
      show Steps p.tables e below (T2.setTop (mkF m 14 #[.val (.ref a1)] [])) _
      refine XS.iconst X2.here hx rfl (hb hby d3_14) ?_
      show Steps p.tables e below (T2.setTop (mkF m 15 #[.val (.ref a1)] [(.int (0 : Int32))])) _
      exact retN X2 hx (t := .boolean) Bd.returns (by simp) (hb hby d3_15) hr
    · show QV (.int (own_is mt wa)) h0 n0 _ T2.heap _
      rw [e2]
      exact ⟨by rw [own_is, if_neg hc7_4], N0, rfl⟩
theorem ef_0 (m : MethodId) (x0 : Int32) : entryFrame m #[(.int x0)] maxLocals = mkF m 0 #[.val (.int x0), .unset, .unset, .unset, .unset] [] := by first | (simp [entryFrame, mkF, argsToLocals, Value.category, maxLocals]; done) | rfl
theorem pd_0 : parseMethodDescriptor "(I)Lcom/example/vallet/vallet/TransactionType;" = some ⟨[.int], some (.object "com/example/vallet/vallet/TransactionType")⟩ := by decide +kernel
theorem pd_1 : parseMethodDescriptor "()Z" = some ⟨[], some .boolean⟩ := by decide +kernel
set_option maxRecDepth 65536 in
set_option maxHeartbeats 40000000 in
theorem rm0 (l : Launch) (Z : State) (a0 : Array Value) (hw : ∀ d ∈ tables_1, d.before a0 Z = true) (ws : List Jvm.Cond) (p1 : Int32) (w0 w1 w2 w3 w4 w5 w6 w7 w8 r mt wa wr : Addr) (h0 : Heap) (n0 : Nat) (Z0 : n0 ≤ h0.size) (S0 : Sta Z h0 "com/example/vallet/vallet/TransactionType" "BILLPAY" "Lcom/example/vallet/vallet/TransactionType;" (.ref w0)) (S1 : Sta Z h0 "com/example/vallet/vallet/TransactionType" "DEPOSIT" "Lcom/example/vallet/vallet/TransactionType;" (.ref w1)) (S2 : Sta Z h0 "com/example/vallet/vallet/TransactionType" "DISBURSEMENT" "Lcom/example/vallet/vallet/TransactionType;" (.ref w2)) (S3 : Sta Z h0 "com/example/vallet/vallet/TransactionType" "TRANSFER" "Lcom/example/vallet/vallet/TransactionType;" (.ref w3)) (S4 : Sta Z h0 "com/example/vallet/vallet/TransactionType" "MERCHANTPAY" "Lcom/example/vallet/vallet/TransactionType;" (.ref w4)) (S5 : Sta Z h0 "com/example/vallet/vallet/TransactionType" "INTTRANSFER" "Lcom/example/vallet/vallet/TransactionType;" (.ref w5)) (S6 : Sta Z h0 "com/example/vallet/vallet/TransactionType" "ADJUSTMENT" "Lcom/example/vallet/vallet/TransactionType;" (.ref w6)) (S7 : Sta Z h0 "com/example/vallet/vallet/TransactionType" "REVERSAL" "Lcom/example/vallet/vallet/TransactionType;" (.ref w7)) (S8 : Sta Z h0 "com/example/vallet/vallet/TransactionType" "WITHDRAWAL" "Lcom/example/vallet/vallet/TransactionType;" (.ref w8)) (SA : Sta Z h0 "com/example/vallet/vallet/TransactionType$Made" "AS_TRANSFER" "Lcom/example/vallet/vallet/TransactionType$Made;" (.ref wa)) (SR : Sta Z h0 "com/example/vallet/vallet/TransactionType$Made" "AS_REVERSAL" "Lcom/example/vallet/vallet/TransactionType$Made;" (.ref wr)) (hpk : own_pick ((p1 &&& (2147483647 : Int32)) % (9 : Int32)) w0 w1 w2 w3 w4 w5 w6 w7 w8 = r) (E : Exa Z h0 r "com/example/vallet/vallet/TransactionType") (FM : Fld Z h0 r "com/example/vallet/vallet/TransactionType" "made" "Lcom/example/vallet/vallet/TransactionType$Made;" (.ref mt)) (hres : own_is mt wr = own_exp r w6 w7) (hpo : own_is mt wr = 1 → own_is mt wa = 0) :
    MetFree l x (head1 (Jvm.Cond.code x code maxLocals ret :: ws) room_1) (fun a U => a = #[(.int p1)] ∧ Z.Warmed39 U.vm ∧ U.heap = h0) (fun _ _ _ _ _ => True) (fun _ U o U' => ∃ v L, o = .returned v ∧ (v = some (Value.int 1) ∧ Fr n0 L) ∧ FrameEnd U o U' L room_1.cells room_1.slots) := by
  refine MetFree.of_bodySF (plainFor_of_name pn_0) hisR ?_
  intro p e s m args below meth c s₁ Bd hml0 hP hK
  obtain ⟨rfl, hZ, hh⟩ := hP
  have hx := Bd.exec
  have hby := Bd.bytes
  have hml : c.maxLocals = 5 := hml0
  have hown : s.vm.findClass "com/example/vallet/vallet/TransactionTypeIsReversalPinLaw" = some m.cls := findClass_of_methodNamed Bd.named
  have hnm := (name_of_methodNamed Bd.named Bd.method).1
  have X0 : Stand p l e room_1 s m #[(.int p1)] below meth c s₁ [] 0 0 := Stand.of_body Bd
  have e0 : s₁.heap = h0 := by rw [← hh, Bd.state]; rfl
  have N0 := Fr.nil n0
  have pre0 : ∀ t, Steps p.tables e below (s₁.setTop (mkF m 0 #[.val (.int p1), .unset, .unset, .unset, .unset] [])) t → Steps p.tables e below (s₁.setTop (entryFrame m #[(.int p1)] maxLocals)) t := fun t k => castTop (ef_0 m p1) k
  obtain ⟨_, _, ⟨T1, L1, k1, n1⟩, -, X1, ⟨Lc1, hQ1, l1, y1, z1⟩, st1⟩ := Jvm.LawKit.callS X0 hx (y := (⟨"com/example/vallet/vallet/TransactionTypeIsReversalPinLaw", "pick", "(I)Lcom/example/vallet/vallet/TransactionType;"⟩ : MethodName)) hown (mvT hZ (hw _ (List.mem_of_getElem? (i := 1) rfl))) (mvT hZ (hw _ (List.mem_of_getElem? (i := 2) rfl))) (mvT hZ (hw _ (List.mem_of_getElem? (i := 3) rfl))) (mvT hZ (hw _ (List.mem_of_getElem? (i := 4) rfl))) (by decide) (backOf (W := 0) (rm1 l Z a0 hw [] ((p1 &&& (2147483647 : Int32)) % (9 : Int32)) w0 w1 w2 w3 w4 w5 w6 w7 w8 r h0 n0 Z0 S0 S1 S2 S3 S4 S5 S6 S7 S8 hpk) hZ (hw _ (List.mem_of_getElem? (i := 4) rfl)) (hw _ (List.mem_of_getElem? (i := 3) rfl)) (by decide) (by decide)) (g := (mkF m 9 #[.val (.int p1), .val (.int ((p1 &&& (2147483647 : Int32)) % (9 : Int32))), .unset, .unset, .unset] [(.int ((p1 &&& (2147483647 : Int32)) % (9 : Int32)))])) rfl (by rw [hml]; rfl) (argsL := [(.int ((p1 &&& (2147483647 : Int32)) % (9 : Int32)))]) (rest := []) (lenOf pd_0 rfl) rfl (by show 2 * 0 + _ ≤ _; exact Nat.le_of_eq rfl) (hb hby at_9) (fun _ _ => ⟨rfl, e0, (by decide : 0 + 0 ≤ _), (by decide : 0 + 0 ≤ _)⟩)
  dsimp only [Pt.U, Pt.locs, Pt.cells, Pt.slots] at X1 l1 y1 z1 st1 hQ1
  subst l1 y1 z1
  obtain ⟨rfl, N1q, e1⟩ := hQ1
  have N1 := Fr.app N0 N1q
  obtain ⟨T2, X2, e2, st2⟩ := getS2 X1 hx hZ hown (host := "") (Or.inl (hw _ (List.mem_of_getElem? (i := 8) rfl))) Via.refl e1 S6 (g := (mkF m 14 #[.val (.int p1), .val (.int ((p1 &&& (2147483647 : Int32)) % (9 : Int32))), .val (.ref r), .unset, .unset] [(.ref r)])) rfl (hb hby at_14)
  have pre3 : ∀ t, Steps p.tables e below (T2.setTop (mkF m 17 #[.val (.int p1), .val (.int ((p1 &&& (2147483647 : Int32)) % (9 : Int32))), .val (.ref r), .unset, .unset] [(.ref w6), (.ref r)])) t → Steps p.tables e below (s₁.setTop (entryFrame m #[(.int p1)] maxLocals)) t := fun t k => pre0 t (by
      show Steps p.tables e below (s₁.setTop (mkF m 0 #[.val (.int p1), .unset, .unset, .unset, .unset] [])) _
      refine XS.iloadN X0.here hx rfl (hb hby at_0) rfl ?_
      show Steps p.tables e below (s₁.setTop (mkF m 1 #[.val (.int p1), .unset, .unset, .unset, .unset] [(.int p1)])) _
      refine Jvm.Stand.ldcI X0 hx hown (mvT hZ (hw _ (List.mem_of_getElem? (i := 0) rfl))) (g := (mkF m 1 #[.val (.int p1), .unset, .unset, .unset, .unset] [(.int p1)])) rfl (hb hby at_1) ?_
      show Steps p.tables e below (s₁.setTop (mkF m 3 #[.val (.int p1), .unset, .unset, .unset, .unset] [(.int (2147483647 : Int32)), (.int p1)])) _
      refine XS.iand X0.here hx rfl (hb hby at_3) rfl ?_
      show Steps p.tables e below (s₁.setTop (mkF m 4 #[.val (.int p1), .unset, .unset, .unset, .unset] [(.int (p1 &&& (2147483647 : Int32)))])) _
      refine XS.bipush X0.here hx rfl (hb hby at_4) ?_
      show Steps p.tables e below (s₁.setTop (mkF m 6 #[.val (.int p1), .unset, .unset, .unset, .unset] [(.int (9 : Int32)), (.int (p1 &&& (2147483647 : Int32)))])) _
      refine iremM X0 hx rfl (hb hby at_6) rfl (by decide) ?_
      show Steps p.tables e below (s₁.setTop (mkF m 7 #[.val (.int p1), .unset, .unset, .unset, .unset] [(.int ((p1 &&& (2147483647 : Int32)) % (9 : Int32)))])) _
      refine XS.istoreN X0.here hx rfl (hb hby at_7) rfl (l' := #[.val (.int p1), .val (.int ((p1 &&& (2147483647 : Int32)) % (9 : Int32))), .unset, .unset, .unset]) rfl ?_
      show Steps p.tables e below (s₁.setTop (mkF m 8 #[.val (.int p1), .val (.int ((p1 &&& (2147483647 : Int32)) % (9 : Int32))), .unset, .unset, .unset] [])) _
      refine XS.iloadN X0.here hx rfl (hb hby at_8) rfl ?_
      show Steps p.tables e below (s₁.setTop (mkF m 9 #[.val (.int p1), .val (.int ((p1 &&& (2147483647 : Int32)) % (9 : Int32))), .unset, .unset, .unset] [(.int ((p1 &&& (2147483647 : Int32)) % (9 : Int32)))])) _
      refine st1 _ ?_
      show Steps p.tables e below (T1.setTop (mkF m 12 #[.val (.int p1), .val (.int ((p1 &&& (2147483647 : Int32)) % (9 : Int32))), .unset, .unset, .unset] [(.ref r)])) _
      refine XS.astoreN X1.here hx rfl (hb hby at_12) rfl rfl (l' := #[.val (.int p1), .val (.int ((p1 &&& (2147483647 : Int32)) % (9 : Int32))), .val (.ref r), .unset, .unset]) rfl ?_
      show Steps p.tables e below (T1.setTop (mkF m 13 #[.val (.int p1), .val (.int ((p1 &&& (2147483647 : Int32)) % (9 : Int32))), .val (.ref r), .unset, .unset] [])) _
      refine XS.aloadN X1.here hx rfl (hb hby at_13) rfl rfl ?_
      show Steps p.tables e below (T1.setTop (mkF m 14 #[.val (.int p1), .val (.int ((p1 &&& (2147483647 : Int32)) % (9 : Int32))), .val (.ref r), .unset, .unset] [(.ref r)])) _
      refine st2 _ ?_
      exact k)
  by_cases hc17_4 : r = w6
  · obtain ⟨cq5, kq5, q5a, q5b, q5c⟩ := isOf hZ e2 E
    obtain ⟨_, _, ⟨T5, L5, k5, n5⟩, -, X5, ⟨Lc5, hQ5, l5, y5, z5⟩, st5⟩ := X2.virtualBack hx (y := (⟨"com/example/vallet/vallet/TransactionType", "isReversal", "()Z"⟩ : MethodName)) (z := (⟨"com/example/vallet/vallet/TransactionType", "isReversal", "()Z"⟩ : MethodName)) hown (mvT hZ (hw _ (List.mem_of_getElem? (i := 12) rfl))) (mvT hZ (hw _ (List.mem_of_getElem? (i := 13) rfl))) (notFace_of_selects (args := #[]) (mvT hZ (hw _ (List.mem_of_getElem? (i := 15) rfl)))) (mvT hZ (hw _ (List.mem_of_getElem? (i := 15) rfl))) (mvT hZ (hw _ (List.mem_of_getElem? (i := 14) rfl))) (by decide) (backOf (W := 0) (rm2 l Z a0 hw [] r mt wr h0 n0 Z0 FM SR) hZ (hw _ (List.mem_of_getElem? (i := 16) rfl)) (hw _ (List.mem_of_getElem? (i := 6) rfl)) (by decide) (by decide)) q5a q5c (g := (mkF m 34 #[.val (.int p1), .val (.int ((p1 &&& (2147483647 : Int32)) % (9 : Int32))), .val (.ref r), .val (.int (1 : Int32)), .unset] [(.ref r)])) rfl (by rw [hml]; rfl) (Steps.refl _) (argsL := []) (rest := []) (lenOf pd_1 rfl) rfl (by show 2 * 0 + _ ≤ _; exact Nat.le_of_eq rfl) (hb hby at_34) (fun _ _ => ⟨rfl, e2, (by decide : 0 + 0 ≤ _), (by decide : 0 + 0 ≤ _)⟩)
    dsimp only [Pt.U, Pt.locs, Pt.cells, Pt.slots] at X5 l5 y5 z5 st5 hQ5
    subst l5 y5 z5
    obtain ⟨rfl, N5q, e5⟩ := hQ5
    have N5 := Fr.app N1 N5q
    have hE : own_is mt wr = (1 : Int32) := hres.trans (by rw [own_exp, if_pos hc17_4])
    obtain ⟨cq6, kq6, q6a, q6b, q6c⟩ := isOf hZ e5 E
    obtain ⟨_, _, ⟨T6, L6, k6, n6⟩, -, X6, ⟨Lc6, hQ6, l6, y6, z6⟩, st6⟩ := X5.virtualBack hx (y := (⟨"com/example/vallet/vallet/TransactionType", "isPostedAsTransfer", "()Z"⟩ : MethodName)) (z := (⟨"com/example/vallet/vallet/TransactionType", "isPostedAsTransfer", "()Z"⟩ : MethodName)) hown (mvT hZ (hw _ (List.mem_of_getElem? (i := 29) rfl))) (mvT hZ (hw _ (List.mem_of_getElem? (i := 30) rfl))) (notFace_of_selects (args := #[]) (mvT hZ (hw _ (List.mem_of_getElem? (i := 32) rfl)))) (mvT hZ (hw _ (List.mem_of_getElem? (i := 32) rfl))) (mvT hZ (hw _ (List.mem_of_getElem? (i := 31) rfl))) (by decide) (backOf (W := 0) (rm3 l Z a0 hw [] r mt wa h0 n0 Z0 FM SA) hZ (hw _ (List.mem_of_getElem? (i := 33) rfl)) (hw _ (List.mem_of_getElem? (i := 6) rfl)) (by decide) (by decide)) q6a q6c (g := (mkF m 53 #[.val (.int p1), .val (.int ((p1 &&& (2147483647 : Int32)) % (9 : Int32))), .val (.ref r), .val (.int (1 : Int32)), .val (.int (own_is mt wr))] [(.ref r)])) rfl (by rw [hml]; rfl) (Steps.refl _) (argsL := []) (rest := []) (lenOf pd_1 rfl) rfl (by show 2 * 0 + _ ≤ _; exact Nat.le_of_eq rfl) (hb hby at_53) (fun _ _ => ⟨rfl, e5, (by decide : 0 + 0 ≤ _), (by decide : 0 + 0 ≤ _)⟩)
    dsimp only [Pt.U, Pt.locs, Pt.cells, Pt.slots] at X6 l6 y6 z6 st6 hQ6
    subst l6 y6 z6
    obtain ⟨rfl, N6q, e6⟩ := hQ6
    have N6 := Fr.app N5 N6q
    obtain ⟨fs, hr, hrun, hended, hW, hsame⟩ := X6.leave (v := some (.int (1 : Int32))) (fun h => by rw [Bd.returns] at h; cases h)
    refine ⟨_, _, pre3 _ ?_, hrun, hended, _, _, rfl, ?_, ⟨_, rfl⟩, hW, hsame.mono (by decide) (by decide)⟩
    · show Steps p.tables e below (T2.setTop (mkF m 17 #[.val (.int p1), .val (.int ((p1 &&& (2147483647 : Int32)) % (9 : Int32))), .val (.ref r), .unset, .unset] [(.ref w6), (.ref r)])) _
      refine Jvm.RoadKit.acmp (g := (mkF m 17 #[.val (.int p1), .val (.int ((p1 &&& (2147483647 : Int32)) % (9 : Int32))), .val (.ref r), .unset, .unset] [(.ref w6), (.ref r)])) X2 hx rfl rfl rfl (pc0 := 17) (pc' := 27) (same := true) rfl (hb hby at_17) rfl (decide_eq_true (congrArg Value.ref hc17_4)) (by decide) (by decide) ?_
      show Steps p.tables e below (T2.setTop (mkF m 27 #[.val (.int p1), .val (.int ((p1 &&& (2147483647 : Int32)) % (9 : Int32))), .val (.ref r), .unset, .unset] [])) _
      refine XS.iconst X2.here hx rfl (hb hby at_27) ?_
      show Steps p.tables e below (T2.setTop (mkF m 28 #[.val (.int p1), .val (.int ((p1 &&& (2147483647 : Int32)) % (9 : Int32))), .val (.ref r), .unset, .unset] [(.int (1 : Int32))])) _
      refine XS.goto X2.here hx rfl (pc0 := 28) (pc' := 32) rfl (hb hby at_28) (by decide) (by decide) ?_
      show Steps p.tables e below (T2.setTop (mkF m 32 #[.val (.int p1), .val (.int ((p1 &&& (2147483647 : Int32)) % (9 : Int32))), .val (.ref r), .unset, .unset] [(.int (1 : Int32))])) _
      refine XS.istoreN X2.here hx rfl (hb hby at_32) rfl (l' := #[.val (.int p1), .val (.int ((p1 &&& (2147483647 : Int32)) % (9 : Int32))), .val (.ref r), .val (.int (1 : Int32)), .unset]) rfl ?_
      show Steps p.tables e below (T2.setTop (mkF m 33 #[.val (.int p1), .val (.int ((p1 &&& (2147483647 : Int32)) % (9 : Int32))), .val (.ref r), .val (.int (1 : Int32)), .unset] [])) _
      refine XS.aloadN X2.here hx rfl (hb hby at_33) rfl rfl ?_
      show Steps p.tables e below (T2.setTop (mkF m 34 #[.val (.int p1), .val (.int ((p1 &&& (2147483647 : Int32)) % (9 : Int32))), .val (.ref r), .val (.int (1 : Int32)), .unset] [(.ref r)])) _
      refine st5.trans ?_
      show Steps p.tables e below (T5.setTop (mkF m 37 #[.val (.int p1), .val (.int ((p1 &&& (2147483647 : Int32)) % (9 : Int32))), .val (.ref r), .val (.int (1 : Int32)), .unset] [(.int (own_is mt wr))])) _
      refine XS.istore X5.here hx rfl (hb hby at_37) rfl (l' := #[.val (.int p1), .val (.int ((p1 &&& (2147483647 : Int32)) % (9 : Int32))), .val (.ref r), .val (.int (1 : Int32)), .val (.int (own_is mt wr))]) rfl ?_
      show Steps p.tables e below (T5.setTop (mkF m 39 #[.val (.int p1), .val (.int ((p1 &&& (2147483647 : Int32)) % (9 : Int32))), .val (.ref r), .val (.int (1 : Int32)), .val (.int (own_is mt wr))] [])) _
      refine XS.iload X5.here hx rfl (hb hby at_39) rfl ?_
      show Steps p.tables e below (T5.setTop (mkF m 41 #[.val (.int p1), .val (.int ((p1 &&& (2147483647 : Int32)) % (9 : Int32))), .val (.ref r), .val (.int (1 : Int32)), .val (.int (own_is mt wr))] [(.int (own_is mt wr))])) _
      refine XS.iloadN X5.here hx rfl (hb hby at_41) rfl ?_
      show Steps p.tables e below (T5.setTop (mkF m 42 #[.val (.int p1), .val (.int ((p1 &&& (2147483647 : Int32)) % (9 : Int32))), .val (.ref r), .val (.int (1 : Int32)), .val (.int (own_is mt wr))] [(.int (1 : Int32)), (.int (own_is mt wr))])) _
      refine XS.icmpYes X5.here hx rfl (pc0 := 42) (pc' := 47) rfl (hb hby at_42) rfl (teq hE).1 (by decide) (by decide) ?_
      show Steps p.tables e below (T5.setTop (mkF m 47 #[.val (.int p1), .val (.int ((p1 &&& (2147483647 : Int32)) % (9 : Int32))), .val (.ref r), .val (.int (1 : Int32)), .val (.int (own_is mt wr))] [])) _
      refine XS.iload X5.here hx rfl (hb hby at_47) rfl ?_
      show Steps p.tables e below (T5.setTop (mkF m 49 #[.val (.int p1), .val (.int ((p1 &&& (2147483647 : Int32)) % (9 : Int32))), .val (.ref r), .val (.int (1 : Int32)), .val (.int (own_is mt wr))] [(.int (own_is mt wr))])) _
      refine XS.ifNo X5.here hx rfl (hb hby at_49) rfl ((if0 _ _).trans (feq (fun q => absurd (hE.symm.trans q) (by decide))).1) ?_
      show Steps p.tables e below (T5.setTop (mkF m 52 #[.val (.int p1), .val (.int ((p1 &&& (2147483647 : Int32)) % (9 : Int32))), .val (.ref r), .val (.int (1 : Int32)), .val (.int (own_is mt wr))] [])) _
      refine XS.aloadN X5.here hx rfl (hb hby at_52) rfl rfl ?_
      show Steps p.tables e below (T5.setTop (mkF m 53 #[.val (.int p1), .val (.int ((p1 &&& (2147483647 : Int32)) % (9 : Int32))), .val (.ref r), .val (.int (1 : Int32)), .val (.int (own_is mt wr))] [(.ref r)])) _
      refine st6.trans ?_
      show Steps p.tables e below (T6.setTop (mkF m 56 #[.val (.int p1), .val (.int ((p1 &&& (2147483647 : Int32)) % (9 : Int32))), .val (.ref r), .val (.int (1 : Int32)), .val (.int (own_is mt wr))] [(.int (own_is mt wa))])) _
      refine XS.ifYes X6.here hx rfl (pc0 := 56) (pc' := 61) rfl (hb hby at_56) rfl ((if0 _ _).trans (teq (hpo hE)).1) (by decide) (by decide) ?_
      show Steps p.tables e below (T6.setTop (mkF m 61 #[.val (.int p1), .val (.int ((p1 &&& (2147483647 : Int32)) % (9 : Int32))), .val (.ref r), .val (.int (1 : Int32)), .val (.int (own_is mt wr))] [])) _
      refine XS.iconst X6.here hx rfl (hb hby at_61) ?_
      show Steps p.tables e below (T6.setTop (mkF m 62 #[.val (.int p1), .val (.int ((p1 &&& (2147483647 : Int32)) % (9 : Int32))), .val (.ref r), .val (.int (1 : Int32)), .val (.int (own_is mt wr))] [(.int (1 : Int32))])) _
      exact retN X6 hx (t := .boolean) Bd.returns (by simp) (hb hby at_62) hr
    · show _ = some (Value.int 1) ∧ Fr n0 _
      exact ⟨rfl, N6⟩
  · obtain ⟨T7, X7, e7, st7⟩ := getS2 X2 hx hZ hown (host := "") (Or.inl (hw _ (List.mem_of_getElem? (i := 10) rfl))) Via.refl e2 S7 (g := (mkF m 21 #[.val (.int p1), .val (.int ((p1 &&& (2147483647 : Int32)) % (9 : Int32))), .val (.ref r), .unset, .unset] [(.ref r)])) rfl (hb hby at_21)
    have pre8 : ∀ t, Steps p.tables e below (T7.setTop (mkF m 24 #[.val (.int p1), .val (.int ((p1 &&& (2147483647 : Int32)) % (9 : Int32))), .val (.ref r), .unset, .unset] [(.ref w7), (.ref r)])) t → Steps p.tables e below (s₁.setTop (entryFrame m #[(.int p1)] maxLocals)) t := fun t k => pre3 t (by
        show Steps p.tables e below (T2.setTop (mkF m 17 #[.val (.int p1), .val (.int ((p1 &&& (2147483647 : Int32)) % (9 : Int32))), .val (.ref r), .unset, .unset] [(.ref w6), (.ref r)])) _
        refine Jvm.RoadKit.acmp (g := (mkF m 17 #[.val (.int p1), .val (.int ((p1 &&& (2147483647 : Int32)) % (9 : Int32))), .val (.ref r), .unset, .unset] [(.ref w6), (.ref r)])) X2 hx rfl rfl rfl (pc0 := 17) (pc' := 20) (same := false) rfl (hb hby at_17) rfl (decide_eq_false fun q => hc17_4 (Value.ref.inj q)) (by decide) (by decide) ?_
        show Steps p.tables e below (T2.setTop (mkF m 20 #[.val (.int p1), .val (.int ((p1 &&& (2147483647 : Int32)) % (9 : Int32))), .val (.ref r), .unset, .unset] [])) _
        refine XS.aloadN X2.here hx rfl (hb hby at_20) rfl rfl ?_
        show Steps p.tables e below (T2.setTop (mkF m 21 #[.val (.int p1), .val (.int ((p1 &&& (2147483647 : Int32)) % (9 : Int32))), .val (.ref r), .unset, .unset] [(.ref r)])) _
        refine st7 _ ?_
        exact k)
    by_cases hc24_9 : r = w7
    · obtain ⟨cq10, kq10, q10a, q10b, q10c⟩ := isOf hZ e7 E
      obtain ⟨_, _, ⟨T10, L10, k10, n10⟩, -, X10, ⟨Lc10, hQ10, l10, y10, z10⟩, st10⟩ := X7.virtualBack hx (y := (⟨"com/example/vallet/vallet/TransactionType", "isReversal", "()Z"⟩ : MethodName)) (z := (⟨"com/example/vallet/vallet/TransactionType", "isReversal", "()Z"⟩ : MethodName)) hown (mvT hZ (hw _ (List.mem_of_getElem? (i := 12) rfl))) (mvT hZ (hw _ (List.mem_of_getElem? (i := 13) rfl))) (notFace_of_selects (args := #[]) (mvT hZ (hw _ (List.mem_of_getElem? (i := 15) rfl)))) (mvT hZ (hw _ (List.mem_of_getElem? (i := 15) rfl))) (mvT hZ (hw _ (List.mem_of_getElem? (i := 14) rfl))) (by decide) (backOf (W := 0) (rm2 l Z a0 hw [] r mt wr h0 n0 Z0 FM SR) hZ (hw _ (List.mem_of_getElem? (i := 16) rfl)) (hw _ (List.mem_of_getElem? (i := 6) rfl)) (by decide) (by decide)) q10a q10c (g := (mkF m 34 #[.val (.int p1), .val (.int ((p1 &&& (2147483647 : Int32)) % (9 : Int32))), .val (.ref r), .val (.int (1 : Int32)), .unset] [(.ref r)])) rfl (by rw [hml]; rfl) (Steps.refl _) (argsL := []) (rest := []) (lenOf pd_1 rfl) rfl (by show 2 * 0 + _ ≤ _; exact Nat.le_of_eq rfl) (hb hby at_34) (fun _ _ => ⟨rfl, e7, (by decide : 0 + 0 ≤ _), (by decide : 0 + 0 ≤ _)⟩)
      dsimp only [Pt.U, Pt.locs, Pt.cells, Pt.slots] at X10 l10 y10 z10 st10 hQ10
      subst l10 y10 z10
      obtain ⟨rfl, N10q, e10⟩ := hQ10
      have N10 := Fr.app N1 N10q
      have hE : own_is mt wr = (1 : Int32) := hres.trans (by rw [own_exp, if_neg hc17_4, if_pos hc24_9])
      obtain ⟨cq11, kq11, q11a, q11b, q11c⟩ := isOf hZ e10 E
      obtain ⟨_, _, ⟨T11, L11, k11, n11⟩, -, X11, ⟨Lc11, hQ11, l11, y11, z11⟩, st11⟩ := X10.virtualBack hx (y := (⟨"com/example/vallet/vallet/TransactionType", "isPostedAsTransfer", "()Z"⟩ : MethodName)) (z := (⟨"com/example/vallet/vallet/TransactionType", "isPostedAsTransfer", "()Z"⟩ : MethodName)) hown (mvT hZ (hw _ (List.mem_of_getElem? (i := 29) rfl))) (mvT hZ (hw _ (List.mem_of_getElem? (i := 30) rfl))) (notFace_of_selects (args := #[]) (mvT hZ (hw _ (List.mem_of_getElem? (i := 32) rfl)))) (mvT hZ (hw _ (List.mem_of_getElem? (i := 32) rfl))) (mvT hZ (hw _ (List.mem_of_getElem? (i := 31) rfl))) (by decide) (backOf (W := 0) (rm3 l Z a0 hw [] r mt wa h0 n0 Z0 FM SA) hZ (hw _ (List.mem_of_getElem? (i := 33) rfl)) (hw _ (List.mem_of_getElem? (i := 6) rfl)) (by decide) (by decide)) q11a q11c (g := (mkF m 53 #[.val (.int p1), .val (.int ((p1 &&& (2147483647 : Int32)) % (9 : Int32))), .val (.ref r), .val (.int (1 : Int32)), .val (.int (own_is mt wr))] [(.ref r)])) rfl (by rw [hml]; rfl) (Steps.refl _) (argsL := []) (rest := []) (lenOf pd_1 rfl) rfl (by show 2 * 0 + _ ≤ _; exact Nat.le_of_eq rfl) (hb hby at_53) (fun _ _ => ⟨rfl, e10, (by decide : 0 + 0 ≤ _), (by decide : 0 + 0 ≤ _)⟩)
      dsimp only [Pt.U, Pt.locs, Pt.cells, Pt.slots] at X11 l11 y11 z11 st11 hQ11
      subst l11 y11 z11
      obtain ⟨rfl, N11q, e11⟩ := hQ11
      have N11 := Fr.app N10 N11q
      obtain ⟨fs, hr, hrun, hended, hW, hsame⟩ := X11.leave (v := some (.int (1 : Int32))) (fun h => by rw [Bd.returns] at h; cases h)
      refine ⟨_, _, pre8 _ ?_, hrun, hended, _, _, rfl, ?_, ⟨_, rfl⟩, hW, hsame.mono (by decide) (by decide)⟩
      · show Steps p.tables e below (T7.setTop (mkF m 24 #[.val (.int p1), .val (.int ((p1 &&& (2147483647 : Int32)) % (9 : Int32))), .val (.ref r), .unset, .unset] [(.ref w7), (.ref r)])) _
        refine Jvm.RoadKit.acmp (g := (mkF m 24 #[.val (.int p1), .val (.int ((p1 &&& (2147483647 : Int32)) % (9 : Int32))), .val (.ref r), .unset, .unset] [(.ref w7), (.ref r)])) X7 hx rfl rfl rfl (pc0 := 24) (pc' := 27) (same := true) rfl (hb hby at_24) rfl (decide_eq_true (congrArg Value.ref hc24_9)) (by decide) (by decide) ?_
        show Steps p.tables e below (T7.setTop (mkF m 27 #[.val (.int p1), .val (.int ((p1 &&& (2147483647 : Int32)) % (9 : Int32))), .val (.ref r), .unset, .unset] [])) _
        refine XS.iconst X7.here hx rfl (hb hby at_27) ?_
        show Steps p.tables e below (T7.setTop (mkF m 28 #[.val (.int p1), .val (.int ((p1 &&& (2147483647 : Int32)) % (9 : Int32))), .val (.ref r), .unset, .unset] [(.int (1 : Int32))])) _
        refine XS.goto X7.here hx rfl (pc0 := 28) (pc' := 32) rfl (hb hby at_28) (by decide) (by decide) ?_
        show Steps p.tables e below (T7.setTop (mkF m 32 #[.val (.int p1), .val (.int ((p1 &&& (2147483647 : Int32)) % (9 : Int32))), .val (.ref r), .unset, .unset] [(.int (1 : Int32))])) _
        refine XS.istoreN X7.here hx rfl (hb hby at_32) rfl (l' := #[.val (.int p1), .val (.int ((p1 &&& (2147483647 : Int32)) % (9 : Int32))), .val (.ref r), .val (.int (1 : Int32)), .unset]) rfl ?_
        show Steps p.tables e below (T7.setTop (mkF m 33 #[.val (.int p1), .val (.int ((p1 &&& (2147483647 : Int32)) % (9 : Int32))), .val (.ref r), .val (.int (1 : Int32)), .unset] [])) _
        refine XS.aloadN X7.here hx rfl (hb hby at_33) rfl rfl ?_
        show Steps p.tables e below (T7.setTop (mkF m 34 #[.val (.int p1), .val (.int ((p1 &&& (2147483647 : Int32)) % (9 : Int32))), .val (.ref r), .val (.int (1 : Int32)), .unset] [(.ref r)])) _
        refine st10.trans ?_
        show Steps p.tables e below (T10.setTop (mkF m 37 #[.val (.int p1), .val (.int ((p1 &&& (2147483647 : Int32)) % (9 : Int32))), .val (.ref r), .val (.int (1 : Int32)), .unset] [(.int (own_is mt wr))])) _
        refine XS.istore X10.here hx rfl (hb hby at_37) rfl (l' := #[.val (.int p1), .val (.int ((p1 &&& (2147483647 : Int32)) % (9 : Int32))), .val (.ref r), .val (.int (1 : Int32)), .val (.int (own_is mt wr))]) rfl ?_
        show Steps p.tables e below (T10.setTop (mkF m 39 #[.val (.int p1), .val (.int ((p1 &&& (2147483647 : Int32)) % (9 : Int32))), .val (.ref r), .val (.int (1 : Int32)), .val (.int (own_is mt wr))] [])) _
        refine XS.iload X10.here hx rfl (hb hby at_39) rfl ?_
        show Steps p.tables e below (T10.setTop (mkF m 41 #[.val (.int p1), .val (.int ((p1 &&& (2147483647 : Int32)) % (9 : Int32))), .val (.ref r), .val (.int (1 : Int32)), .val (.int (own_is mt wr))] [(.int (own_is mt wr))])) _
        refine XS.iloadN X10.here hx rfl (hb hby at_41) rfl ?_
        show Steps p.tables e below (T10.setTop (mkF m 42 #[.val (.int p1), .val (.int ((p1 &&& (2147483647 : Int32)) % (9 : Int32))), .val (.ref r), .val (.int (1 : Int32)), .val (.int (own_is mt wr))] [(.int (1 : Int32)), (.int (own_is mt wr))])) _
        refine XS.icmpYes X10.here hx rfl (pc0 := 42) (pc' := 47) rfl (hb hby at_42) rfl (teq hE).1 (by decide) (by decide) ?_
        show Steps p.tables e below (T10.setTop (mkF m 47 #[.val (.int p1), .val (.int ((p1 &&& (2147483647 : Int32)) % (9 : Int32))), .val (.ref r), .val (.int (1 : Int32)), .val (.int (own_is mt wr))] [])) _
        refine XS.iload X10.here hx rfl (hb hby at_47) rfl ?_
        show Steps p.tables e below (T10.setTop (mkF m 49 #[.val (.int p1), .val (.int ((p1 &&& (2147483647 : Int32)) % (9 : Int32))), .val (.ref r), .val (.int (1 : Int32)), .val (.int (own_is mt wr))] [(.int (own_is mt wr))])) _
        refine XS.ifNo X10.here hx rfl (hb hby at_49) rfl ((if0 _ _).trans (feq (fun q => absurd (hE.symm.trans q) (by decide))).1) ?_
        show Steps p.tables e below (T10.setTop (mkF m 52 #[.val (.int p1), .val (.int ((p1 &&& (2147483647 : Int32)) % (9 : Int32))), .val (.ref r), .val (.int (1 : Int32)), .val (.int (own_is mt wr))] [])) _
        refine XS.aloadN X10.here hx rfl (hb hby at_52) rfl rfl ?_
        show Steps p.tables e below (T10.setTop (mkF m 53 #[.val (.int p1), .val (.int ((p1 &&& (2147483647 : Int32)) % (9 : Int32))), .val (.ref r), .val (.int (1 : Int32)), .val (.int (own_is mt wr))] [(.ref r)])) _
        refine st11.trans ?_
        show Steps p.tables e below (T11.setTop (mkF m 56 #[.val (.int p1), .val (.int ((p1 &&& (2147483647 : Int32)) % (9 : Int32))), .val (.ref r), .val (.int (1 : Int32)), .val (.int (own_is mt wr))] [(.int (own_is mt wa))])) _
        refine XS.ifYes X11.here hx rfl (pc0 := 56) (pc' := 61) rfl (hb hby at_56) rfl ((if0 _ _).trans (teq (hpo hE)).1) (by decide) (by decide) ?_
        show Steps p.tables e below (T11.setTop (mkF m 61 #[.val (.int p1), .val (.int ((p1 &&& (2147483647 : Int32)) % (9 : Int32))), .val (.ref r), .val (.int (1 : Int32)), .val (.int (own_is mt wr))] [])) _
        refine XS.iconst X11.here hx rfl (hb hby at_61) ?_
        show Steps p.tables e below (T11.setTop (mkF m 62 #[.val (.int p1), .val (.int ((p1 &&& (2147483647 : Int32)) % (9 : Int32))), .val (.ref r), .val (.int (1 : Int32)), .val (.int (own_is mt wr))] [(.int (1 : Int32))])) _
        exact retN X11 hx (t := .boolean) Bd.returns (by simp) (hb hby at_62) hr
      · show _ = some (Value.int 1) ∧ Fr n0 _
        exact ⟨rfl, N11⟩
    · obtain ⟨cq12, kq12, q12a, q12b, q12c⟩ := isOf hZ e7 E
      obtain ⟨_, _, ⟨T12, L12, k12, n12⟩, -, X12, ⟨Lc12, hQ12, l12, y12, z12⟩, st12⟩ := X7.virtualBack hx (y := (⟨"com/example/vallet/vallet/TransactionType", "isReversal", "()Z"⟩ : MethodName)) (z := (⟨"com/example/vallet/vallet/TransactionType", "isReversal", "()Z"⟩ : MethodName)) hown (mvT hZ (hw _ (List.mem_of_getElem? (i := 12) rfl))) (mvT hZ (hw _ (List.mem_of_getElem? (i := 13) rfl))) (notFace_of_selects (args := #[]) (mvT hZ (hw _ (List.mem_of_getElem? (i := 15) rfl)))) (mvT hZ (hw _ (List.mem_of_getElem? (i := 15) rfl))) (mvT hZ (hw _ (List.mem_of_getElem? (i := 14) rfl))) (by decide) (backOf (W := 0) (rm2 l Z a0 hw [] r mt wr h0 n0 Z0 FM SR) hZ (hw _ (List.mem_of_getElem? (i := 16) rfl)) (hw _ (List.mem_of_getElem? (i := 6) rfl)) (by decide) (by decide)) q12a q12c (g := (mkF m 34 #[.val (.int p1), .val (.int ((p1 &&& (2147483647 : Int32)) % (9 : Int32))), .val (.ref r), .val (.int (0 : Int32)), .unset] [(.ref r)])) rfl (by rw [hml]; rfl) (Steps.refl _) (argsL := []) (rest := []) (lenOf pd_1 rfl) rfl (by show 2 * 0 + _ ≤ _; exact Nat.le_of_eq rfl) (hb hby at_34) (fun _ _ => ⟨rfl, e7, (by decide : 0 + 0 ≤ _), (by decide : 0 + 0 ≤ _)⟩)
      dsimp only [Pt.U, Pt.locs, Pt.cells, Pt.slots] at X12 l12 y12 z12 st12 hQ12
      subst l12 y12 z12
      obtain ⟨rfl, N12q, e12⟩ := hQ12
      have N12 := Fr.app N1 N12q
      have hE : own_is mt wr = (0 : Int32) := hres.trans (by rw [own_exp, if_neg hc17_4, if_neg hc24_9])
      obtain ⟨fs, hr, hrun, hended, hW, hsame⟩ := X12.leave (v := some (.int (1 : Int32))) (fun h => by rw [Bd.returns] at h; cases h)
      refine ⟨_, _, pre8 _ ?_, hrun, hended, _, _, rfl, ?_, ⟨_, rfl⟩, hW, hsame.mono (by decide) (by decide)⟩
      · show Steps p.tables e below (T7.setTop (mkF m 24 #[.val (.int p1), .val (.int ((p1 &&& (2147483647 : Int32)) % (9 : Int32))), .val (.ref r), .unset, .unset] [(.ref w7), (.ref r)])) _
        refine Jvm.RoadKit.acmp (g := (mkF m 24 #[.val (.int p1), .val (.int ((p1 &&& (2147483647 : Int32)) % (9 : Int32))), .val (.ref r), .unset, .unset] [(.ref w7), (.ref r)])) X7 hx rfl rfl rfl (pc0 := 24) (pc' := 31) (same := false) rfl (hb hby at_24) rfl (decide_eq_false fun q => hc24_9 (Value.ref.inj q)) (by decide) (by decide) ?_
        show Steps p.tables e below (T7.setTop (mkF m 31 #[.val (.int p1), .val (.int ((p1 &&& (2147483647 : Int32)) % (9 : Int32))), .val (.ref r), .unset, .unset] [])) _
        refine XS.iconst X7.here hx rfl (hb hby at_31) ?_
        show Steps p.tables e below (T7.setTop (mkF m 32 #[.val (.int p1), .val (.int ((p1 &&& (2147483647 : Int32)) % (9 : Int32))), .val (.ref r), .unset, .unset] [(.int (0 : Int32))])) _
        refine XS.istoreN X7.here hx rfl (hb hby at_32) rfl (l' := #[.val (.int p1), .val (.int ((p1 &&& (2147483647 : Int32)) % (9 : Int32))), .val (.ref r), .val (.int (0 : Int32)), .unset]) rfl ?_
        show Steps p.tables e below (T7.setTop (mkF m 33 #[.val (.int p1), .val (.int ((p1 &&& (2147483647 : Int32)) % (9 : Int32))), .val (.ref r), .val (.int (0 : Int32)), .unset] [])) _
        refine XS.aloadN X7.here hx rfl (hb hby at_33) rfl rfl ?_
        show Steps p.tables e below (T7.setTop (mkF m 34 #[.val (.int p1), .val (.int ((p1 &&& (2147483647 : Int32)) % (9 : Int32))), .val (.ref r), .val (.int (0 : Int32)), .unset] [(.ref r)])) _
        refine st12.trans ?_
        show Steps p.tables e below (T12.setTop (mkF m 37 #[.val (.int p1), .val (.int ((p1 &&& (2147483647 : Int32)) % (9 : Int32))), .val (.ref r), .val (.int (0 : Int32)), .unset] [(.int (own_is mt wr))])) _
        refine XS.istore X12.here hx rfl (hb hby at_37) rfl (l' := #[.val (.int p1), .val (.int ((p1 &&& (2147483647 : Int32)) % (9 : Int32))), .val (.ref r), .val (.int (0 : Int32)), .val (.int (own_is mt wr))]) rfl ?_
        show Steps p.tables e below (T12.setTop (mkF m 39 #[.val (.int p1), .val (.int ((p1 &&& (2147483647 : Int32)) % (9 : Int32))), .val (.ref r), .val (.int (0 : Int32)), .val (.int (own_is mt wr))] [])) _
        refine XS.iload X12.here hx rfl (hb hby at_39) rfl ?_
        show Steps p.tables e below (T12.setTop (mkF m 41 #[.val (.int p1), .val (.int ((p1 &&& (2147483647 : Int32)) % (9 : Int32))), .val (.ref r), .val (.int (0 : Int32)), .val (.int (own_is mt wr))] [(.int (own_is mt wr))])) _
        refine XS.iloadN X12.here hx rfl (hb hby at_41) rfl ?_
        show Steps p.tables e below (T12.setTop (mkF m 42 #[.val (.int p1), .val (.int ((p1 &&& (2147483647 : Int32)) % (9 : Int32))), .val (.ref r), .val (.int (0 : Int32)), .val (.int (own_is mt wr))] [(.int (0 : Int32)), (.int (own_is mt wr))])) _
        refine XS.icmpYes X12.here hx rfl (pc0 := 42) (pc' := 47) rfl (hb hby at_42) rfl (teq hE).1 (by decide) (by decide) ?_
        show Steps p.tables e below (T12.setTop (mkF m 47 #[.val (.int p1), .val (.int ((p1 &&& (2147483647 : Int32)) % (9 : Int32))), .val (.ref r), .val (.int (0 : Int32)), .val (.int (own_is mt wr))] [])) _
        refine XS.iload X12.here hx rfl (hb hby at_47) rfl ?_
        show Steps p.tables e below (T12.setTop (mkF m 49 #[.val (.int p1), .val (.int ((p1 &&& (2147483647 : Int32)) % (9 : Int32))), .val (.ref r), .val (.int (0 : Int32)), .val (.int (own_is mt wr))] [(.int (own_is mt wr))])) _
        refine XS.ifYes X12.here hx rfl (pc0 := 49) (pc' := 61) rfl (hb hby at_49) rfl ((if0 _ _).trans (teq hE).1) (by decide) (by decide) ?_
        show Steps p.tables e below (T12.setTop (mkF m 61 #[.val (.int p1), .val (.int ((p1 &&& (2147483647 : Int32)) % (9 : Int32))), .val (.ref r), .val (.int (0 : Int32)), .val (.int (own_is mt wr))] [])) _
        refine XS.iconst X12.here hx rfl (hb hby at_61) ?_
        show Steps p.tables e below (T12.setTop (mkF m 62 #[.val (.int p1), .val (.int ((p1 &&& (2147483647 : Int32)) % (9 : Int32))), .val (.ref r), .val (.int (0 : Int32)), .val (.int (own_is mt wr))] [(.int (1 : Int32))])) _
        exact retN X12 hx (t := .boolean) Bd.returns (by simp) (hb hby at_62) hr
      · show _ = some (Value.int 1) ∧ Fr n0 _
        exact ⟨rfl, N12⟩
set_option maxRecDepth 65536 in
set_option maxHeartbeats 40000000 in
theorem comes_1 {Post : Tables → Env → Array Value → State → Outcome → State → Prop} (hpost : ∀ tb e args s v u, (limb_1_1.after args s (.returned v) u = true ∧ limb_1_2.after args s (.returned v) u = true ∧ True) → FrameEnd s (.returned v) u (Jvm.fieldLocs frame_1_writes args s ++ Jvm.arrayLocs frame_1_arrays args s ++ Jvm.staticLocs frame_1_statics s) 0 0 → Post tb e args s (.returned v) u) :
    ArmFor flags0 classFile x code maxLocals ret World_1 tables_1 room_1 Calls_1 rest_1 Pre_1 Post := by
  intro l hfl _ _ p e ha hc hk s m args below hf hA hF happ hP
  obtain ⟨hcalls, hrest, hpre⟩ := hP
  obtain ⟨-, -, -, hnamed, -, -, -, hat⟩ := (Spec.applies_iff hf).mp happ
  obtain ⟨hg, hn⟩ := and_e (Cond.before_iff.mp (show (Jvm.Cond.and given_1 narrow_1).before args s = true from hpre))
  obtain ⟨gc, g0⟩ := and_e hg
  obtain ⟨w0, rfl⟩ : ∃ w0 : Value, args = #[w0] := by
    have hs : args.size = 1 := by simpa [Cond.value, given_1] using gc
    obtain ⟨L⟩ := args
    match L, hs with
    | [w0], _ => exact ⟨w0, rfl⟩
  have hw := fun d (hd : d ∈ tables_1) => atoms_spec (ws := Jvm.Cond.code x code maxLocals ret :: tables_1) hat d (List.mem_cons_of_mem _ hd)
  have hfit : Fit s := fun {y c} hc i hi => by
    obtain ⟨ha, rfl⟩ := Array.getElem?_eq_some_iff.mp hc
    have q := List.all_eq_true.mp ((Array.all_eq_true_iff_forall_mem.mp hF) _ (Array.getElem_mem ha)) i (List.mem_range.mpr hi)
    simpa [Array.getElem?_eq_getElem hi] using q
  obtain ⟨i0, ei0⟩ := is_v g0
  obtain rfl : w0 = (.int i0) := Option.some.inj ei0
  obtain ⟨n1a, n1b⟩ := and_e hn
  obtain ⟨n2a, n2b⟩ := and_e n1b
  obtain ⟨n3a, n3b⟩ := and_e n2b
  obtain ⟨n4a, n4b⟩ := and_e n3b
  obtain ⟨n5a, n5b⟩ := and_e n4b
  obtain ⟨n6a, n6b⟩ := and_e n5b
  obtain ⟨n7a, n7b⟩ := and_e n6b
  obtain ⟨n8a, n8b⟩ := and_e n7b
  obtain ⟨n9a, n9b⟩ := and_e n8b
  obtain ⟨n10a, n10b⟩ := and_e n9b
  obtain ⟨n11a, n11b⟩ := and_e n10b
  obtain ⟨n12a, n12b⟩ := and_e n11b
  obtain ⟨n13a, n13b⟩ := and_e n12b
  obtain ⟨n14a, n14b⟩ := and_e n13b
  obtain ⟨n15a, n15b⟩ := and_e n14b
  obtain ⟨n16a, n16b⟩ := and_e n15b
  obtain ⟨n17a, n17b⟩ := and_e n16b
  obtain ⟨n18a, n18b⟩ := and_e n17b
  obtain ⟨n19a, n19b⟩ := and_e n18b
  obtain ⟨n20a, n20b⟩ := and_e n19b
  obtain ⟨n21a, n21b⟩ := and_e n20b
  obtain ⟨n22a, n22b⟩ := and_e n21b
  obtain ⟨n23a, n23b⟩ := and_e n22b
  obtain ⟨n24a, n24b⟩ := and_e n23b
  obtain ⟨n25a, n25b⟩ := and_e n24b
  obtain ⟨n26a, n26b⟩ := and_e n25b
  obtain ⟨n27a, n27b⟩ := and_e n26b
  obtain ⟨n28a, n28b⟩ := and_e n27b
  obtain ⟨n29a, n29b⟩ := and_e n28b
  obtain ⟨n30a, n30b⟩ := and_e n29b
  obtain ⟨n31a, n31b⟩ := and_e n30b
  obtain ⟨n32a, n32b⟩ := and_e n31b
  obtain ⟨w_BILLPAY, v_BILLPAY⟩ := exa_v n1a
  have S_BILLPAY : Sta s s.heap "com/example/vallet/vallet/TransactionType" "BILLPAY" "Lcom/example/vallet/vallet/TransactionType;" (.ref w_BILLPAY) := Sta.start v_BILLPAY (Or.inr ⟨(hw _ (List.mem_of_getElem? (i := 6) rfl)), (hw _ (List.mem_of_getElem? (i := 7) rfl))⟩)
  have E_BILLPAY : Exa s s.heap w_BILLPAY "com/example/vallet/vallet/TransactionType" := Exa.start v_BILLPAY n1a
  obtain ⟨w_ADJUSTMENT, v_ADJUSTMENT⟩ := exa_v n2a
  have S_ADJUSTMENT : Sta s s.heap "com/example/vallet/vallet/TransactionType" "ADJUSTMENT" "Lcom/example/vallet/vallet/TransactionType;" (.ref w_ADJUSTMENT) := Sta.start v_ADJUSTMENT (Or.inr ⟨(hw _ (List.mem_of_getElem? (i := 6) rfl)), (hw _ (List.mem_of_getElem? (i := 9) rfl))⟩)
  have E_ADJUSTMENT : Exa s s.heap w_ADJUSTMENT "com/example/vallet/vallet/TransactionType" := Exa.start v_ADJUSTMENT n2a
  obtain ⟨w_REVERSAL, v_REVERSAL⟩ := exa_v n5a
  have S_REVERSAL : Sta s s.heap "com/example/vallet/vallet/TransactionType" "REVERSAL" "Lcom/example/vallet/vallet/TransactionType;" (.ref w_REVERSAL) := Sta.start v_REVERSAL (Or.inr ⟨(hw _ (List.mem_of_getElem? (i := 6) rfl)), (hw _ (List.mem_of_getElem? (i := 11) rfl))⟩)
  have E_REVERSAL : Exa s s.heap w_REVERSAL "com/example/vallet/vallet/TransactionType" := Exa.start v_REVERSAL n5a
  obtain ⟨w_AS_TRANSFER, v_AS_TRANSFER⟩ := exa_v n7a
  have S_AS_TRANSFER : Sta s s.heap "com/example/vallet/vallet/TransactionType$Made" "AS_TRANSFER" "Lcom/example/vallet/vallet/TransactionType$Made;" (.ref w_AS_TRANSFER) := Sta.start v_AS_TRANSFER (Or.inr ⟨(hw _ (List.mem_of_getElem? (i := 19) rfl)), (hw _ (List.mem_of_getElem? (i := 20) rfl))⟩)
  have E_AS_TRANSFER : Exa s s.heap w_AS_TRANSFER "com/example/vallet/vallet/TransactionType$Made" := Exa.start v_AS_TRANSFER n7a
  obtain ⟨w_AS_REVERSAL, v_AS_REVERSAL⟩ := exa_v n9a
  have S_AS_REVERSAL : Sta s s.heap "com/example/vallet/vallet/TransactionType$Made" "AS_REVERSAL" "Lcom/example/vallet/vallet/TransactionType$Made;" (.ref w_AS_REVERSAL) := Sta.start v_AS_REVERSAL (Or.inr ⟨(hw _ (List.mem_of_getElem? (i := 19) rfl)), (hw _ (List.mem_of_getElem? (i := 22) rfl))⟩)
  have E_AS_REVERSAL : Exa s s.heap w_AS_REVERSAL "com/example/vallet/vallet/TransactionType$Made" := Exa.start v_AS_REVERSAL n9a
  obtain ⟨w_TRANSFER, v_TRANSFER⟩ := exa_v n12a
  have S_TRANSFER : Sta s s.heap "com/example/vallet/vallet/TransactionType" "TRANSFER" "Lcom/example/vallet/vallet/TransactionType;" (.ref w_TRANSFER) := Sta.start v_TRANSFER (Or.inr ⟨(hw _ (List.mem_of_getElem? (i := 6) rfl)), (hw _ (List.mem_of_getElem? (i := 24) rfl))⟩)
  have E_TRANSFER : Exa s s.heap w_TRANSFER "com/example/vallet/vallet/TransactionType" := Exa.start v_TRANSFER n12a
  obtain ⟨w_DISBURSEMENT, v_DISBURSEMENT⟩ := exa_v n15a
  have S_DISBURSEMENT : Sta s s.heap "com/example/vallet/vallet/TransactionType" "DISBURSEMENT" "Lcom/example/vallet/vallet/TransactionType;" (.ref w_DISBURSEMENT) := Sta.start v_DISBURSEMENT (Or.inr ⟨(hw _ (List.mem_of_getElem? (i := 6) rfl)), (hw _ (List.mem_of_getElem? (i := 26) rfl))⟩)
  have E_DISBURSEMENT : Exa s s.heap w_DISBURSEMENT "com/example/vallet/vallet/TransactionType" := Exa.start v_DISBURSEMENT n15a
  obtain ⟨w_DEPOSIT, v_DEPOSIT⟩ := exa_v n18a
  have S_DEPOSIT : Sta s s.heap "com/example/vallet/vallet/TransactionType" "DEPOSIT" "Lcom/example/vallet/vallet/TransactionType;" (.ref w_DEPOSIT) := Sta.start v_DEPOSIT (Or.inr ⟨(hw _ (List.mem_of_getElem? (i := 6) rfl)), (hw _ (List.mem_of_getElem? (i := 28) rfl))⟩)
  have E_DEPOSIT : Exa s s.heap w_DEPOSIT "com/example/vallet/vallet/TransactionType" := Exa.start v_DEPOSIT n18a
  obtain ⟨w_MERCHANTPAY, v_MERCHANTPAY⟩ := exa_v n22a
  have S_MERCHANTPAY : Sta s s.heap "com/example/vallet/vallet/TransactionType" "MERCHANTPAY" "Lcom/example/vallet/vallet/TransactionType;" (.ref w_MERCHANTPAY) := Sta.start v_MERCHANTPAY (Or.inr ⟨(hw _ (List.mem_of_getElem? (i := 6) rfl)), (hw _ (List.mem_of_getElem? (i := 36) rfl))⟩)
  have E_MERCHANTPAY : Exa s s.heap w_MERCHANTPAY "com/example/vallet/vallet/TransactionType" := Exa.start v_MERCHANTPAY n22a
  obtain ⟨w_WITHDRAWAL, v_WITHDRAWAL⟩ := exa_v n25a
  have S_WITHDRAWAL : Sta s s.heap "com/example/vallet/vallet/TransactionType" "WITHDRAWAL" "Lcom/example/vallet/vallet/TransactionType;" (.ref w_WITHDRAWAL) := Sta.start v_WITHDRAWAL (Or.inr ⟨(hw _ (List.mem_of_getElem? (i := 6) rfl)), (hw _ (List.mem_of_getElem? (i := 38) rfl))⟩)
  have E_WITHDRAWAL : Exa s s.heap w_WITHDRAWAL "com/example/vallet/vallet/TransactionType" := Exa.start v_WITHDRAWAL n25a
  obtain ⟨w_INTTRANSFER, v_INTTRANSFER⟩ := exa_v n29a
  have S_INTTRANSFER : Sta s s.heap "com/example/vallet/vallet/TransactionType" "INTTRANSFER" "Lcom/example/vallet/vallet/TransactionType;" (.ref w_INTTRANSFER) := Sta.start v_INTTRANSFER (Or.inr ⟨(hw _ (List.mem_of_getElem? (i := 6) rfl)), (hw _ (List.mem_of_getElem? (i := 40) rfl))⟩)
  have E_INTTRANSFER : Exa s s.heap w_INTTRANSFER "com/example/vallet/vallet/TransactionType" := Exa.start v_INTTRANSFER n29a
  obtain ⟨w_NOT_OFFERED, v_NOT_OFFERED⟩ := exa_v n31a
  have S_NOT_OFFERED : Sta s s.heap "com/example/vallet/vallet/TransactionType$Made" "NOT_OFFERED" "Lcom/example/vallet/vallet/TransactionType$Made;" (.ref w_NOT_OFFERED) := Sta.start v_NOT_OFFERED (Or.inr ⟨(hw _ (List.mem_of_getElem? (i := 19) rfl)), (hw _ (List.mem_of_getElem? (i := 41) rfl))⟩)
  have E_NOT_OFFERED : Exa s s.heap w_NOT_OFFERED "com/example/vallet/vallet/TransactionType$Made" := Exa.start v_NOT_OFFERED n31a
  have F_ordinal_BILLPAY : Fld s s.heap w_BILLPAY "java/lang/Enum" "ordinal" "I" (.int (0 : Int32)) := own_fld v_BILLPAY (own_eqI n3a)
  have F_ordinal_ADJUSTMENT : Fld s s.heap w_ADJUSTMENT "java/lang/Enum" "ordinal" "I" (.int (6 : Int32)) := own_fld v_ADJUSTMENT (own_eqI n4a)
  have F_ordinal_REVERSAL : Fld s s.heap w_REVERSAL "java/lang/Enum" "ordinal" "I" (.int (7 : Int32)) := own_fld v_REVERSAL (own_eqI n6a)
  have F_made_BILLPAY : Fld s s.heap w_BILLPAY "com/example/vallet/vallet/TransactionType" "made" "Lcom/example/vallet/vallet/TransactionType$Made;" (.ref w_AS_TRANSFER) := own_fld v_BILLPAY (own_eqR n8a v_AS_TRANSFER)
  have F_ordinal_AS_TRANSFER : Fld s s.heap w_AS_TRANSFER "java/lang/Enum" "ordinal" "I" (.int (0 : Int32)) := own_fld v_AS_TRANSFER (own_eqI n10a)
  have F_ordinal_AS_REVERSAL : Fld s s.heap w_AS_REVERSAL "java/lang/Enum" "ordinal" "I" (.int (1 : Int32)) := own_fld v_AS_REVERSAL (own_eqI n11a)
  have F_ordinal_TRANSFER : Fld s s.heap w_TRANSFER "java/lang/Enum" "ordinal" "I" (.int (3 : Int32)) := own_fld v_TRANSFER (own_eqI n13a)
  have F_made_TRANSFER : Fld s s.heap w_TRANSFER "com/example/vallet/vallet/TransactionType" "made" "Lcom/example/vallet/vallet/TransactionType$Made;" (.ref w_AS_TRANSFER) := own_fld v_TRANSFER (own_eqR n14a v_AS_TRANSFER)
  have F_ordinal_DISBURSEMENT : Fld s s.heap w_DISBURSEMENT "java/lang/Enum" "ordinal" "I" (.int (2 : Int32)) := own_fld v_DISBURSEMENT (own_eqI n16a)
  have F_made_DISBURSEMENT : Fld s s.heap w_DISBURSEMENT "com/example/vallet/vallet/TransactionType" "made" "Lcom/example/vallet/vallet/TransactionType$Made;" (.ref w_AS_TRANSFER) := own_fld v_DISBURSEMENT (own_eqR n17a v_AS_TRANSFER)
  have F_ordinal_DEPOSIT : Fld s s.heap w_DEPOSIT "java/lang/Enum" "ordinal" "I" (.int (1 : Int32)) := own_fld v_DEPOSIT (own_eqI n19a)
  have F_made_DEPOSIT : Fld s s.heap w_DEPOSIT "com/example/vallet/vallet/TransactionType" "made" "Lcom/example/vallet/vallet/TransactionType$Made;" (.ref w_AS_TRANSFER) := own_fld v_DEPOSIT (own_eqR n20a v_AS_TRANSFER)
  have F_made_REVERSAL : Fld s s.heap w_REVERSAL "com/example/vallet/vallet/TransactionType" "made" "Lcom/example/vallet/vallet/TransactionType$Made;" (.ref w_AS_REVERSAL) := own_fld v_REVERSAL (own_eqR n21a v_AS_REVERSAL)
  have F_ordinal_MERCHANTPAY : Fld s s.heap w_MERCHANTPAY "java/lang/Enum" "ordinal" "I" (.int (4 : Int32)) := own_fld v_MERCHANTPAY (own_eqI n23a)
  have F_made_MERCHANTPAY : Fld s s.heap w_MERCHANTPAY "com/example/vallet/vallet/TransactionType" "made" "Lcom/example/vallet/vallet/TransactionType$Made;" (.ref w_AS_TRANSFER) := own_fld v_MERCHANTPAY (own_eqR n24a v_AS_TRANSFER)
  have F_ordinal_WITHDRAWAL : Fld s s.heap w_WITHDRAWAL "java/lang/Enum" "ordinal" "I" (.int (8 : Int32)) := own_fld v_WITHDRAWAL (own_eqI n26a)
  have F_made_WITHDRAWAL : Fld s s.heap w_WITHDRAWAL "com/example/vallet/vallet/TransactionType" "made" "Lcom/example/vallet/vallet/TransactionType$Made;" (.ref w_AS_TRANSFER) := own_fld v_WITHDRAWAL (own_eqR n27a v_AS_TRANSFER)
  have F_made_ADJUSTMENT : Fld s s.heap w_ADJUSTMENT "com/example/vallet/vallet/TransactionType" "made" "Lcom/example/vallet/vallet/TransactionType$Made;" (.ref w_AS_REVERSAL) := own_fld v_ADJUSTMENT (own_eqR n28a v_AS_REVERSAL)
  have F_ordinal_INTTRANSFER : Fld s s.heap w_INTTRANSFER "java/lang/Enum" "ordinal" "I" (.int (5 : Int32)) := own_fld v_INTTRANSFER (own_eqI n30a)
  have F_made_INTTRANSFER : Fld s s.heap w_INTTRANSFER "com/example/vallet/vallet/TransactionType" "made" "Lcom/example/vallet/vallet/TransactionType$Made;" (.ref w_NOT_OFFERED) := own_fld v_INTTRANSFER (own_eqR n32a v_NOT_OFFERED)
  have F_ordinal_NOT_OFFERED : Fld s s.heap w_NOT_OFFERED "java/lang/Enum" "ordinal" "I" (.int (2 : Int32)) := own_fld v_NOT_OFFERED (own_eqI n32b)
  obtain ⟨r, mt, hpk, E, FM, hres, hpo⟩ : ∃ r mt : Addr, own_pick ((i0 &&& (2147483647 : Int32)) % (9 : Int32)) w_BILLPAY w_DEPOSIT w_DISBURSEMENT w_TRANSFER w_MERCHANTPAY w_INTTRANSFER w_ADJUSTMENT w_REVERSAL w_WITHDRAWAL = r ∧ Exa s s.heap r "com/example/vallet/vallet/TransactionType" ∧ Fld s s.heap r "com/example/vallet/vallet/TransactionType" "made" "Lcom/example/vallet/vallet/TransactionType$Made;" (.ref mt) ∧ own_is mt w_AS_REVERSAL = own_exp r w_ADJUSTMENT w_REVERSAL ∧ (own_is mt w_AS_REVERSAL = 1 → own_is mt w_AS_TRANSFER = 0) := by
    rcases own_mod9 i0 with h | h | h | h | h | h | h | h | h <;> rw [h]
    · exact ⟨w_BILLPAY, w_AS_TRANSFER, rfl, E_BILLPAY, F_made_BILLPAY, by rw [own_is, own_exp, if_neg (F_ordinal_AS_TRANSFER.ne F_ordinal_AS_REVERSAL (fun h => absurd (Value.int.inj h) (by decide))), if_neg (F_ordinal_BILLPAY.ne F_ordinal_ADJUSTMENT (fun h => absurd (Value.int.inj h) (by decide))), if_neg (F_ordinal_BILLPAY.ne F_ordinal_REVERSAL (fun h => absurd (Value.int.inj h) (by decide)))], fun q => absurd ((if_neg (F_ordinal_AS_TRANSFER.ne F_ordinal_AS_REVERSAL (fun h => absurd (Value.int.inj h) (by decide))) : own_is w_AS_TRANSFER w_AS_REVERSAL = 0).symm.trans q) (by decide)⟩
    · exact ⟨w_DEPOSIT, w_AS_TRANSFER, rfl, E_DEPOSIT, F_made_DEPOSIT, by rw [own_is, own_exp, if_neg (F_ordinal_AS_TRANSFER.ne F_ordinal_AS_REVERSAL (fun h => absurd (Value.int.inj h) (by decide))), if_neg (F_ordinal_DEPOSIT.ne F_ordinal_ADJUSTMENT (fun h => absurd (Value.int.inj h) (by decide))), if_neg (F_ordinal_DEPOSIT.ne F_ordinal_REVERSAL (fun h => absurd (Value.int.inj h) (by decide)))], fun q => absurd ((if_neg (F_ordinal_AS_TRANSFER.ne F_ordinal_AS_REVERSAL (fun h => absurd (Value.int.inj h) (by decide))) : own_is w_AS_TRANSFER w_AS_REVERSAL = 0).symm.trans q) (by decide)⟩
    · exact ⟨w_DISBURSEMENT, w_AS_TRANSFER, rfl, E_DISBURSEMENT, F_made_DISBURSEMENT, by rw [own_is, own_exp, if_neg (F_ordinal_AS_TRANSFER.ne F_ordinal_AS_REVERSAL (fun h => absurd (Value.int.inj h) (by decide))), if_neg (F_ordinal_DISBURSEMENT.ne F_ordinal_ADJUSTMENT (fun h => absurd (Value.int.inj h) (by decide))), if_neg (F_ordinal_DISBURSEMENT.ne F_ordinal_REVERSAL (fun h => absurd (Value.int.inj h) (by decide)))], fun q => absurd ((if_neg (F_ordinal_AS_TRANSFER.ne F_ordinal_AS_REVERSAL (fun h => absurd (Value.int.inj h) (by decide))) : own_is w_AS_TRANSFER w_AS_REVERSAL = 0).symm.trans q) (by decide)⟩
    · exact ⟨w_TRANSFER, w_AS_TRANSFER, rfl, E_TRANSFER, F_made_TRANSFER, by rw [own_is, own_exp, if_neg (F_ordinal_AS_TRANSFER.ne F_ordinal_AS_REVERSAL (fun h => absurd (Value.int.inj h) (by decide))), if_neg (F_ordinal_TRANSFER.ne F_ordinal_ADJUSTMENT (fun h => absurd (Value.int.inj h) (by decide))), if_neg (F_ordinal_TRANSFER.ne F_ordinal_REVERSAL (fun h => absurd (Value.int.inj h) (by decide)))], fun q => absurd ((if_neg (F_ordinal_AS_TRANSFER.ne F_ordinal_AS_REVERSAL (fun h => absurd (Value.int.inj h) (by decide))) : own_is w_AS_TRANSFER w_AS_REVERSAL = 0).symm.trans q) (by decide)⟩
    · exact ⟨w_MERCHANTPAY, w_AS_TRANSFER, rfl, E_MERCHANTPAY, F_made_MERCHANTPAY, by rw [own_is, own_exp, if_neg (F_ordinal_AS_TRANSFER.ne F_ordinal_AS_REVERSAL (fun h => absurd (Value.int.inj h) (by decide))), if_neg (F_ordinal_MERCHANTPAY.ne F_ordinal_ADJUSTMENT (fun h => absurd (Value.int.inj h) (by decide))), if_neg (F_ordinal_MERCHANTPAY.ne F_ordinal_REVERSAL (fun h => absurd (Value.int.inj h) (by decide)))], fun q => absurd ((if_neg (F_ordinal_AS_TRANSFER.ne F_ordinal_AS_REVERSAL (fun h => absurd (Value.int.inj h) (by decide))) : own_is w_AS_TRANSFER w_AS_REVERSAL = 0).symm.trans q) (by decide)⟩
    · exact ⟨w_INTTRANSFER, w_NOT_OFFERED, rfl, E_INTTRANSFER, F_made_INTTRANSFER, by rw [own_is, own_exp, if_neg (F_ordinal_NOT_OFFERED.ne F_ordinal_AS_REVERSAL (fun h => absurd (Value.int.inj h) (by decide))), if_neg (F_ordinal_INTTRANSFER.ne F_ordinal_ADJUSTMENT (fun h => absurd (Value.int.inj h) (by decide))), if_neg (F_ordinal_INTTRANSFER.ne F_ordinal_REVERSAL (fun h => absurd (Value.int.inj h) (by decide)))], fun q => absurd ((if_neg (F_ordinal_NOT_OFFERED.ne F_ordinal_AS_REVERSAL (fun h => absurd (Value.int.inj h) (by decide))) : own_is w_NOT_OFFERED w_AS_REVERSAL = 0).symm.trans q) (by decide)⟩
    · exact ⟨w_ADJUSTMENT, w_AS_REVERSAL, rfl, E_ADJUSTMENT, F_made_ADJUSTMENT, by rw [own_is, own_exp, if_pos rfl, if_pos rfl], fun _ => if_neg (F_ordinal_AS_REVERSAL.ne F_ordinal_AS_TRANSFER (fun h => absurd (Value.int.inj h) (by decide)))⟩
    · exact ⟨w_REVERSAL, w_AS_REVERSAL, rfl, E_REVERSAL, F_made_REVERSAL, by rw [own_is, own_exp, if_pos rfl, if_neg (F_ordinal_REVERSAL.ne F_ordinal_ADJUSTMENT (fun h => absurd (Value.int.inj h) (by decide))), if_pos rfl], fun _ => if_neg (F_ordinal_AS_REVERSAL.ne F_ordinal_AS_TRANSFER (fun h => absurd (Value.int.inj h) (by decide)))⟩
    · exact ⟨w_WITHDRAWAL, w_AS_TRANSFER, rfl, E_WITHDRAWAL, F_made_WITHDRAWAL, by rw [own_is, own_exp, if_neg (F_ordinal_AS_TRANSFER.ne F_ordinal_AS_REVERSAL (fun h => absurd (Value.int.inj h) (by decide))), if_neg (F_ordinal_WITHDRAWAL.ne F_ordinal_ADJUSTMENT (fun h => absurd (Value.int.inj h) (by decide))), if_neg (F_ordinal_WITHDRAWAL.ne F_ordinal_REVERSAL (fun h => absurd (Value.int.inj h) (by decide)))], fun q => absurd ((if_neg (F_ordinal_AS_TRANSFER.ne F_ordinal_AS_REVERSAL (fun h => absurd (Value.int.inj h) (by decide))) : own_is w_AS_TRANSFER w_AS_REVERSAL = 0).symm.trans q) (by decide)⟩
  obtain ⟨n, o, h1, h2, h3, _, L, rfl, ⟨rfl, N⟩, hq⟩ := rm0 l s _ hw tables_1 i0 w_BILLPAY w_DEPOSIT w_DISBURSEMENT w_TRANSFER w_MERCHANTPAY w_INTTRANSFER w_ADJUSTMENT w_REVERSAL w_WITHDRAWAL r mt w_AS_TRANSFER w_AS_REVERSAL s.heap s.heap.size (Nat.le_refl _) S_BILLPAY S_DEPOSIT S_DISBURSEMENT S_TRANSFER S_MERCHANTPAY S_INTTRANSFER S_ADJUSTMENT S_REVERSAL S_WITHDRAWAL S_AS_TRANSFER S_AS_REVERSAL hpk E FM hres hpo p e ha hc hk s m _ below hf ((Spec.applies_iff_loose hf).mp happ).1 ⟨rfl, State.Warmed39.refl s, rfl⟩ trivial
  refine ⟨n, _, h1, h2, h3, hpost _ _ _ _ _ _ ⟨Cond.after_iff.mpr rfl, Cond.after_iff.mpr (eq_i res_at (Term.int_eval (1)) rfl), trivial⟩ ⟨hq.1, hq.2.1, (hq.2.2.sift fun y hy => Or.inr (N y hy)).mono (by decide) (by decide)⟩⟩
theorem main_1_1 : Claimed_1_1 := comes_1 fun _ _ _ _ _ _ h hF => ⟨h.1, hF⟩
theorem main_1_2 : Claimed_1_2 := comes_1 fun _ _ _ _ _ _ h hF => ⟨h.2.1, hF⟩
end Jvm.Pilot.@@N@@
namespace Jvm.Pilot.@@N@@
open Jvm Jvm.ClassFile Sem Op Lib Jvm.Free Jvm.Stand Jvm.Pilot.@@N@@.Jvm.D
/-! MADE BY PROGRAM (witnessworld.py) out of the Statement's table words and the real class files: 13 classes; the members and pool entries that the words name. The judged class is class 1, her method 2. -/
namespace start1
open Jvm.ClassFile
def u (s : String) : CpInfo := .utf8 (stringToUtf16 s)
/-- a pool by its gaps: so many unusable entries, then the entry; so many at the end -/
def gap : Nat → List CpInfo → List CpInfo
  | 0, r => r
  | n + 1, r => .unusable :: gap n r
def poolList (es : List (Nat × CpInfo)) (last : Nat) : List CpInfo := es.foldr (fun e r => gap e.1 (e.2 :: r)) (gap last [])
def pool (es : List (Nat × CpInfo)) (last : Nat) : Array CpInfo := ⟨poolList es last⟩
def fileOf (pool : Array CpInfo) (this : Nat) (attrs : Array Attribute := #[]) (ms : Array MethodInfo := #[]) (fl : Nat := 33) (sup : Nat := 0) (ifs : Array Nat := #[]) (fds : Array FieldInfo := #[]) : ClassFile where
  minorVersion := 0
  majorVersion := 65
  constantPool := pool
  accessFlags := fl
  thisClass := this
  superClass := sup
  interfaces := ifs
  fields := fds
  methods := ms
  attributes := attrs
def plain (name : String) (sup : Option ClassId) : Class where
  name := name
  kind := .ordinary
  loader := none
  accessFlags := 33
  super := sup
  interfaces := #[]
  cf := none
  fields := #[]
  methods := #[]
  instanceTypes := #[]
  staticTypes := #[]
  resolved := #[]
  callSites := []
  init := .initialized
  statics := none
  mirror := none

def pool0 : Array CpInfo := pool [(5, u "<init>"), (0, u "()V"), (1, .class_ 10), (1, u "java/lang/Object")] 113

def k0m0 : Method := { name := "<init>", desc := "()V", sig := { parameters := [], returnType := none }, accessFlags := 1, code := none }
/-- java/lang/Object -/
def k0 : Class := { plain "java/lang/Object" none with
  accessFlags := 33
  interfaces := #[]
  cf := some (fileOf pool0 8 #[] #[{ accessFlags := 1, nameIndex := 5, descriptorIndex := 6, attributes := #[] }] 33 0 #[] #[])
  fields := #[]
  methods := #[k0m0]
  instanceTypes := #[]
  staticTypes := #[]
  resolved := Array.replicate 124 none
  statics := none }

def pool1 : Array CpInfo := pool [(2, .class_ 4), (1, u "java/lang/Object"), (0, u "<init>"), (0, u "()V"), (0, .fieldref 8 9), (0, .class_ 10), (0, .nameAndType 11 12), (0, u "com/example/vallet/vallet/TransactionType"), (0, u "BILLPAY"), (0, u "Lcom/example/vallet/vallet/TransactionType;"), (0, .fieldref 8 14), (0, .nameAndType 15 12), (0, u "DEPOSIT"), (0, .fieldref 8 17), (0, .nameAndType 18 12), (0, u "DISBURSEMENT"), (0, .fieldref 8 20), (0, .nameAndType 21 12), (0, u "TRANSFER"), (0, .fieldref 8 23), (0, .nameAndType 24 12), (0, u "MERCHANTPAY"), (0, .fieldref 8 26), (0, .nameAndType 27 12), (0, u "INTTRANSFER"), (0, .fieldref 8 29), (0, .nameAndType 30 12), (0, u "ADJUSTMENT"), (0, .fieldref 8 32), (0, .nameAndType 33 12), (0, u "REVERSAL"), (0, .fieldref 8 35), (0, .nameAndType 36 12), (0, u "WITHDRAWAL"), (0, .integer 2147483647), (0, .methodref 39 40), (0, .class_ 41), (0, .nameAndType 42 43), (0, u "com/example/vallet/vallet/TransactionTypeIsReversalPinLaw"), (0, u "pick"), (0, u "(I)Lcom/example/vallet/vallet/TransactionType;"), (0, .methodref 8 45), (0, .nameAndType 46 47), (0, u "isReversal"), (0, u "()Z"), (0, .methodref 8 49), (0, .nameAndType 50 47), (0, u "isPostedAsTransfer"), (3, u "law"), (0, u "(I)Z")] 2

def k1m0 : Method := { name := "<init>", desc := "()V", sig := { parameters := [], returnType := none }, accessFlags := 1, code := none }
def k1c1 : Code := { maxStack := 2, maxLocals := 1, code := method_2_code, exceptionTable := #[], attributes := #[] }
def k1m1 : Method := { name := "pick", desc := "(I)Lcom/example/vallet/vallet/TransactionType;", sig := { parameters := [.int], returnType := some (.object "com/example/vallet/vallet/TransactionType") }, accessFlags := 10, code := some k1c1 }
def k1c2 : Code := { maxStack := 2, maxLocals := 5, code := code, exceptionTable := #[], attributes := #[] }
def k1m2 : Method := { name := "law", desc := "(I)Z", sig := { parameters := [.int], returnType := some .boolean }, accessFlags := 9, code := some k1c2 }
/-- com/example/vallet/vallet/TransactionTypeIsReversalPinLaw -/
def k1 : Class := { plain "com/example/vallet/vallet/TransactionTypeIsReversalPinLaw" (some 0) with
  accessFlags := 49
  interfaces := #[]
  cf := some (fileOf pool1 39 #[] #[{ accessFlags := 1, nameIndex := 5, descriptorIndex := 6, attributes := #[] }, { accessFlags := 10, nameIndex := 42, descriptorIndex := 43, attributes := #[] }, { accessFlags := 9, nameIndex := 54, descriptorIndex := 55, attributes := #[] }] 49 2 #[] #[])
  fields := #[]
  methods := #[k1m0, k1m1, k1m2]
  instanceTypes := #[]
  staticTypes := #[]
  resolved := Array.replicate 58 none
  statics := none }

def pool2 : Array CpInfo := pool [(1, .class_ 2), (0, u "java/lang/constant/Constable"), (0, .class_ 4), (0, u "java/lang/Object")] 6

/-- java/lang/constant/Constable -/
def k2 : Class := { plain "java/lang/constant/Constable" (some 0) with
  accessFlags := 1537
  interfaces := #[]
  cf := some (fileOf pool2 1 #[] #[] 1537 3 #[] #[])
  fields := #[]
  methods := #[]
  instanceTypes := #[]
  staticTypes := #[]
  resolved := Array.replicate 11 none
  statics := none }

def pool3 : Array CpInfo := pool [(1, .class_ 2), (0, u "java/lang/Comparable"), (0, .class_ 4), (0, u "java/lang/Object")] 7

/-- java/lang/Comparable -/
def k3 : Class := { plain "java/lang/Comparable" (some 0) with
  accessFlags := 1537
  interfaces := #[]
  cf := some (fileOf pool3 1 #[] #[] 1537 3 #[] #[])
  fields := #[]
  methods := #[]
  instanceTypes := #[]
  staticTypes := #[]
  resolved := Array.replicate 12 none
  statics := none }

def pool4 : Array CpInfo := pool [(1, .class_ 2), (0, u "java/io/Serializable"), (0, .class_ 4), (0, u "java/lang/Object")] 2

/-- java/io/Serializable -/
def k4 : Class := { plain "java/io/Serializable" (some 0) with
  accessFlags := 1537
  interfaces := #[]
  cf := some (fileOf pool4 1 #[] #[] 1537 3 #[] #[])
  fields := #[]
  methods := #[]
  instanceTypes := #[]
  staticTypes := #[]
  resolved := Array.replicate 7 none
  statics := none }

def pool5 : Array CpInfo := pool [(2, .class_ 4), (1, u "java/lang/Enum"), (0, u "name"), (0, u "Ljava/lang/String;"), (2, u "ordinal"), (0, u "I"), (1, .class_ 14), (1, u "java/lang/Object"), (4, u "hash"), (86, .class_ 108), (1, u "java/lang/Enum$EnumDesc"), (2, .class_ 112), (0, u "java/lang/constant/Constable"), (0, .class_ 114), (0, u "java/lang/Comparable"), (0, .class_ 116), (0, u "java/io/Serializable")] 87

/-- java/lang/Enum -/
def k5 : Class := { plain "java/lang/Enum" (some 0) with
  accessFlags := 1057
  interfaces := #[2, 3, 4]
  cf := some (fileOf pool5 2 #[.nestMembers #[106]] #[] 1057 12 #[111, 113, 115] #[{ accessFlags := 18, nameIndex := 5, descriptorIndex := 6, attributes := #[] }, { accessFlags := 18, nameIndex := 9, descriptorIndex := 10, attributes := #[] }, { accessFlags := 2, nameIndex := 19, descriptorIndex := 10, attributes := #[] }])
  fields := #[{ name := "name", type := (.object "java/lang/String"), accessFlags := 18, slot := 0, constantValue := 0 }, { name := "ordinal", type := .int, accessFlags := 18, slot := 1, constantValue := 0 }, { name := "hash", type := .int, accessFlags := 2, slot := 2, constantValue := 0 }]
  methods := #[]
  instanceTypes := #[(.object "java/lang/String"), .int, .int]
  staticTypes := #[]
  resolved := Array.replicate 204 none
  statics := none }

def pool6 : Array CpInfo := pool [(1, .class_ 2), (0, u "com/example/vallet/vallet/TransactionType"), (2, u "BILLPAY"), (0, u "Lcom/example/vallet/vallet/TransactionType;"), (2, u "DEPOSIT"), (2, u "DISBURSEMENT"), (2, u "TRANSFER"), (2, u "MERCHANTPAY"), (2, u "INTTRANSFER"), (2, u "ADJUSTMENT"), (2, u "REVERSAL"), (2, u "WITHDRAWAL"), (2, u "$VALUES"), (0, u "[Lcom/example/vallet/vallet/TransactionType;"), (6, .class_ 43), (1, u "java/lang/Enum"), (6, .fieldref 1 51), (0, .nameAndType 52 53), (0, u "made"), (0, u "Lcom/example/vallet/vallet/TransactionType$Made;"), (10, .fieldref 65 66), (0, .class_ 67), (0, .nameAndType 68 53), (0, u "com/example/vallet/vallet/TransactionType$Made"), (0, u "AS_TRANSFER"), (0, .fieldref 65 70), (0, .nameAndType 71 53), (0, u "AS_REVERSAL"), (31, u "isPostedAsTransfer"), (0, u "()Z"), (1, u "isReversal")] 8

def k6c0 : Code := { maxStack := 2, maxLocals := 1, code := prog_12_method_6_code, exceptionTable := #[], attributes := #[] }
def k6m0 : Method := { name := "isPostedAsTransfer", desc := "()Z", sig := { parameters := [], returnType := some .boolean }, accessFlags := 1, code := some k6c0 }
def k6c1 : Code := { maxStack := 2, maxLocals := 1, code := prog_12_method_7_code, exceptionTable := #[], attributes := #[] }
def k6m1 : Method := { name := "isReversal", desc := "()Z", sig := { parameters := [], returnType := some .boolean }, accessFlags := 1, code := some k6c1 }
/-- com/example/vallet/vallet/TransactionType -/
def k6 : Class := { plain "com/example/vallet/vallet/TransactionType" (some 5) with
  accessFlags := 16433
  interfaces := #[]
  cf := some (fileOf pool6 1 #[.nestMembers #[65]] #[{ accessFlags := 1, nameIndex := 103, descriptorIndex := 104, attributes := #[] }, { accessFlags := 1, nameIndex := 106, descriptorIndex := 104, attributes := #[] }] 16433 41 #[] #[{ accessFlags := 16409, nameIndex := 5, descriptorIndex := 6, attributes := #[] }, { accessFlags := 16409, nameIndex := 9, descriptorIndex := 6, attributes := #[] }, { accessFlags := 16409, nameIndex := 12, descriptorIndex := 6, attributes := #[] }, { accessFlags := 16409, nameIndex := 15, descriptorIndex := 6, attributes := #[] }, { accessFlags := 16409, nameIndex := 18, descriptorIndex := 6, attributes := #[] }, { accessFlags := 16409, nameIndex := 21, descriptorIndex := 6, attributes := #[] }, { accessFlags := 16409, nameIndex := 24, descriptorIndex := 6, attributes := #[] }, { accessFlags := 16409, nameIndex := 27, descriptorIndex := 6, attributes := #[] }, { accessFlags := 16409, nameIndex := 30, descriptorIndex := 6, attributes := #[] }, { accessFlags := 18, nameIndex := 52, descriptorIndex := 53, attributes := #[] }, { accessFlags := 4122, nameIndex := 33, descriptorIndex := 34, attributes := #[] }])
  fields := #[{ name := "BILLPAY", type := (.object "com/example/vallet/vallet/TransactionType"), accessFlags := 16409, slot := 0, constantValue := 0 }, { name := "DEPOSIT", type := (.object "com/example/vallet/vallet/TransactionType"), accessFlags := 16409, slot := 1, constantValue := 0 }, { name := "DISBURSEMENT", type := (.object "com/example/vallet/vallet/TransactionType"), accessFlags := 16409, slot := 2, constantValue := 0 }, { name := "TRANSFER", type := (.object "com/example/vallet/vallet/TransactionType"), accessFlags := 16409, slot := 3, constantValue := 0 }, { name := "MERCHANTPAY", type := (.object "com/example/vallet/vallet/TransactionType"), accessFlags := 16409, slot := 4, constantValue := 0 }, { name := "INTTRANSFER", type := (.object "com/example/vallet/vallet/TransactionType"), accessFlags := 16409, slot := 5, constantValue := 0 }, { name := "ADJUSTMENT", type := (.object "com/example/vallet/vallet/TransactionType"), accessFlags := 16409, slot := 6, constantValue := 0 }, { name := "REVERSAL", type := (.object "com/example/vallet/vallet/TransactionType"), accessFlags := 16409, slot := 7, constantValue := 0 }, { name := "WITHDRAWAL", type := (.object "com/example/vallet/vallet/TransactionType"), accessFlags := 16409, slot := 8, constantValue := 0 }, { name := "made", type := (.object "com/example/vallet/vallet/TransactionType$Made"), accessFlags := 18, slot := 3, constantValue := 0 }, { name := "$VALUES", type := (.array (.object "com/example/vallet/vallet/TransactionType")), accessFlags := 4122, slot := 9, constantValue := 0 }]
  methods := #[k6m0, k6m1]
  instanceTypes := #[(.object "java/lang/String"), .int, .int, (.object "com/example/vallet/vallet/TransactionType$Made")]
  staticTypes := #[(.object "com/example/vallet/vallet/TransactionType"), (.object "com/example/vallet/vallet/TransactionType"), (.object "com/example/vallet/vallet/TransactionType"), (.object "com/example/vallet/vallet/TransactionType"), (.object "com/example/vallet/vallet/TransactionType"), (.object "com/example/vallet/vallet/TransactionType"), (.object "com/example/vallet/vallet/TransactionType"), (.object "com/example/vallet/vallet/TransactionType"), (.object "com/example/vallet/vallet/TransactionType"), (.array (.object "com/example/vallet/vallet/TransactionType"))]
  resolved := Array.replicate 115 none
  statics := some 0 }

def pool7 : Array CpInfo := pool [(1, .class_ 2), (0, u "com/example/vallet/vallet/TransactionType$Made"), (2, u "AS_TRANSFER"), (0, u "Lcom/example/vallet/vallet/TransactionType$Made;"), (2, u "AS_REVERSAL"), (2, u "NOT_OFFERED"), (2, u "$VALUES"), (0, u "[Lcom/example/vallet/vallet/TransactionType$Made;"), (6, .class_ 25), (1, u "java/lang/Enum"), (26, .class_ 53), (0, u "com/example/vallet/vallet/TransactionType")] 2

/-- com/example/vallet/vallet/TransactionType$Made -/
def k7 : Class := { plain "com/example/vallet/vallet/TransactionType$Made" (some 5) with
  accessFlags := 16432
  interfaces := #[]
  cf := some (fileOf pool7 1 #[.nestHost 52] #[] 16432 23 #[] #[{ accessFlags := 16409, nameIndex := 5, descriptorIndex := 6, attributes := #[] }, { accessFlags := 16409, nameIndex := 9, descriptorIndex := 6, attributes := #[] }, { accessFlags := 16409, nameIndex := 12, descriptorIndex := 6, attributes := #[] }, { accessFlags := 4122, nameIndex := 15, descriptorIndex := 16, attributes := #[] }])
  fields := #[{ name := "AS_TRANSFER", type := (.object "com/example/vallet/vallet/TransactionType$Made"), accessFlags := 16409, slot := 0, constantValue := 0 }, { name := "AS_REVERSAL", type := (.object "com/example/vallet/vallet/TransactionType$Made"), accessFlags := 16409, slot := 1, constantValue := 0 }, { name := "NOT_OFFERED", type := (.object "com/example/vallet/vallet/TransactionType$Made"), accessFlags := 16409, slot := 2, constantValue := 0 }, { name := "$VALUES", type := (.array (.object "com/example/vallet/vallet/TransactionType$Made")), accessFlags := 4122, slot := 3, constantValue := 0 }]
  methods := #[]
  instanceTypes := #[(.object "java/lang/String"), .int, .int]
  staticTypes := #[(.object "com/example/vallet/vallet/TransactionType$Made"), (.object "com/example/vallet/vallet/TransactionType$Made"), (.object "com/example/vallet/vallet/TransactionType$Made"), (.array (.object "com/example/vallet/vallet/TransactionType$Made"))]
  resolved := Array.replicate 56 none
  statics := some 1 }

def pool8 : Array CpInfo := pool [(1, u "java/lang/Cloneable"), (0, .class_ 1), (0, u "java/lang/Object"), (0, .class_ 3)] 3

/-- java/lang/Cloneable -/
def k8 : Class := { plain "java/lang/Cloneable" (some 0) with
  accessFlags := 1537
  interfaces := #[]
  cf := some (fileOf pool8 2 #[] #[] 1537 4 #[] #[])
  fields := #[]
  methods := #[]
  instanceTypes := #[]
  staticTypes := #[]
  resolved := Array.replicate 8 none
  statics := none }

/-- the primitive byte -/
def k9 : Class := { plain "byte" none with kind := .primitive 'B', accessFlags := 0x411 }
/-- [B -/
def k10 : Class := { plain "[B" (some 0) with kind := .array 9 .byte, interfaces := #[8, 4], accessFlags := 1041 }

/-- the primitive int -/
def k11 : Class := { plain "int" none with kind := .primitive 'I', accessFlags := 0x411 }
/-- [I -/
def k12 : Class := { plain "[I" (some 0) with kind := .array 11 .int, interfaces := #[8, 4], accessFlags := 1041 }

def heap : Heap := #[{ cls := 6, slots := #[.ref 2, .ref 9, .ref 8, .ref 7, .ref 10, .ref 12, .ref 3, .ref 4, .ref 11, .null], vm := .statics 6 },
  { cls := 7, slots := #[.ref 5, .ref 6, .ref 13, .null], vm := .statics 7 },
  { cls := 6, slots := #[.null, .int 0, .int 0, .ref 5], vm := .none },
  { cls := 6, slots := #[.null, .int 6, .int 0, .ref 6], vm := .none },
  { cls := 6, slots := #[.null, .int 7, .int 0, .ref 6], vm := .none },
  { cls := 7, slots := #[.null, .int 0, .int 0], vm := .none },
  { cls := 7, slots := #[.null, .int 1, .int 0], vm := .none },
  { cls := 6, slots := #[.null, .int 3, .int 0, .ref 5], vm := .none },
  { cls := 6, slots := #[.null, .int 2, .int 0, .ref 5], vm := .none },
  { cls := 6, slots := #[.null, .int 1, .int 0, .ref 5], vm := .none },
  { cls := 6, slots := #[.null, .int 4, .int 0, .ref 5], vm := .none },
  { cls := 6, slots := #[.null, .int 8, .int 0, .ref 5], vm := .none },
  { cls := 6, slots := #[.null, .int 5, .int 0, .ref 13], vm := .none },
  { cls := 7, slots := #[.null, .int 2, .int 0], vm := .none }]
def classes : Array Class := #[k0, k1, k2, k3, k4, k5, k6, k7, k8, k9, k10, k11, k12]
def interned : List (Array UInt16 × Addr) := []
def slotsUsed : Nat := 59
def theMethod : MethodId := ⟨1, 2⟩
def args0 : Array Value := #[.int 5]
def aboutOver (below : List Frame) : State where
  vm := { classes := classes, interned := interned.toArray }
  heap := heap
  slotsUsed := slotsUsed
  threads := #[{ frames := .invoking theMethod args0 :: below }]
def below0 : List Frame := [.native { method := ⟨0, 0⟩, args := #[] }]
def about1 : State := aboutOver below0
def p0 : Program := .bare "" "" ""
def e0 : Env := launch0.env 0 0 0
theorem w_frames : about1.frames = Frame.invoking theMethod args0 :: below0 := rfl
set_option maxRecDepth 65536 in
theorem w_args : argsFit about1.vm theMethod args0 = true := by decide +kernel
set_option maxRecDepth 65536 in
theorem w_heap : heapFits about1 = true := by decide +kernel
set_option maxRecDepth 65536 in
theorem w_runnable : about1.curStatus? = some .runnable := by decide +kernel
set_option maxRecDepth 65536 in
theorem w_alone : about1.alone = true := by decide +kernel
set_option maxRecDepth 65536 in
theorem w_named : about1.methodNamed? x = some theMethod := by decide +kernel
set_option maxRecDepth 65536 in
theorem w_hears : about1.hears theMethod below0 = true := by decide +kernel
set_option maxRecDepth 65536 in
theorem w_ripe : about1.ripe theMethod args0 below0 = true := by decide +kernel
theorem w_running : about1.status = .running := rfl
set_option maxRecDepth 65536 in
theorem w_room : about1.hasRoom e0.platform room_1 = true :=
  launch0.hasRoom_least _ room_1 (by decide +kernel) (by decide +kernel) (by decide +kernel) (by decide +kernel) (by decide +kernel) (by decide +kernel)
theorem allAtoms_all (ts : List Jvm.Cond) (a : Array Jvm.Value) (st : Jvm.State) : (allAtoms ts).before a st = ts.all (fun c => c.before a st) := by
  induction ts with
  | nil => rfl
  | cons c t ih =>
    show (Jvm.Cond.and c (allAtoms t)).before a st = _
    rw [Jvm.Cond.before_and, ih, List.all_cons]
def words1 : List Jvm.Cond := Jvm.Cond.code x code maxLocals ret :: tables_1
/-- a 'code' word, met by the world's own term for the bytes: nothing is compared byte by byte -/
theorem code_word {y : MethodName} {bytes : ByteArray} {mx : Nat} {rt : Option FieldType} {a : Array Value} {s : State} {m : MethodId} {meth : Method} {c : Code} (h1 : s.methodNamed? y = some m) (h2 : s.vm.method? m = some meth) (h3 : meth.code = some c) (h4 : c.code = bytes)
    (h5 : (c.maxLocals == mx && c.exceptionTable.isEmpty && decide (c.maxStack ≤ mostOperands) && decide (meth.sig.returnType = rt) && !meth.locks && decide (parseMethodDescriptor y.desc = some meth.sig)) = true) : (Jvm.Cond.code y bytes mx rt).before a s = true := by
  simp only [Bool.and_eq_true, beq_iff_eq, Bool.not_eq_true', decide_eq_true_eq] at h5
  obtain ⟨⟨⟨⟨⟨g1, g2⟩, g3⟩, g4⟩, g5⟩, g6⟩ := h5
  simp [Cond.before, Cond.holds, Cond.value, h1, h2, h3, h4, g1, g2, g3, g4, g5, g6]
def isCode : Jvm.Cond → Bool
  | .code _ _ _ _ => true
  | _ => false
theorem all_split {L : List Jvm.Cond} {P : Jvm.Cond → Bool} (h1 : L.all (fun c => isCode c || P c) = true) (h2 : ∀ c ∈ L.filter isCode, P c = true) : L.all P = true := by
  refine List.all_eq_true.mpr fun c hc => ?_
  have h := List.all_eq_true.mp h1 c hc
  rcases Bool.eq_false_or_eq_true (isCode c) with hi | hi
  · exact h2 c (List.mem_filter.mpr ⟨hc, hi⟩)
  · simpa [hi] using h
set_option maxRecDepth 65536 in
theorem w_c0 : (Jvm.Cond.code x code maxLocals ret).before args0 about1 = true := code_word (m := ⟨1, 2⟩) (meth := k1m2) (c := k1c2) (by decide +kernel) rfl rfl rfl (by decide +kernel)
set_option maxRecDepth 65536 in
theorem w_c1 : (Jvm.Cond.code ({ cls := "com/example/vallet/vallet/TransactionTypeIsReversalPinLaw", name := "pick", desc := "(I)Lcom/example/vallet/vallet/TransactionType;" } : Jvm.MethodName) method_2_code (1 : Nat) (Option.some (Jvm.ClassFile.FieldType.object "com/example/vallet/vallet/TransactionType"))).before args0 about1 = true := code_word (m := ⟨1, 1⟩) (meth := k1m1) (c := k1c1) (by decide +kernel) rfl rfl rfl (by decide +kernel)
set_option maxRecDepth 65536 in
theorem w_c2 : (Jvm.Cond.code ({ cls := "com/example/vallet/vallet/TransactionType", name := "isReversal", desc := "()Z" } : Jvm.MethodName) prog_12_method_7_code (1 : Nat) (Option.some Jvm.ClassFile.FieldType.boolean)).before args0 about1 = true := code_word (m := ⟨6, 1⟩) (meth := k6m1) (c := k6c1) (by decide +kernel) rfl rfl rfl (by decide +kernel)
set_option maxRecDepth 65536 in
theorem w_c3 : (Jvm.Cond.code ({ cls := "com/example/vallet/vallet/TransactionType", name := "isPostedAsTransfer", desc := "()Z" } : Jvm.MethodName) prog_12_method_6_code (1 : Nat) (Option.some Jvm.ClassFile.FieldType.boolean)).before args0 about1 = true := code_word (m := ⟨6, 0⟩) (meth := k6m0) (c := k6c0) (by decide +kernel) rfl rfl rfl (by decide +kernel)
def codes1 : List Jvm.Cond := [Jvm.Cond.code x code maxLocals ret, Jvm.Cond.code ({ cls := "com/example/vallet/vallet/TransactionTypeIsReversalPinLaw", name := "pick", desc := "(I)Lcom/example/vallet/vallet/TransactionType;" } : Jvm.MethodName) method_2_code (1 : Nat) (Option.some (Jvm.ClassFile.FieldType.object "com/example/vallet/vallet/TransactionType")), Jvm.Cond.code ({ cls := "com/example/vallet/vallet/TransactionType", name := "isReversal", desc := "()Z" } : Jvm.MethodName) prog_12_method_7_code (1 : Nat) (Option.some Jvm.ClassFile.FieldType.boolean), Jvm.Cond.code ({ cls := "com/example/vallet/vallet/TransactionType", name := "isPostedAsTransfer", desc := "()Z" } : Jvm.MethodName) prog_12_method_6_code (1 : Nat) (Option.some Jvm.ClassFile.FieldType.boolean)]
set_option maxRecDepth 65536 in
theorem codes_eq : words1.filter isCode = codes1 := rfl
theorem w_codes : ∀ c ∈ words1.filter isCode, c.before args0 about1 = true := by
  rw [codes_eq]
  intro c hc
  simp only [codes1, List.mem_cons, List.not_mem_nil, or_false] at hc
  rcases hc with rfl | rfl | rfl | rfl
  · exact w_c0
  · exact w_c1
  · exact w_c2
  · exact w_c3
set_option maxRecDepth 65536 in
theorem w_t1 : (words1.take 24).all (fun c => isCode c || c.before args0 about1) = true := by decide +kernel
set_option maxRecDepth 65536 in
theorem w_t2 : (words1.drop 24).all (fun c => isCode c || c.before args0 about1) = true := by decide +kernel
theorem w_tables : (allAtoms (Jvm.Cond.code x code maxLocals ret :: tables_1)).before args0 about1 = true := by
  rw [allAtoms_all]
  show words1.all (fun c => c.before args0 about1) = true
  refine all_split ?_ w_codes
  rw [← List.take_append_drop 24 words1, List.all_append, w_t1, w_t2]
  rfl
set_option maxRecDepth 65536 in
theorem w_case : (Jvm.Cond.and given_1 narrow_1).before args0 about1 = true := by decide +kernel
theorem w_applies : (headSpec (Jvm.Cond.code x code maxLocals ret :: tables_1) room_1).applies x e0.platform about1 = true :=
  (Spec.applies_iff w_frames).mpr ⟨w_running, w_runnable, w_alone, w_named, w_hears, w_ripe, w_room, w_tables⟩
theorem atStart : AtStart classFile x code maxLocals ret World_1 tables_1 room_1 Calls_1 rest_1 Pre_1 launch0 p0 e0 about1 theMethod args0 below0 :=
  ⟨lists_1, trivial, launch0.admits_env _ _ _, launch0.least_env, fairChoices_fair.cas, fairChoices_fair.clock, w_frames, w_args, w_heap, w_applies, trivial, trivial, w_case⟩
end start1
theorem witness_1 : WitnessClaimed_1 := ⟨start1.p0, start1.e0, start1.about1, start1.theMethod, start1.args0, start1.below0, start1.atStart⟩
end Jvm.Pilot.@@N@@
