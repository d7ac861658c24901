import JvmDerived
import JvmDerived.Pilot.@@N@@Statement
import JvmDerived.Pilot.@@N@@Code
set_option linter.unusedVariables false
set_option linter.unusedSimpArgs false
@@BLOCK:NumsL.lean.txt@@
namespace Jvm.Pilot.@@N@@
open Jvm Jvm.ClassFile Sem Op Lib Jvm.Free Jvm.Stand Jvm.LawKit Jvm.RoadKit Bundle Jvm.Pilot.@@N@@.Jvm.D
def own_k (x : Int32) : Int32 := ((x &&& (2147483647 : Int32)) - ((x &&& (2147483647 : Int32)) / (3 : Int32)) * (3 : Int32))
theorem own_k3 (x : Int32) : own_k x = 0 ∨ own_k x = 1 ∨ own_k x = 2 := by
  have e := Jvm.Kit.i32_mask x 2147483647 (k := 31) (by decide) (by decide)
  unfold own_k
  generalize (x &&& (2147483647 : Int32)) = y at *
  have k5 : (3 : Int32).toInt = 3 := by decide
  have d : (y / 3).toInt = y.toInt / 3 := by rw [Jvm.Kit.i32_div (by omega), k5, Int.tdiv_eq_ediv_of_nonneg (by omega)]
  have m : (y / 3 * 3).toInt = y.toInt / 3 * 3 := by rw [Jvm.Kit.i32_mul (by rw [d, k5]; omega) (by rw [d, k5]; omega), d, k5]
  have s : (y - y / 3 * 3).toInt = y.toInt - y.toInt / 3 * 3 := by rw [Jvm.Kit.i32_sub (by rw [m]; omega) (by rw [m]; omega), m]
  have k0 : (0 : Int32).toInt = 0 := by decide
  have k1 : (1 : Int32).toInt = 1 := by decide
  have k2 : (2 : Int32).toInt = 2 := by decide
  simp only [← Int32.toInt_inj, s, k0, k1, k2]
  omega
theorem own_eqI {args : Array Value} {first s : State} {o : Option Outcome} {idx : List Nat} {t : Term} {k : Int32} (h : (Jvm.Cond.eq t (.int k)).value args first o s idx = some true) : t.eval args first o idx s = some (.int k) := by
  simp only [Cond.value, Term.eval] at h
  cases ht : t.eval args first o idx s with
  | none => simp [ht] at h
  | some x => cases x <;> simp [ht] at h ⊢; exact h
def own_pick (k : Int32) (a b c : Addr) : Addr := if k = 0 then a else if k = 1 then b else c
def own_cov (a b aS aX : Addr) : Int32 := if a = b then 1 else if a = aX then (if b = aS then 1 else 0) else 0
def own_tab : List Value := [.int (nar .boolean 1), .int (nar .boolean 0), .int (nar .boolean 0), .int (nar .boolean 0), .int (nar .boolean 1), .int (nar .boolean 0), .int (nar .boolean 0), .int (nar .boolean 1), .int (nar .boolean 1)]
theorem own_final (u v : Int32) (hu : u = 0 ∨ u = 1 ∨ u = 2) (hv : v = 0 ∨ v = 1 ∨ v = 2) (aA aS aX : Addr) (d1 : aA ≠ aS) (d2 : aA ≠ aX) (d3 : aS ≠ aX) :
    (¬ (u * 3 + v < 0) ∧ u * 3 + v < 9) ∧ own_tab.getD (u * 3 + v).toNatClampNeg (.int 0) = .int (own_cov (own_pick u aA aS aX) (own_pick v aA aS aX) aS aX) := by
  have p0 : own_pick 0 aA aS aX = aA := if_pos rfl
  have p1 : own_pick 1 aA aS aX = aS := rfl
  have p2 : own_pick 2 aA aS aX = aX := rfl
  rcases hu with rfl | rfl | rfl <;> rcases hv with rfl | rfl | rfl <;> refine ⟨⟨by decide, by decide⟩, ?_⟩ <;> simp only [p0, p1, p2, own_cov, if_true, if_false, d1, d2, d3, d1.symm, d2.symm, d3.symm] <;> rfl
theorem own_sta {Z : State} {h h' : Heap} {C n d : String} {v : Value} (F : Sta Z h C n d v) (K : Keep h h' []) : Sta Z h' C n d v := by
  obtain ⟨cf, i, k, f, st, cell, h1, h2, h3, h4, h5, r⟩ := F
  exact ⟨cf, i, k, f, st, cell, h1, h2, h3, h4, K.2.1 _ _ h5 (by simp), r⟩
theorem own_keep {h h' : Heap} (e : h' = h) : Keep h h' [] := e ▸ Keep.refl h []
theorem own_sz {h h' : Heap} {n : Nat} (e : h' = h) (H : n ≤ h.size) : n ≤ h'.size := e ▸ H
theorem own_pickE {Z : State} {h : Heap} {k : Int32} {a b c : Addr} {C : String} (A : Exa Z h a C) (B : Exa Z h b C) (D : Exa Z h c C) : Exa Z h (own_pick k a b c) C := by
  unfold own_pick; split
  · exact A
  · split
    · exact B
    · exact D
theorem d1_0 : decode method_2_code 0 = .ok (.iload_n 0, 1) := by decide +kernel
theorem d1_1 : decode method_2_code 1 = .ok (.ifCond .ne 7, 3) := by decide +kernel
theorem d1_10 : decode method_2_code 10 = .ok (.if_icmp .ne 7, 3) := by decide +kernel
theorem d1_13 : decode method_2_code 13 = .ok (.getstatic 13, 3) := by decide +kernel
theorem d1_16 : decode method_2_code 16 = .ok (.areturn, 1) := by decide +kernel
theorem d1_17 : decode method_2_code 17 = .ok (.getstatic 16, 3) := by decide +kernel
theorem d1_20 : decode method_2_code 20 = .ok (.areturn, 1) := by decide +kernel
theorem d1_4 : decode method_2_code 4 = .ok (.getstatic 7, 3) := by decide +kernel
theorem d1_7 : decode method_2_code 7 = .ok (.areturn, 1) := by decide +kernel
theorem d1_8 : decode method_2_code 8 = .ok (.iload_n 0, 1) := by decide +kernel
theorem d1_9 : decode method_2_code 9 = .ok (.iconst 1, 1) := by decide +kernel
theorem ef_1 (m : MethodId) (x0 : Int32) : entryFrame m #[(.int x0)] 1 = mkF m 0 #[.val (.int x0)] [] := by first | (simp [entryFrame, mkF, argsToLocals, Value.category]; done) | rfl
theorem pn_1 : plainName "com/example/enqueue/enqueue/core/lock/TableLockModeCoversPinLaw" = true := by first | (simp [plainName, overriddenIn]; done) | decide +kernel
def Q1 (r : Value) (h0 : Heap) (n0 : Nat) (v : Option Value) (h : Heap) (L : List Loc) : Prop := v = some r ∧ Fr n0 L ∧ h = h0
set_option maxRecDepth 65536 in
set_option maxHeartbeats 40000000 in
theorem rm1f (l : Launch) (Z : State) (a0 : Array Value) (hw : ∀ d ∈ tables_1, d.before a0 Z = true) (ws : List Jvm.Cond) (p1 : Int32) (w2 : Addr) (h0 : Heap) (n0 : Nat) (Z0 : n0 ≤ h0.size) (S_AUTO_INC : Sta Z h0 "com/example/enqueue/enqueue/core/lock/TableLockMode" "AUTO_INC" "Lcom/example/enqueue/enqueue/core/lock/TableLockMode;" (.ref w2)) (hc1 : p1 = (0 : Int32)) :
    MetFree l (⟨"com/example/enqueue/enqueue/core/lock/TableLockModeCoversPinLaw", "mode", "(I)Lcom/example/enqueue/enqueue/core/lock/TableLockMode;"⟩ : MethodName) (head1 (Jvm.Cond.code (⟨"com/example/enqueue/enqueue/core/lock/TableLockModeCoversPinLaw", "mode", "(I)Lcom/example/enqueue/enqueue/core/lock/TableLockMode;"⟩ : MethodName) method_2_code 1 (some (.object "com/example/enqueue/enqueue/core/lock/TableLockMode")) :: ws) ({ frames := 0, cells := 0, slots := 0, locals := 0 } : Room)) (fun a U => a = #[(.int p1)] ∧ Z.Warmed39 U.vm ∧ U.heap = h0) (fun _ _ _ _ _ => True) (fun _ U o U' => ∃ v L, o = .returned v ∧ Q1 (.ref w2) h0 n0 v U'.heap L ∧ FrameEnd U o U' L ({ frames := 0, cells := 0, slots := 0, locals := 0 } : Room).cells ({ frames := 0, cells := 0, slots := 0, locals := 0 } : Room).slots) := by
  refine MetFree.of_bodySF (plainFor_of_name pn_1) hisR ?_
  intro p e s m args below meth c s₁ Bd hml0 hP hK
  obtain ⟨rfl, hZ, hh⟩ := hP
  have hx := Bd.exec
  have hby := Bd.bytes
  have hml : c.maxLocals = 1 := hml0
  have hown : s.vm.findClass "com/example/enqueue/enqueue/core/lock/TableLockModeCoversPinLaw" = some m.cls := findClass_of_methodNamed Bd.named
  have hnm := (name_of_methodNamed Bd.named Bd.method).1
  have X0 : Stand p l e ({ frames := 0, cells := 0, slots := 0, locals := 0 } : Room) s m #[(.int p1)] below meth c s₁ [] 0 0 := Stand.of_body Bd
  have e0 : s₁.heap = h0 := by rw [← hh, Bd.state]; rfl
  have N0 := Fr.nil n0
  have pre0 : ∀ t, Steps p.tables e below (s₁.setTop (mkF m 0 #[.val (.int p1)] [])) t → Steps p.tables e below (s₁.setTop (entryFrame m #[(.int p1)] 1)) t := fun t k => castTop (ef_1 m p1) k
  obtain ⟨T3, X3, e3, st3⟩ := getS2 X0 hx hZ hown (host := "") (Or.inl (hw _ (List.mem_of_getElem? (i := 6) rfl))) Via.refl e0 S_AUTO_INC (g := (mkF m 4 #[.val (.int p1)] [])) rfl (hb hby d1_4)
  obtain ⟨fs, hr, hrun, hended, hW, hsame⟩ := X3.leave (v := some (.ref w2)) (fun h => by rw [Bd.returns] at h; cases h)
  refine ⟨_, _, pre0 _ ?_, hrun, hended, _, _, rfl, ?_, ⟨_, rfl⟩, hW, hsame.mono (by decide) (by decide)⟩
  · show Steps p.tables e below (s₁.setTop (mkF m 0 #[.val (.int p1)] [])) _
    refine XS.iloadN X0.here hx rfl (hb hby d1_0) rfl ?_
    show Steps p.tables e below (s₁.setTop (mkF m 1 #[.val (.int p1)] [(.int p1)])) _
    refine XS.ifNo X0.here hx rfl (hb hby d1_1) rfl ((if0 _ _).trans (teq hc1).2) ?_
    show Steps p.tables e below (s₁.setTop (mkF m 4 #[.val (.int p1)] [])) _
    refine st3 _ ?_
    show Steps p.tables e below (T3.setTop (mkF m 7 #[.val (.int p1)] [(.ref w2)])) _
    jvm_step X3.here [X3.here.top, hx, (hb hby d1_7), X3.method', Bd.returns, Value.isRef, FieldType.isReference]
    first | (intro acts; rw [hr _ acts rfl rfl rfl]) | rw [hr _ _ rfl rfl rfl]
    exact Steps.refl _
  · show Q1 (.ref w2) h0 n0 _ T3.heap _
    rw [e3]
    exact ⟨rfl, N0, rfl⟩
set_option maxRecDepth 65536 in
set_option maxHeartbeats 40000000 in
theorem rm1tf (l : Launch) (Z : State) (a0 : Array Value) (hw : ∀ d ∈ tables_1, d.before a0 Z = true) (ws : List Jvm.Cond) (p1 : Int32) (w2 : Addr) (h0 : Heap) (n0 : Nat) (Z0 : n0 ≤ h0.size) (S_IS : Sta Z h0 "com/example/enqueue/enqueue/core/lock/TableLockMode" "IS" "Lcom/example/enqueue/enqueue/core/lock/TableLockMode;" (.ref w2)) (hc1 : ¬ (p1 = (0 : Int32))) (hc10 : p1 = (1 : Int32)) :
    MetFree l (⟨"com/example/enqueue/enqueue/core/lock/TableLockModeCoversPinLaw", "mode", "(I)Lcom/example/enqueue/enqueue/core/lock/TableLockMode;"⟩ : MethodName) (head1 (Jvm.Cond.code (⟨"com/example/enqueue/enqueue/core/lock/TableLockModeCoversPinLaw", "mode", "(I)Lcom/example/enqueue/enqueue/core/lock/TableLockMode;"⟩ : MethodName) method_2_code 1 (some (.object "com/example/enqueue/enqueue/core/lock/TableLockMode")) :: ws) ({ frames := 0, cells := 0, slots := 0, locals := 0 } : Room)) (fun a U => a = #[(.int p1)] ∧ Z.Warmed39 U.vm ∧ U.heap = h0) (fun _ _ _ _ _ => True) (fun _ U o U' => ∃ v L, o = .returned v ∧ Q1 (.ref w2) h0 n0 v U'.heap L ∧ FrameEnd U o U' L ({ frames := 0, cells := 0, slots := 0, locals := 0 } : Room).cells ({ frames := 0, cells := 0, slots := 0, locals := 0 } : Room).slots) := by
  refine MetFree.of_bodySF (plainFor_of_name pn_1) hisR ?_
  intro p e s m args below meth c s₁ Bd hml0 hP hK
  obtain ⟨rfl, hZ, hh⟩ := hP
  have hx := Bd.exec
  have hby := Bd.bytes
  have hml : c.maxLocals = 1 := hml0
  have hown : s.vm.findClass "com/example/enqueue/enqueue/core/lock/TableLockModeCoversPinLaw" = some m.cls := findClass_of_methodNamed Bd.named
  have hnm := (name_of_methodNamed Bd.named Bd.method).1
  have X0 : Stand p l e ({ frames := 0, cells := 0, slots := 0, locals := 0 } : Room) s m #[(.int p1)] below meth c s₁ [] 0 0 := Stand.of_body Bd
  have e0 : s₁.heap = h0 := by rw [← hh, Bd.state]; rfl
  have N0 := Fr.nil n0
  have pre0 : ∀ t, Steps p.tables e below (s₁.setTop (mkF m 0 #[.val (.int p1)] [])) t → Steps p.tables e below (s₁.setTop (entryFrame m #[(.int p1)] 1)) t := fun t k => castTop (ef_1 m p1) k
  obtain ⟨T3, X3, e3, st3⟩ := getS2 X0 hx hZ hown (host := "") (Or.inl (hw _ (List.mem_of_getElem? (i := 16) rfl))) Via.refl e0 S_IS (g := (mkF m 13 #[.val (.int p1)] [])) rfl (hb hby d1_13)
  obtain ⟨fs, hr, hrun, hended, hW, hsame⟩ := X3.leave (v := some (.ref w2)) (fun h => by rw [Bd.returns] at h; cases h)
  refine ⟨_, _, pre0 _ ?_, hrun, hended, _, _, rfl, ?_, ⟨_, rfl⟩, hW, hsame.mono (by decide) (by decide)⟩
  · show Steps p.tables e below (s₁.setTop (mkF m 0 #[.val (.int p1)] [])) _
    refine XS.iloadN X0.here hx rfl (hb hby d1_0) rfl ?_
    show Steps p.tables e below (s₁.setTop (mkF m 1 #[.val (.int p1)] [(.int p1)])) _
    refine XS.ifYes X0.here hx rfl (pc0 := 1) (pc' := 8) rfl (hb hby d1_1) rfl ((if0 _ _).trans (feq hc1).2) (by decide) (by decide) ?_
    show Steps p.tables e below (s₁.setTop (mkF m 8 #[.val (.int p1)] [])) _
    refine XS.iloadN X0.here hx rfl (hb hby d1_8) rfl ?_
    show Steps p.tables e below (s₁.setTop (mkF m 9 #[.val (.int p1)] [(.int p1)])) _
    refine XS.iconst X0.here hx rfl (hb hby d1_9) ?_
    show Steps p.tables e below (s₁.setTop (mkF m 10 #[.val (.int p1)] [(.int (1 : Int32)), (.int p1)])) _
    refine XS.icmpNo X0.here hx rfl (hb hby d1_10) rfl (teq hc10).2 ?_
    show Steps p.tables e below (s₁.setTop (mkF m 13 #[.val (.int p1)] [])) _
    refine st3 _ ?_
    show Steps p.tables e below (T3.setTop (mkF m 16 #[.val (.int p1)] [(.ref w2)])) _
    jvm_step X3.here [X3.here.top, hx, (hb hby d1_16), X3.method', Bd.returns, Value.isRef, FieldType.isReference]
    first | (intro acts; rw [hr _ acts rfl rfl rfl]) | rw [hr _ _ rfl rfl rfl]
    exact Steps.refl _
  · show Q1 (.ref w2) h0 n0 _ T3.heap _
    rw [e3]
    exact ⟨rfl, N0, rfl⟩
set_option maxRecDepth 65536 in
set_option maxHeartbeats 40000000 in
theorem rm1tt (l : Launch) (Z : State) (a0 : Array Value) (hw : ∀ d ∈ tables_1, d.before a0 Z = true) (ws : List Jvm.Cond) (p1 : Int32) (w2 : Addr) (h0 : Heap) (n0 : Nat) (Z0 : n0 ≤ h0.size) (S_IX : Sta Z h0 "com/example/enqueue/enqueue/core/lock/TableLockMode" "IX" "Lcom/example/enqueue/enqueue/core/lock/TableLockMode;" (.ref w2)) (hc1 : ¬ (p1 = (0 : Int32))) (hc10 : ¬ (p1 = (1 : Int32))) :
    MetFree l (⟨"com/example/enqueue/enqueue/core/lock/TableLockModeCoversPinLaw", "mode", "(I)Lcom/example/enqueue/enqueue/core/lock/TableLockMode;"⟩ : MethodName) (head1 (Jvm.Cond.code (⟨"com/example/enqueue/enqueue/core/lock/TableLockModeCoversPinLaw", "mode", "(I)Lcom/example/enqueue/enqueue/core/lock/TableLockMode;"⟩ : MethodName) method_2_code 1 (some (.object "com/example/enqueue/enqueue/core/lock/TableLockMode")) :: ws) ({ frames := 0, cells := 0, slots := 0, locals := 0 } : Room)) (fun a U => a = #[(.int p1)] ∧ Z.Warmed39 U.vm ∧ U.heap = h0) (fun _ _ _ _ _ => True) (fun _ U o U' => ∃ v L, o = .returned v ∧ Q1 (.ref w2) h0 n0 v U'.heap L ∧ FrameEnd U o U' L ({ frames := 0, cells := 0, slots := 0, locals := 0 } : Room).cells ({ frames := 0, cells := 0, slots := 0, locals := 0 } : Room).slots) := by
  refine MetFree.of_bodySF (plainFor_of_name pn_1) hisR ?_
  intro p e s m args below meth c s₁ Bd hml0 hP hK
  obtain ⟨rfl, hZ, hh⟩ := hP
  have hx := Bd.exec
  have hby := Bd.bytes
  have hml : c.maxLocals = 1 := hml0
  have hown : s.vm.findClass "com/example/enqueue/enqueue/core/lock/TableLockModeCoversPinLaw" = some m.cls := findClass_of_methodNamed Bd.named
  have hnm := (name_of_methodNamed Bd.named Bd.method).1
  have X0 : Stand p l e ({ frames := 0, cells := 0, slots := 0, locals := 0 } : Room) s m #[(.int p1)] below meth c s₁ [] 0 0 := Stand.of_body Bd
  have e0 : s₁.heap = h0 := by rw [← hh, Bd.state]; rfl
  have N0 := Fr.nil n0
  have pre0 : ∀ t, Steps p.tables e below (s₁.setTop (mkF m 0 #[.val (.int p1)] [])) t → Steps p.tables e below (s₁.setTop (entryFrame m #[(.int p1)] 1)) t := fun t k => castTop (ef_1 m p1) k
  obtain ⟨T3, X3, e3, st3⟩ := getS2 X0 hx hZ hown (host := "") (Or.inl (hw _ (List.mem_of_getElem? (i := 14) rfl))) Via.refl e0 S_IX (g := (mkF m 17 #[.val (.int p1)] [])) rfl (hb hby d1_17)
  obtain ⟨fs, hr, hrun, hended, hW, hsame⟩ := X3.leave (v := some (.ref w2)) (fun h => by rw [Bd.returns] at h; cases h)
  refine ⟨_, _, pre0 _ ?_, hrun, hended, _, _, rfl, ?_, ⟨_, rfl⟩, hW, hsame.mono (by decide) (by decide)⟩
  · show Steps p.tables e below (s₁.setTop (mkF m 0 #[.val (.int p1)] [])) _
    refine XS.iloadN X0.here hx rfl (hb hby d1_0) rfl ?_
    show Steps p.tables e below (s₁.setTop (mkF m 1 #[.val (.int p1)] [(.int p1)])) _
    refine XS.ifYes X0.here hx rfl (pc0 := 1) (pc' := 8) rfl (hb hby d1_1) rfl ((if0 _ _).trans (feq hc1).2) (by decide) (by decide) ?_
    show Steps p.tables e below (s₁.setTop (mkF m 8 #[.val (.int p1)] [])) _
    refine XS.iloadN X0.here hx rfl (hb hby d1_8) rfl ?_
    show Steps p.tables e below (s₁.setTop (mkF m 9 #[.val (.int p1)] [(.int p1)])) _
    refine XS.iconst X0.here hx rfl (hb hby d1_9) ?_
    show Steps p.tables e below (s₁.setTop (mkF m 10 #[.val (.int p1)] [(.int (1 : Int32)), (.int p1)])) _
    refine XS.icmpYes X0.here hx rfl (pc0 := 10) (pc' := 17) rfl (hb hby d1_10) rfl (feq hc10).2 (by decide) (by decide) ?_
    show Steps p.tables e below (s₁.setTop (mkF m 17 #[.val (.int p1)] [])) _
    refine st3 _ ?_
    show Steps p.tables e below (T3.setTop (mkF m 20 #[.val (.int p1)] [(.ref w2)])) _
    jvm_step X3.here [X3.here.top, hx, (hb hby d1_20), X3.method', Bd.returns, Value.isRef, FieldType.isReference]
    first | (intro acts; rw [hr _ acts rfl rfl rfl]) | rw [hr _ _ rfl rfl rfl]
    exact Steps.refl _
  · show Q1 (.ref w2) h0 n0 _ T3.heap _
    rw [e3]
    exact ⟨rfl, N0, rfl⟩
set_option maxHeartbeats 4000000 in
theorem rm1 (l : Launch) (Z : State) (a0 : Array Value) (hw : ∀ d ∈ tables_1, d.before a0 Z = true) (ws : List Jvm.Cond) (p1 : Int32) (aA aS aX : Addr) (h0 : Heap) (n0 : Nat) (Z0 : n0 ≤ h0.size) (SA : Sta Z h0 "com/example/enqueue/enqueue/core/lock/TableLockMode" "AUTO_INC" "Lcom/example/enqueue/enqueue/core/lock/TableLockMode;" (.ref aA)) (SS : Sta Z h0 "com/example/enqueue/enqueue/core/lock/TableLockMode" "IS" "Lcom/example/enqueue/enqueue/core/lock/TableLockMode;" (.ref aS)) (SX : Sta Z h0 "com/example/enqueue/enqueue/core/lock/TableLockMode" "IX" "Lcom/example/enqueue/enqueue/core/lock/TableLockMode;" (.ref aX)) :
    MetFree l (⟨"com/example/enqueue/enqueue/core/lock/TableLockModeCoversPinLaw", "mode", "(I)Lcom/example/enqueue/enqueue/core/lock/TableLockMode;"⟩ : MethodName) (head1 (Jvm.Cond.code (⟨"com/example/enqueue/enqueue/core/lock/TableLockModeCoversPinLaw", "mode", "(I)Lcom/example/enqueue/enqueue/core/lock/TableLockMode;"⟩ : MethodName) method_2_code 1 (some (.object "com/example/enqueue/enqueue/core/lock/TableLockMode")) :: ws) ({ frames := 0, cells := 0, slots := 0, locals := 0 } : Room)) (fun a U => a = #[(.int p1)] ∧ Z.Warmed39 U.vm ∧ U.heap = h0) (fun _ _ _ _ _ => True) (fun _ U o U' => ∃ v L, o = .returned v ∧ Q1 (.ref (own_pick p1 aA aS aX)) h0 n0 v U'.heap L ∧ FrameEnd U o U' L ({ frames := 0, cells := 0, slots := 0, locals := 0 } : Room).cells ({ frames := 0, cells := 0, slots := 0, locals := 0 } : Room).slots) := by
  by_cases h : p1 = 0
  · have e : own_pick p1 aA aS aX = aA := if_pos h
    rw [e]; exact rm1f l Z a0 hw ws p1 aA h0 n0 Z0 SA h
  · by_cases h2 : p1 = 1
    · have e : own_pick p1 aA aS aX = aS := by rw [own_pick, if_neg h, if_pos h2]
      rw [e]; exact rm1tf l Z a0 hw ws p1 aS h0 n0 Z0 SS h h2
    · have e : own_pick p1 aA aS aX = aX := by rw [own_pick, if_neg h, if_neg h2]
      rw [e]; exact rm1tt l Z a0 hw ws p1 aX h0 n0 Z0 SX h h2
theorem d2_0 : decode prog_82_method_5_code 0 = .ok (.aload_n 0, 1) := by decide +kernel
theorem d2_1 : decode prog_82_method_5_code 1 = .ok (.aload_n 1, 1) := by decide +kernel
theorem d2_12 : decode prog_82_method_5_code 12 = .ok (.aload_n 1, 1) := by decide +kernel
theorem d2_13 : decode prog_82_method_5_code 13 = .ok (.getstatic 7, 3) := by decide +kernel
theorem d2_16 : decode prog_82_method_5_code 16 = .ok (.if_acmp .ne 7, 3) := by decide +kernel
theorem d2_19 : decode prog_82_method_5_code 19 = .ok (.iconst 1, 1) := by decide +kernel
theorem d2_2 : decode prog_82_method_5_code 2 = .ok (.if_acmp .eq 17, 3) := by decide +kernel
theorem d2_20 : decode prog_82_method_5_code 20 = .ok (.goto 4, 3) := by decide +kernel
theorem d2_23 : decode prog_82_method_5_code 23 = .ok (.iconst 0, 1) := by decide +kernel
theorem d2_24 : decode prog_82_method_5_code 24 = .ok (.ireturn, 1) := by decide +kernel
theorem d2_5 : decode prog_82_method_5_code 5 = .ok (.aload_n 0, 1) := by decide +kernel
theorem d2_6 : decode prog_82_method_5_code 6 = .ok (.getstatic 10, 3) := by decide +kernel
theorem d2_9 : decode prog_82_method_5_code 9 = .ok (.if_acmp .ne 14, 3) := by decide +kernel
theorem ef_2 (m : MethodId) (x0 : Addr) (x1 : Addr) : entryFrame m #[(.ref x0), (.ref x1)] 2 = mkF m 0 #[.val (.ref x0), .val (.ref x1)] [] := by first | (simp [entryFrame, mkF, argsToLocals, Value.category]; done) | rfl
theorem pn_2 : plainName "com/example/enqueue/enqueue/core/lock/TableLockMode" = true := by first | (simp [plainName, overriddenIn]; done) | decide +kernel
def Q2 (r : Value) (h0 : Heap) (n0 : Nat) (v : Option Value) (h : Heap) (L : List Loc) : Prop := v = some r ∧ Fr n0 L ∧ h = h0
set_option maxRecDepth 65536 in
set_option maxHeartbeats 40000000 in
theorem rm2t (l : Launch) (Z : State) (a0 : Array Value) (hw : ∀ d ∈ tables_1, d.before a0 Z = true) (ws : List Jvm.Cond) (a1 : Addr) (a2 : Addr) (h0 : Heap) (n0 : Nat) (Z0 : n0 ≤ h0.size) (ha2 : a1 = a2) :
    MetFree l (⟨"com/example/enqueue/enqueue/core/lock/TableLockMode", "covers", "(Lcom/example/enqueue/enqueue/core/lock/TableLockMode;)Z"⟩ : MethodName) (head1 (Jvm.Cond.code (⟨"com/example/enqueue/enqueue/core/lock/TableLockMode", "covers", "(Lcom/example/enqueue/enqueue/core/lock/TableLockMode;)Z"⟩ : MethodName) prog_82_method_5_code 2 (some .boolean) :: ws) ({ frames := 0, cells := 0, slots := 0, locals := 0 } : Room)) (fun a U => a = #[(.ref a1), (.ref a2)] ∧ Z.Warmed39 U.vm ∧ U.heap = h0) (fun _ _ _ _ _ => True) (fun _ U o U' => ∃ v L, o = .returned v ∧ Q2 (.int (1 : Int32)) h0 n0 v U'.heap L ∧ FrameEnd U o U' L ({ frames := 0, cells := 0, slots := 0, locals := 0 } : Room).cells ({ frames := 0, cells := 0, slots := 0, locals := 0 } : Room).slots) := by
  refine MetFree.of_bodySF (plainFor_of_name pn_2) hisR ?_
  intro p e s m args below meth c s₁ Bd hml0 hP hK
  obtain ⟨rfl, hZ, hh⟩ := hP
  have hx := Bd.exec
  have hby := Bd.bytes
  have hml : c.maxLocals = 2 := hml0
  have hown : s.vm.findClass "com/example/enqueue/enqueue/core/lock/TableLockMode" = some m.cls := findClass_of_methodNamed Bd.named
  have hnm := (name_of_methodNamed Bd.named Bd.method).1
  have X0 : Stand p l e ({ frames := 0, cells := 0, slots := 0, locals := 0 } : Room) s m #[(.ref a1), (.ref a2)] below meth c s₁ [] 0 0 := Stand.of_body Bd
  have e0 : s₁.heap = h0 := by rw [← hh, Bd.state]; rfl
  have N0 := Fr.nil n0
  have pre0 : ∀ t, Steps p.tables e below (s₁.setTop (mkF m 0 #[.val (.ref a1), .val (.ref a2)] [])) t → Steps p.tables e below (s₁.setTop (entryFrame m #[(.ref a1), (.ref a2)] 2)) t := fun t k => castTop (ef_2 m a1 a2) k
  obtain ⟨fs, hr, hrun, hended, hW, hsame⟩ := X0.leave (v := some (.int (1 : Int32))) (fun h => by rw [Bd.returns] at h; cases h)
  refine ⟨_, _, pre0 _ ?_, hrun, hended, _, _, rfl, ?_, ⟨_, rfl⟩, hW, hsame.mono (by decide) (by decide)⟩
  · show Steps p.tables e below (s₁.setTop (mkF m 0 #[.val (.ref a1), .val (.ref a2)] [])) _
    refine XS.aloadN X0.here hx rfl (hb hby d2_0) rfl rfl ?_
    show Steps p.tables e below (s₁.setTop (mkF m 1 #[.val (.ref a1), .val (.ref a2)] [(.ref a1)])) _
    refine XS.aloadN X0.here hx rfl (hb hby d2_1) rfl rfl ?_
    show Steps p.tables e below (s₁.setTop (mkF m 2 #[.val (.ref a1), .val (.ref a2)] [(.ref a2), (.ref a1)])) _
    refine Jvm.RoadKit.acmp (g := (mkF m 2 #[.val (.ref a1), .val (.ref a2)] [(.ref a2), (.ref a1)])) X0 hx rfl rfl rfl (pc0 := 2) (pc' := 19) (same := true) rfl (hb hby d2_2) rfl (decide_eq_true (congrArg Value.ref ha2)) (by decide) (by decide) ?_
    show Steps p.tables e below (s₁.setTop (mkF m 19 #[.val (.ref a1), .val (.ref a2)] [])) _
    refine XS.iconst X0.here hx rfl (hb hby d2_19) ?_
    show Steps p.tables e below (s₁.setTop (mkF m 20 #[.val (.ref a1), .val (.ref a2)] [(.int (1 : Int32))])) _
    refine XS.goto X0.here hx rfl (pc0 := 20) (pc' := 24) rfl (hb hby d2_20) (by decide) (by decide) ?_
    show Steps p.tables e below (s₁.setTop (mkF m 24 #[.val (.ref a1), .val (.ref a2)] [(.int (1 : Int32))])) _
    exact retN X0 hx (t := .boolean) Bd.returns (by simp) (hb hby d2_24) hr
  · show Q2 (.int (1 : Int32)) h0 n0 _ s₁.heap _
    rw [e0]
    exact ⟨rfl, N0, rfl⟩
set_option maxRecDepth 65536 in
set_option maxHeartbeats 40000000 in
theorem rm2ft (l : Launch) (Z : State) (a0 : Array Value) (hw : ∀ d ∈ tables_1, d.before a0 Z = true) (ws : List Jvm.Cond) (a1 : Addr) (a2 : Addr) (w3 : Addr) (h0 : Heap) (n0 : Nat) (Z0 : n0 ≤ h0.size) (S_IX : Sta Z h0 "com/example/enqueue/enqueue/core/lock/TableLockMode" "IX" "Lcom/example/enqueue/enqueue/core/lock/TableLockMode;" (.ref w3)) (ha2 : ¬ (a1 = a2)) (ha9 : ¬ (a1 = w3)) :
    MetFree l (⟨"com/example/enqueue/enqueue/core/lock/TableLockMode", "covers", "(Lcom/example/enqueue/enqueue/core/lock/TableLockMode;)Z"⟩ : MethodName) (head1 (Jvm.Cond.code (⟨"com/example/enqueue/enqueue/core/lock/TableLockMode", "covers", "(Lcom/example/enqueue/enqueue/core/lock/TableLockMode;)Z"⟩ : MethodName) prog_82_method_5_code 2 (some .boolean) :: ws) ({ frames := 0, cells := 0, slots := 0, locals := 0 } : Room)) (fun a U => a = #[(.ref a1), (.ref a2)] ∧ Z.Warmed39 U.vm ∧ U.heap = h0) (fun _ _ _ _ _ => True) (fun _ U o U' => ∃ v L, o = .returned v ∧ Q2 (.int (0 : Int32)) h0 n0 v U'.heap L ∧ FrameEnd U o U' L ({ frames := 0, cells := 0, slots := 0, locals := 0 } : Room).cells ({ frames := 0, cells := 0, slots := 0, locals := 0 } : Room).slots) := by
  refine MetFree.of_bodySF (plainFor_of_name pn_2) hisR ?_
  intro p e s m args below meth c s₁ Bd hml0 hP hK
  obtain ⟨rfl, hZ, hh⟩ := hP
  have hx := Bd.exec
  have hby := Bd.bytes
  have hml : c.maxLocals = 2 := hml0
  have hown : s.vm.findClass "com/example/enqueue/enqueue/core/lock/TableLockMode" = some m.cls := findClass_of_methodNamed Bd.named
  have hnm := (name_of_methodNamed Bd.named Bd.method).1
  have X0 : Stand p l e ({ frames := 0, cells := 0, slots := 0, locals := 0 } : Room) s m #[(.ref a1), (.ref a2)] below meth c s₁ [] 0 0 := Stand.of_body Bd
  have e0 : s₁.heap = h0 := by rw [← hh, Bd.state]; rfl
  have N0 := Fr.nil n0
  have pre0 : ∀ t, Steps p.tables e below (s₁.setTop (mkF m 0 #[.val (.ref a1), .val (.ref a2)] [])) t → Steps p.tables e below (s₁.setTop (entryFrame m #[(.ref a1), (.ref a2)] 2)) t := fun t k => castTop (ef_2 m a1 a2) k
  obtain ⟨T4, X4, e4, st4⟩ := getS2 X0 hx hZ hown (host := "") (Or.inl (hw _ (List.mem_of_getElem? (i := 18) rfl))) Via.refl e0 S_IX (g := (mkF m 6 #[.val (.ref a1), .val (.ref a2)] [(.ref a1)])) rfl (hb hby d2_6)
  obtain ⟨fs, hr, hrun, hended, hW, hsame⟩ := X4.leave (v := some (.int (0 : Int32))) (fun h => by rw [Bd.returns] at h; cases h)
  refine ⟨_, _, pre0 _ ?_, hrun, hended, _, _, rfl, ?_, ⟨_, rfl⟩, hW, hsame.mono (by decide) (by decide)⟩
  · show Steps p.tables e below (s₁.setTop (mkF m 0 #[.val (.ref a1), .val (.ref a2)] [])) _
    refine XS.aloadN X0.here hx rfl (hb hby d2_0) rfl rfl ?_
    show Steps p.tables e below (s₁.setTop (mkF m 1 #[.val (.ref a1), .val (.ref a2)] [(.ref a1)])) _
    refine XS.aloadN X0.here hx rfl (hb hby d2_1) rfl rfl ?_
    show Steps p.tables e below (s₁.setTop (mkF m 2 #[.val (.ref a1), .val (.ref a2)] [(.ref a2), (.ref a1)])) _
    refine Jvm.RoadKit.acmp (g := (mkF m 2 #[.val (.ref a1), .val (.ref a2)] [(.ref a2), (.ref a1)])) X0 hx rfl rfl rfl (pc0 := 2) (pc' := 5) (same := false) rfl (hb hby d2_2) rfl (decide_eq_false fun q => ha2 (Value.ref.inj q)) (by decide) (by decide) ?_
    show Steps p.tables e below (s₁.setTop (mkF m 5 #[.val (.ref a1), .val (.ref a2)] [])) _
    refine XS.aloadN X0.here hx rfl (hb hby d2_5) rfl rfl ?_
    show Steps p.tables e below (s₁.setTop (mkF m 6 #[.val (.ref a1), .val (.ref a2)] [(.ref a1)])) _
    refine st4 _ ?_
    show Steps p.tables e below (T4.setTop (mkF m 9 #[.val (.ref a1), .val (.ref a2)] [(.ref w3), (.ref a1)])) _
    refine Jvm.RoadKit.acmp (g := (mkF m 9 #[.val (.ref a1), .val (.ref a2)] [(.ref w3), (.ref a1)])) X4 hx rfl rfl rfl (pc0 := 9) (pc' := 23) (same := false) rfl (hb hby d2_9) rfl (decide_eq_false fun q => ha9 (Value.ref.inj q)) (by decide) (by decide) ?_
    show Steps p.tables e below (T4.setTop (mkF m 23 #[.val (.ref a1), .val (.ref a2)] [])) _
    refine XS.iconst X4.here hx rfl (hb hby d2_23) ?_
    show Steps p.tables e below (T4.setTop (mkF m 24 #[.val (.ref a1), .val (.ref a2)] [(.int (0 : Int32))])) _
    exact retN X4 hx (t := .boolean) Bd.returns (by simp) (hb hby d2_24) hr
  · show Q2 (.int (0 : Int32)) h0 n0 _ T4.heap _
    rw [e4]
    exact ⟨rfl, N0, rfl⟩
set_option maxRecDepth 65536 in
set_option maxHeartbeats 40000000 in
theorem rm2fft (l : Launch) (Z : State) (a0 : Array Value) (hw : ∀ d ∈ tables_1, d.before a0 Z = true) (ws : List Jvm.Cond) (a1 : Addr) (a2 : Addr) (w3 : Addr) (w5 : Addr) (h0 : Heap) (n0 : Nat) (Z0 : n0 ≤ h0.size) (S_IX : Sta Z h0 "com/example/enqueue/enqueue/core/lock/TableLockMode" "IX" "Lcom/example/enqueue/enqueue/core/lock/TableLockMode;" (.ref w3)) (S_IS : Sta Z h0 "com/example/enqueue/enqueue/core/lock/TableLockMode" "IS" "Lcom/example/enqueue/enqueue/core/lock/TableLockMode;" (.ref w5)) (ha2 : ¬ (a1 = a2)) (ha9 : a1 = w3) (ha16 : ¬ (a2 = w5)) :
    MetFree l (⟨"com/example/enqueue/enqueue/core/lock/TableLockMode", "covers", "(Lcom/example/enqueue/enqueue/core/lock/TableLockMode;)Z"⟩ : MethodName) (head1 (Jvm.Cond.code (⟨"com/example/enqueue/enqueue/core/lock/TableLockMode", "covers", "(Lcom/example/enqueue/enqueue/core/lock/TableLockMode;)Z"⟩ : MethodName) prog_82_method_5_code 2 (some .boolean) :: ws) ({ frames := 0, cells := 0, slots := 0, locals := 0 } : Room)) (fun a U => a = #[(.ref a1), (.ref a2)] ∧ Z.Warmed39 U.vm ∧ U.heap = h0) (fun _ _ _ _ _ => True) (fun _ U o U' => ∃ v L, o = .returned v ∧ Q2 (.int (0 : Int32)) h0 n0 v U'.heap L ∧ FrameEnd U o U' L ({ frames := 0, cells := 0, slots := 0, locals := 0 } : Room).cells ({ frames := 0, cells := 0, slots := 0, locals := 0 } : Room).slots) := by
  refine MetFree.of_bodySF (plainFor_of_name pn_2) hisR ?_
  intro p e s m args below meth c s₁ Bd hml0 hP hK
  obtain ⟨rfl, hZ, hh⟩ := hP
  have hx := Bd.exec
  have hby := Bd.bytes
  have hml : c.maxLocals = 2 := hml0
  have hown : s.vm.findClass "com/example/enqueue/enqueue/core/lock/TableLockMode" = some m.cls := findClass_of_methodNamed Bd.named
  have hnm := (name_of_methodNamed Bd.named Bd.method).1
  have X0 : Stand p l e ({ frames := 0, cells := 0, slots := 0, locals := 0 } : Room) s m #[(.ref a1), (.ref a2)] below meth c s₁ [] 0 0 := Stand.of_body Bd
  have e0 : s₁.heap = h0 := by rw [← hh, Bd.state]; rfl
  have N0 := Fr.nil n0
  have pre0 : ∀ t, Steps p.tables e below (s₁.setTop (mkF m 0 #[.val (.ref a1), .val (.ref a2)] [])) t → Steps p.tables e below (s₁.setTop (entryFrame m #[(.ref a1), (.ref a2)] 2)) t := fun t k => castTop (ef_2 m a1 a2) k
  obtain ⟨T4, X4, e4, st4⟩ := getS2 X0 hx hZ hown (host := "") (Or.inl (hw _ (List.mem_of_getElem? (i := 18) rfl))) Via.refl e0 S_IX (g := (mkF m 6 #[.val (.ref a1), .val (.ref a2)] [(.ref a1)])) rfl (hb hby d2_6)
  obtain ⟨T6, X6, e6, st6⟩ := getS2 X4 hx hZ hown (host := "") (Or.inl (hw _ (List.mem_of_getElem? (i := 19) rfl))) Via.refl e4 S_IS (g := (mkF m 13 #[.val (.ref a1), .val (.ref a2)] [(.ref a2)])) rfl (hb hby d2_13)
  obtain ⟨fs, hr, hrun, hended, hW, hsame⟩ := X6.leave (v := some (.int (0 : Int32))) (fun h => by rw [Bd.returns] at h; cases h)
  refine ⟨_, _, pre0 _ ?_, hrun, hended, _, _, rfl, ?_, ⟨_, rfl⟩, hW, hsame.mono (by decide) (by decide)⟩
  · show Steps p.tables e below (s₁.setTop (mkF m 0 #[.val (.ref a1), .val (.ref a2)] [])) _
    refine XS.aloadN X0.here hx rfl (hb hby d2_0) rfl rfl ?_
    show Steps p.tables e below (s₁.setTop (mkF m 1 #[.val (.ref a1), .val (.ref a2)] [(.ref a1)])) _
    refine XS.aloadN X0.here hx rfl (hb hby d2_1) rfl rfl ?_
    show Steps p.tables e below (s₁.setTop (mkF m 2 #[.val (.ref a1), .val (.ref a2)] [(.ref a2), (.ref a1)])) _
    refine Jvm.RoadKit.acmp (g := (mkF m 2 #[.val (.ref a1), .val (.ref a2)] [(.ref a2), (.ref a1)])) X0 hx rfl rfl rfl (pc0 := 2) (pc' := 5) (same := false) rfl (hb hby d2_2) rfl (decide_eq_false fun q => ha2 (Value.ref.inj q)) (by decide) (by decide) ?_
    show Steps p.tables e below (s₁.setTop (mkF m 5 #[.val (.ref a1), .val (.ref a2)] [])) _
    refine XS.aloadN X0.here hx rfl (hb hby d2_5) rfl rfl ?_
    show Steps p.tables e below (s₁.setTop (mkF m 6 #[.val (.ref a1), .val (.ref a2)] [(.ref a1)])) _
    refine st4 _ ?_
    show Steps p.tables e below (T4.setTop (mkF m 9 #[.val (.ref a1), .val (.ref a2)] [(.ref w3), (.ref a1)])) _
    refine Jvm.RoadKit.acmp (g := (mkF m 9 #[.val (.ref a1), .val (.ref a2)] [(.ref w3), (.ref a1)])) X4 hx rfl rfl rfl (pc0 := 9) (pc' := 12) (same := true) rfl (hb hby d2_9) rfl (decide_eq_true (congrArg Value.ref ha9)) (by decide) (by decide) ?_
    show Steps p.tables e below (T4.setTop (mkF m 12 #[.val (.ref a1), .val (.ref a2)] [])) _
    refine XS.aloadN X4.here hx rfl (hb hby d2_12) rfl rfl ?_
    show Steps p.tables e below (T4.setTop (mkF m 13 #[.val (.ref a1), .val (.ref a2)] [(.ref a2)])) _
    refine st6 _ ?_
    show Steps p.tables e below (T6.setTop (mkF m 16 #[.val (.ref a1), .val (.ref a2)] [(.ref w5), (.ref a2)])) _
    refine Jvm.RoadKit.acmp (g := (mkF m 16 #[.val (.ref a1), .val (.ref a2)] [(.ref w5), (.ref a2)])) X6 hx rfl rfl rfl (pc0 := 16) (pc' := 23) (same := false) rfl (hb hby d2_16) rfl (decide_eq_false fun q => ha16 (Value.ref.inj q)) (by decide) (by decide) ?_
    show Steps p.tables e below (T6.setTop (mkF m 23 #[.val (.ref a1), .val (.ref a2)] [])) _
    refine XS.iconst X6.here hx rfl (hb hby d2_23) ?_
    show Steps p.tables e below (T6.setTop (mkF m 24 #[.val (.ref a1), .val (.ref a2)] [(.int (0 : Int32))])) _
    exact retN X6 hx (t := .boolean) Bd.returns (by simp) (hb hby d2_24) hr
  · show Q2 (.int (0 : Int32)) h0 n0 _ T6.heap _
    rw [e6]
    exact ⟨rfl, N0, rfl⟩
set_option maxRecDepth 65536 in
set_option maxHeartbeats 40000000 in
theorem rm2fff (l : Launch) (Z : State) (a0 : Array Value) (hw : ∀ d ∈ tables_1, d.before a0 Z = true) (ws : List Jvm.Cond) (a1 : Addr) (a2 : Addr) (w3 : Addr) (w5 : Addr) (h0 : Heap) (n0 : Nat) (Z0 : n0 ≤ h0.size) (S_IX : Sta Z h0 "com/example/enqueue/enqueue/core/lock/TableLockMode" "IX" "Lcom/example/enqueue/enqueue/core/lock/TableLockMode;" (.ref w3)) (S_IS : Sta Z h0 "com/example/enqueue/enqueue/core/lock/TableLockMode" "IS" "Lcom/example/enqueue/enqueue/core/lock/TableLockMode;" (.ref w5)) (ha2 : ¬ (a1 = a2)) (ha9 : a1 = w3) (ha16 : a2 = w5) :
    MetFree l (⟨"com/example/enqueue/enqueue/core/lock/TableLockMode", "covers", "(Lcom/example/enqueue/enqueue/core/lock/TableLockMode;)Z"⟩ : MethodName) (head1 (Jvm.Cond.code (⟨"com/example/enqueue/enqueue/core/lock/TableLockMode", "covers", "(Lcom/example/enqueue/enqueue/core/lock/TableLockMode;)Z"⟩ : MethodName) prog_82_method_5_code 2 (some .boolean) :: ws) ({ frames := 0, cells := 0, slots := 0, locals := 0 } : Room)) (fun a U => a = #[(.ref a1), (.ref a2)] ∧ Z.Warmed39 U.vm ∧ U.heap = h0) (fun _ _ _ _ _ => True) (fun _ U o U' => ∃ v L, o = .returned v ∧ Q2 (.int (1 : Int32)) h0 n0 v U'.heap L ∧ FrameEnd U o U' L ({ frames := 0, cells := 0, slots := 0, locals := 0 } : Room).cells ({ frames := 0, cells := 0, slots := 0, locals := 0 } : Room).slots) := by
  refine MetFree.of_bodySF (plainFor_of_name pn_2) hisR ?_
  intro p e s m args below meth c s₁ Bd hml0 hP hK
  obtain ⟨rfl, hZ, hh⟩ := hP
  have hx := Bd.exec
  have hby := Bd.bytes
  have hml : c.maxLocals = 2 := hml0
  have hown : s.vm.findClass "com/example/enqueue/enqueue/core/lock/TableLockMode" = some m.cls := findClass_of_methodNamed Bd.named
  have hnm := (name_of_methodNamed Bd.named Bd.method).1
  have X0 : Stand p l e ({ frames := 0, cells := 0, slots := 0, locals := 0 } : Room) s m #[(.ref a1), (.ref a2)] below meth c s₁ [] 0 0 := Stand.of_body Bd
  have e0 : s₁.heap = h0 := by rw [← hh, Bd.state]; rfl
  have N0 := Fr.nil n0
  have pre0 : ∀ t, Steps p.tables e below (s₁.setTop (mkF m 0 #[.val (.ref a1), .val (.ref a2)] [])) t → Steps p.tables e below (s₁.setTop (entryFrame m #[(.ref a1), (.ref a2)] 2)) t := fun t k => castTop (ef_2 m a1 a2) k
  obtain ⟨T4, X4, e4, st4⟩ := getS2 X0 hx hZ hown (host := "") (Or.inl (hw _ (List.mem_of_getElem? (i := 18) rfl))) Via.refl e0 S_IX (g := (mkF m 6 #[.val (.ref a1), .val (.ref a2)] [(.ref a1)])) rfl (hb hby d2_6)
  obtain ⟨T6, X6, e6, st6⟩ := getS2 X4 hx hZ hown (host := "") (Or.inl (hw _ (List.mem_of_getElem? (i := 19) rfl))) Via.refl e4 S_IS (g := (mkF m 13 #[.val (.ref a1), .val (.ref a2)] [(.ref a2)])) rfl (hb hby d2_13)
  obtain ⟨fs, hr, hrun, hended, hW, hsame⟩ := X6.leave (v := some (.int (1 : Int32))) (fun h => by rw [Bd.returns] at h; cases h)
  refine ⟨_, _, pre0 _ ?_, hrun, hended, _, _, rfl, ?_, ⟨_, rfl⟩, hW, hsame.mono (by decide) (by decide)⟩
  · show Steps p.tables e below (s₁.setTop (mkF m 0 #[.val (.ref a1), .val (.ref a2)] [])) _
    refine XS.aloadN X0.here hx rfl (hb hby d2_0) rfl rfl ?_
    show Steps p.tables e below (s₁.setTop (mkF m 1 #[.val (.ref a1), .val (.ref a2)] [(.ref a1)])) _
    refine XS.aloadN X0.here hx rfl (hb hby d2_1) rfl rfl ?_
    show Steps p.tables e below (s₁.setTop (mkF m 2 #[.val (.ref a1), .val (.ref a2)] [(.ref a2), (.ref a1)])) _
    refine Jvm.RoadKit.acmp (g := (mkF m 2 #[.val (.ref a1), .val (.ref a2)] [(.ref a2), (.ref a1)])) X0 hx rfl rfl rfl (pc0 := 2) (pc' := 5) (same := false) rfl (hb hby d2_2) rfl (decide_eq_false fun q => ha2 (Value.ref.inj q)) (by decide) (by decide) ?_
    show Steps p.tables e below (s₁.setTop (mkF m 5 #[.val (.ref a1), .val (.ref a2)] [])) _
    refine XS.aloadN X0.here hx rfl (hb hby d2_5) rfl rfl ?_
    show Steps p.tables e below (s₁.setTop (mkF m 6 #[.val (.ref a1), .val (.ref a2)] [(.ref a1)])) _
    refine st4 _ ?_
    show Steps p.tables e below (T4.setTop (mkF m 9 #[.val (.ref a1), .val (.ref a2)] [(.ref w3), (.ref a1)])) _
    refine Jvm.RoadKit.acmp (g := (mkF m 9 #[.val (.ref a1), .val (.ref a2)] [(.ref w3), (.ref a1)])) X4 hx rfl rfl rfl (pc0 := 9) (pc' := 12) (same := true) rfl (hb hby d2_9) rfl (decide_eq_true (congrArg Value.ref ha9)) (by decide) (by decide) ?_
    show Steps p.tables e below (T4.setTop (mkF m 12 #[.val (.ref a1), .val (.ref a2)] [])) _
    refine XS.aloadN X4.here hx rfl (hb hby d2_12) rfl rfl ?_
    show Steps p.tables e below (T4.setTop (mkF m 13 #[.val (.ref a1), .val (.ref a2)] [(.ref a2)])) _
    refine st6 _ ?_
    show Steps p.tables e below (T6.setTop (mkF m 16 #[.val (.ref a1), .val (.ref a2)] [(.ref w5), (.ref a2)])) _
    refine Jvm.RoadKit.acmp (g := (mkF m 16 #[.val (.ref a1), .val (.ref a2)] [(.ref w5), (.ref a2)])) X6 hx rfl rfl rfl (pc0 := 16) (pc' := 19) (same := true) rfl (hb hby d2_16) rfl (decide_eq_true (congrArg Value.ref ha16)) (by decide) (by decide) ?_
    show Steps p.tables e below (T6.setTop (mkF m 19 #[.val (.ref a1), .val (.ref a2)] [])) _
    refine XS.iconst X6.here hx rfl (hb hby d2_19) ?_
    show Steps p.tables e below (T6.setTop (mkF m 20 #[.val (.ref a1), .val (.ref a2)] [(.int (1 : Int32))])) _
    refine XS.goto X6.here hx rfl (pc0 := 20) (pc' := 24) rfl (hb hby d2_20) (by decide) (by decide) ?_
    show Steps p.tables e below (T6.setTop (mkF m 24 #[.val (.ref a1), .val (.ref a2)] [(.int (1 : Int32))])) _
    exact retN X6 hx (t := .boolean) Bd.returns (by simp) (hb hby d2_24) hr
  · show Q2 (.int (1 : Int32)) h0 n0 _ T6.heap _
    rw [e6]
    exact ⟨rfl, N0, rfl⟩
set_option maxHeartbeats 4000000 in
theorem rm2 (l : Launch) (Z : State) (a0 : Array Value) (hw : ∀ d ∈ tables_1, d.before a0 Z = true) (ws : List Jvm.Cond) (a1 : Addr) (a2 : Addr) (aS aX : Addr) (h0 : Heap) (n0 : Nat) (Z0 : n0 ≤ h0.size) (SS : Sta Z h0 "com/example/enqueue/enqueue/core/lock/TableLockMode" "IS" "Lcom/example/enqueue/enqueue/core/lock/TableLockMode;" (.ref aS)) (SX : Sta Z h0 "com/example/enqueue/enqueue/core/lock/TableLockMode" "IX" "Lcom/example/enqueue/enqueue/core/lock/TableLockMode;" (.ref aX)) :
    MetFree l (⟨"com/example/enqueue/enqueue/core/lock/TableLockMode", "covers", "(Lcom/example/enqueue/enqueue/core/lock/TableLockMode;)Z"⟩ : MethodName) (head1 (Jvm.Cond.code (⟨"com/example/enqueue/enqueue/core/lock/TableLockMode", "covers", "(Lcom/example/enqueue/enqueue/core/lock/TableLockMode;)Z"⟩ : MethodName) prog_82_method_5_code 2 (some .boolean) :: ws) ({ frames := 0, cells := 0, slots := 0, locals := 0 } : Room)) (fun a U => a = #[(.ref a1), (.ref a2)] ∧ Z.Warmed39 U.vm ∧ U.heap = h0) (fun _ _ _ _ _ => True) (fun _ U o U' => ∃ v L, o = .returned v ∧ Q2 (.int (own_cov a1 a2 aS aX)) h0 n0 v U'.heap L ∧ FrameEnd U o U' L ({ frames := 0, cells := 0, slots := 0, locals := 0 } : Room).cells ({ frames := 0, cells := 0, slots := 0, locals := 0 } : Room).slots) := by
  by_cases h : a1 = a2
  · have e : own_cov a1 a2 aS aX = 1 := if_pos h
    rw [e]; exact rm2t l Z a0 hw ws a1 a2 h0 n0 Z0 h
  · by_cases h2 : a1 = aX
    · by_cases h3 : a2 = aS
      · have e : own_cov a1 a2 aS aX = 1 := by rw [own_cov, if_neg h, if_pos h2, if_pos h3]
        rw [e]; exact rm2fff l Z a0 hw ws a1 a2 aX aS h0 n0 Z0 SX SS h h2 h3
      · have e : own_cov a1 a2 aS aX = 0 := by rw [own_cov, if_neg h, if_pos h2, if_neg h3]
        rw [e]; exact rm2fft l Z a0 hw ws a1 a2 aX aS h0 n0 Z0 SX SS h h2 h3
    · have e : own_cov a1 a2 aS aX = 0 := by rw [own_cov, if_neg h, if_neg h2]
      rw [e]; exact rm2ft l Z a0 hw ws a1 a2 aX h0 n0 Z0 SX h h2
theorem pn_0 : plainName "com/example/enqueue/enqueue/core/lock/TableLockModeCoversPinLaw" = true := by first | (simp [plainName, overriddenIn]; done) | decide +kernel
theorem pd_0_0 : parseMethodDescriptor "(I)Lcom/example/enqueue/enqueue/core/lock/TableLockMode;" = some ⟨[.int], some (.object "com/example/enqueue/enqueue/core/lock/TableLockMode")⟩ := by decide +kernel
theorem pd_0_1 : parseMethodDescriptor "(Lcom/example/enqueue/enqueue/core/lock/TableLockMode;)Z" = some ⟨[(.object "com/example/enqueue/enqueue/core/lock/TableLockMode")], some .boolean⟩ := by decide +kernel
theorem ef_0 (m : MethodId) (x0 : Int32) (x1 : Int32) : entryFrame m #[(.int x0), (.int x1)] maxLocals = mkF m 0 #[.val (.int x0), .val (.int x1), .unset, .unset, .unset] [] := by first | (simp [entryFrame, mkF, argsToLocals, Value.category, maxLocals]; done) | rfl
def Q0 (n0 : Nat) (v : Option Value) (h : Heap) (L : List Loc) : Prop := v = some (.int (1 : Int32)) ∧ Fr n0 L
set_option maxRecDepth 65536 in
set_option maxHeartbeats 40000000 in
theorem rm0 (l : Launch) (Z : State) (a0 : Array Value) (hw : ∀ d ∈ tables_1, d.before a0 Z = true) (ws : List Jvm.Cond) (p1 : Int32) (p2 : Int32) (aA aS aX : Addr) (h0 : Heap) (n0 : Nat) (Z0 : n0 ≤ h0.size) (SA : Sta Z h0 "com/example/enqueue/enqueue/core/lock/TableLockMode" "AUTO_INC" "Lcom/example/enqueue/enqueue/core/lock/TableLockMode;" (.ref aA)) (SS : Sta Z h0 "com/example/enqueue/enqueue/core/lock/TableLockMode" "IS" "Lcom/example/enqueue/enqueue/core/lock/TableLockMode;" (.ref aS)) (SX : Sta Z h0 "com/example/enqueue/enqueue/core/lock/TableLockMode" "IX" "Lcom/example/enqueue/enqueue/core/lock/TableLockMode;" (.ref aX)) (EA : Exa Z h0 aA "com/example/enqueue/enqueue/core/lock/TableLockMode") (ES : Exa Z h0 aS "com/example/enqueue/enqueue/core/lock/TableLockMode") (EX : Exa Z h0 aX "com/example/enqueue/enqueue/core/lock/TableLockMode") (hfin : (¬ ((own_k p1) * 3 + (own_k p2) < 0) ∧ (own_k p1) * 3 + (own_k p2) < 9) ∧ own_tab.getD ((own_k p1) * 3 + (own_k p2)).toNatClampNeg (.int 0) = .int (own_cov (own_pick (own_k p1) aA aS aX) (own_pick (own_k p2) aA aS aX) aS aX)) (hnz5 : ¬ ((3 : Int32) = (0 : Int32))) (hnz12 : ¬ ((3 : Int32) = (0 : Int32))) :
    MetFree l x (head1 (Jvm.Cond.code x code maxLocals ret :: ws) room_1) (fun a U => a = #[(.int p1), (.int p2)] ∧ Z.Warmed39 U.vm ∧ U.heap = h0) (fun _ _ _ _ _ => True) (fun _ U o U' => ∃ v L, o = .returned v ∧ Q0 n0 v U'.heap L ∧ FrameEnd U o U' L room_1.cells room_1.slots) := by
  refine MetFree.of_bodySF (plainFor_of_name pn_0) hisR ?_
  intro p e s m args below meth c s₁ Bd hml0 hP hK
  obtain ⟨rfl, hZ, hh⟩ := hP
  have hx := Bd.exec
  have hby := Bd.bytes
  have hml : c.maxLocals = 5 := hml0
  have hown : s.vm.findClass "com/example/enqueue/enqueue/core/lock/TableLockModeCoversPinLaw" = some m.cls := findClass_of_methodNamed Bd.named
  have hnm := (name_of_methodNamed Bd.named Bd.method).1
  have X0 : Stand p l e room_1 s m #[(.int p1), (.int p2)] below meth c s₁ [] 0 0 := Stand.of_body Bd
  have e0 : s₁.heap = h0 := by rw [← hh, Bd.state]; rfl
  have N0 := Fr.nil n0
  have pre0 : ∀ t, Steps p.tables e below (s₁.setTop (mkF m 0 #[.val (.int p1), .val (.int p2), .unset, .unset, .unset] [])) t → Steps p.tables e below (s₁.setTop (entryFrame m #[(.int p1), (.int p2)] maxLocals)) t := fun t k => castTop (ef_0 m p1 p2) k
  obtain ⟨T3, h3, k3, X3, e3, E3, A3, st3⟩ := newP X0 hx hZ (hw _ (List.mem_of_getElem? (i := 1) rfl)) e0 (g := (mkF m 16 #[.val (.int p1), .val (.int p2), .val (.int (own_k p1)), .val (.int (own_k p2)), .unset] [(.int (9 : Int32))])) rfl (hb hby at_16) rfl (by decide) (cap := 9) (by decide) (by decide) (by decide) (by decide)
  obtain ⟨b3, g3⟩ : ∃ z, z = h0.size := ⟨_, rfl⟩
  rw [← g3] at A3 st3
  have V_b3 : Arv Z h3 b3 k3 .boolean (9 : Int32) [(.int (0 : Int32)), (.int (0 : Int32)), (.int (0 : Int32)), (.int (0 : Int32)), (.int (0 : Int32)), (.int (0 : Int32)), (.int (0 : Int32)), (.int (0 : Int32)), (.int (0 : Int32))] (.int (0 : Int32)) := (Arv.new A3 (by decide)).pad (pad_rep [] (.int (0 : Int32)) 9)
  have g_b3 : n0 ≤ b3 := Nat.le_trans Z0 (Nat.le_of_eq g3.symm)
  have sz_b3 : h0.size ≤ b3 := (Nat.le_trans (Keep.refl h0 []).1 (Nat.le_of_eq g3.symm))
  have K3 : Keep h0 h3 [] := (Keep.refl h0 []).ext E3
  obtain ⟨cl_b3_21, Ar_b3, q_b3, S_b3, N_b3, H_b3, G_b3⟩ := V_b3
  have hin21 : ¬ ((0 : Int32) < 0 ∨ cl_b3_21.slots.size ≤ ((0 : Int32)).toNatClampNeg) := inb_of S_b3 ⟨by decide, by decide⟩
  obtain ⟨T4, h4, X4, e4, W4, st4⟩ := stZ X3 hx hZ e3 Ar_b3 (j := (0 : Int32)) hin21 (g := (mkF m 21 #[.val (.int p1), .val (.int p2), .val (.int (own_k p1)), .val (.int (own_k p2)), .unset] [(.int (1 : Int32)), (.int (0 : Int32)), (.ref b3), (.ref b3)])) rfl rfl (hb hby at_21)
  have V_b3_4 := Arv.set Ar_b3 q_b3 S_b3 N_b3 H_b3 G_b3 (fits_nar_bool _) W4 0 rfl (Nat.le_of_ble_eq_true rfl)
  have K4 : Keep h0 h4 [] := K3.wr W4 (Or.inr sz_b3)
  have N4 := Fr.snoc X4 N0 g_b3
  obtain ⟨cl_b3_25, Ar_b3, q_b3, S_b3, N_b3, H_b3, G_b3⟩ := V_b3_4
  have hin25 : ¬ ((1 : Int32) < 0 ∨ cl_b3_25.slots.size ≤ ((1 : Int32)).toNatClampNeg) := inb_of S_b3 ⟨by decide, by decide⟩
  obtain ⟨T5, h5, X5, e5, W5, st5⟩ := stZ X4 hx hZ e4 Ar_b3 (j := (1 : Int32)) hin25 (g := (mkF m 25 #[.val (.int p1), .val (.int p2), .val (.int (own_k p1)), .val (.int (own_k p2)), .unset] [(.int (0 : Int32)), (.int (1 : Int32)), (.ref b3), (.ref b3)])) rfl rfl (hb hby at_25)
  have V_b3_5 := Arv.set Ar_b3 q_b3 S_b3 N_b3 H_b3 G_b3 (fits_nar_bool _) W5 1 rfl (Nat.le_of_ble_eq_true rfl)
  have K5 : Keep h0 h5 [] := K4.wr W5 (Or.inr sz_b3)
  have N5 := Fr.snoc X5 N4 g_b3
  obtain ⟨cl_b3_29, Ar_b3, q_b3, S_b3, N_b3, H_b3, G_b3⟩ := V_b3_5
  have hin29 : ¬ ((2 : Int32) < 0 ∨ cl_b3_29.slots.size ≤ ((2 : Int32)).toNatClampNeg) := inb_of S_b3 ⟨by decide, by decide⟩
  obtain ⟨T6, h6, X6, e6, W6, st6⟩ := stZ X5 hx hZ e5 Ar_b3 (j := (2 : Int32)) hin29 (g := (mkF m 29 #[.val (.int p1), .val (.int p2), .val (.int (own_k p1)), .val (.int (own_k p2)), .unset] [(.int (0 : Int32)), (.int (2 : Int32)), (.ref b3), (.ref b3)])) rfl rfl (hb hby at_29)
  have V_b3_6 := Arv.set Ar_b3 q_b3 S_b3 N_b3 H_b3 G_b3 (fits_nar_bool _) W6 2 rfl (Nat.le_of_ble_eq_true rfl)
  have K6 : Keep h0 h6 [] := K5.wr W6 (Or.inr sz_b3)
  have N6 := Fr.snoc X6 N5 g_b3
  obtain ⟨cl_b3_33, Ar_b3, q_b3, S_b3, N_b3, H_b3, G_b3⟩ := V_b3_6
  have hin33 : ¬ ((3 : Int32) < 0 ∨ cl_b3_33.slots.size ≤ ((3 : Int32)).toNatClampNeg) := inb_of S_b3 ⟨by decide, by decide⟩
  obtain ⟨T7, h7, X7, e7, W7, st7⟩ := stZ X6 hx hZ e6 Ar_b3 (j := (3 : Int32)) hin33 (g := (mkF m 33 #[.val (.int p1), .val (.int p2), .val (.int (own_k p1)), .val (.int (own_k p2)), .unset] [(.int (0 : Int32)), (.int (3 : Int32)), (.ref b3), (.ref b3)])) rfl rfl (hb hby at_33)
  have V_b3_7 := Arv.set Ar_b3 q_b3 S_b3 N_b3 H_b3 G_b3 (fits_nar_bool _) W7 3 rfl (Nat.le_of_ble_eq_true rfl)
  have K7 : Keep h0 h7 [] := K6.wr W7 (Or.inr sz_b3)
  have N7 := Fr.snoc X7 N6 g_b3
  obtain ⟨cl_b3_37, Ar_b3, q_b3, S_b3, N_b3, H_b3, G_b3⟩ := V_b3_7
  have hin37 : ¬ ((4 : Int32) < 0 ∨ cl_b3_37.slots.size ≤ ((4 : Int32)).toNatClampNeg) := inb_of S_b3 ⟨by decide, by decide⟩
  obtain ⟨T8, h8, X8, e8, W8, st8⟩ := stZ X7 hx hZ e7 Ar_b3 (j := (4 : Int32)) hin37 (g := (mkF m 37 #[.val (.int p1), .val (.int p2), .val (.int (own_k p1)), .val (.int (own_k p2)), .unset] [(.int (1 : Int32)), (.int (4 : Int32)), (.ref b3), (.ref b3)])) rfl rfl (hb hby at_37)
  have V_b3_8 := Arv.set Ar_b3 q_b3 S_b3 N_b3 H_b3 G_b3 (fits_nar_bool _) W8 4 rfl (Nat.le_of_ble_eq_true rfl)
  have K8 : Keep h0 h8 [] := K7.wr W8 (Or.inr sz_b3)
  have N8 := Fr.snoc X8 N7 g_b3
  obtain ⟨cl_b3_41, Ar_b3, q_b3, S_b3, N_b3, H_b3, G_b3⟩ := V_b3_8
  have hin41 : ¬ ((5 : Int32) < 0 ∨ cl_b3_41.slots.size ≤ ((5 : Int32)).toNatClampNeg) := inb_of S_b3 ⟨by decide, by decide⟩
  obtain ⟨T9, h9, X9, e9, W9, st9⟩ := stZ X8 hx hZ e8 Ar_b3 (j := (5 : Int32)) hin41 (g := (mkF m 41 #[.val (.int p1), .val (.int p2), .val (.int (own_k p1)), .val (.int (own_k p2)), .unset] [(.int (0 : Int32)), (.int (5 : Int32)), (.ref b3), (.ref b3)])) rfl rfl (hb hby at_41)
  have V_b3_9 := Arv.set Ar_b3 q_b3 S_b3 N_b3 H_b3 G_b3 (fits_nar_bool _) W9 5 rfl (Nat.le_of_ble_eq_true rfl)
  have K9 : Keep h0 h9 [] := K8.wr W9 (Or.inr sz_b3)
  have N9 := Fr.snoc X9 N8 g_b3
  obtain ⟨cl_b3_46, Ar_b3, q_b3, S_b3, N_b3, H_b3, G_b3⟩ := V_b3_9
  have hin46 : ¬ ((6 : Int32) < 0 ∨ cl_b3_46.slots.size ≤ ((6 : Int32)).toNatClampNeg) := inb_of S_b3 ⟨by decide, by decide⟩
  obtain ⟨T10, h10, X10, e10, W10, st10⟩ := stZ X9 hx hZ e9 Ar_b3 (j := (6 : Int32)) hin46 (g := (mkF m 46 #[.val (.int p1), .val (.int p2), .val (.int (own_k p1)), .val (.int (own_k p2)), .unset] [(.int (0 : Int32)), (.int (6 : Int32)), (.ref b3), (.ref b3)])) rfl rfl (hb hby at_46)
  have V_b3_10 := Arv.set Ar_b3 q_b3 S_b3 N_b3 H_b3 G_b3 (fits_nar_bool _) W10 6 rfl (Nat.le_of_ble_eq_true rfl)
  have K10 : Keep h0 h10 [] := K9.wr W10 (Or.inr sz_b3)
  have N10 := Fr.snoc X10 N9 g_b3
  obtain ⟨cl_b3_51, Ar_b3, q_b3, S_b3, N_b3, H_b3, G_b3⟩ := V_b3_10
  have hin51 : ¬ ((7 : Int32) < 0 ∨ cl_b3_51.slots.size ≤ ((7 : Int32)).toNatClampNeg) := inb_of S_b3 ⟨by decide, by decide⟩
  obtain ⟨T11, h11, X11, e11, W11, st11⟩ := stZ X10 hx hZ e10 Ar_b3 (j := (7 : Int32)) hin51 (g := (mkF m 51 #[.val (.int p1), .val (.int p2), .val (.int (own_k p1)), .val (.int (own_k p2)), .unset] [(.int (1 : Int32)), (.int (7 : Int32)), (.ref b3), (.ref b3)])) rfl rfl (hb hby at_51)
  have V_b3_11 := Arv.set Ar_b3 q_b3 S_b3 N_b3 H_b3 G_b3 (fits_nar_bool _) W11 7 rfl (Nat.le_of_ble_eq_true rfl)
  have K11 : Keep h0 h11 [] := K10.wr W11 (Or.inr sz_b3)
  have N11 := Fr.snoc X11 N10 g_b3
  obtain ⟨cl_b3_56, Ar_b3, q_b3, S_b3, N_b3, H_b3, G_b3⟩ := V_b3_11
  have hin56 : ¬ ((8 : Int32) < 0 ∨ cl_b3_56.slots.size ≤ ((8 : Int32)).toNatClampNeg) := inb_of S_b3 ⟨by decide, by decide⟩
  obtain ⟨T12, h12, X12, e12, W12, st12⟩ := stZ X11 hx hZ e11 Ar_b3 (j := (8 : Int32)) hin56 (g := (mkF m 56 #[.val (.int p1), .val (.int p2), .val (.int (own_k p1)), .val (.int (own_k p2)), .unset] [(.int (1 : Int32)), (.int (8 : Int32)), (.ref b3), (.ref b3)])) rfl rfl (hb hby at_56)
  have V_b3_12 := Arv.set Ar_b3 q_b3 S_b3 N_b3 H_b3 G_b3 (fits_nar_bool _) W12 8 rfl (Nat.le_of_ble_eq_true rfl)
  have K12 : Keep h0 h12 [] := K11.wr W12 (Or.inr sz_b3)
  have N12 := Fr.snoc X12 N11 g_b3
  have Z12 : n0 ≤ h12.size := Nat.le_trans Z0 K12.1
  have SA12 := own_sta SA K12
  have SS12 := own_sta SS K12
  have SX12 := own_sta SX K12
  have V12 : Arv Z h12 b3 k3 .boolean (9 : Int32) own_tab (.int (0 : Int32)) := V_b3_12
  obtain ⟨_, _, ⟨T13, L13, k13, n13⟩, -, X13, ⟨Lc13, hQ13, l13, y13, z13⟩, st13⟩ := Jvm.LawKit.callS X12 hx (y := (⟨"com/example/enqueue/enqueue/core/lock/TableLockModeCoversPinLaw", "mode", "(I)Lcom/example/enqueue/enqueue/core/lock/TableLockMode;"⟩ : MethodName)) hown (mvT hZ (hw _ (List.mem_of_getElem? (i := 2) rfl))) (mvT hZ (hw _ (List.mem_of_getElem? (i := 3) rfl))) (mvT hZ (hw _ (List.mem_of_getElem? (i := 4) rfl))) (mvT hZ (hw _ (List.mem_of_getElem? (i := 5) rfl))) (by decide) (backOf (W := 0) (rm1 l Z a0 hw [] (own_k p1) aA aS aX h12 n0 Z12 SA12 SS12 SX12) hZ (hw _ (List.mem_of_getElem? (i := 5) rfl)) (hw _ (List.mem_of_getElem? (i := 4) rfl)) (by decide) (by decide)) (g := (mkF m 60 #[.val (.int p1), .val (.int p2), .val (.int (own_k p1)), .val (.int (own_k p2)), .val (.ref b3)] [(.int (own_k p1))])) rfl (by rw [hml]; rfl) (argsL := [(.int (own_k p1))]) (rest := []) (lenOf pd_0_0 rfl) rfl (by show 2 * 0 + _ ≤ _; exact Nat.le_of_eq rfl) (hb hby at_60) (fun _ _ => ⟨rfl, e12, (by decide : 1 + 0 ≤ _), (by decide : 9 + 0 ≤ _)⟩)
  dsimp only [Pt.U, Pt.locs, Pt.cells, Pt.slots] at X13 l13 y13 z13 st13 hQ13
  subst l13 y13 z13
  obtain ⟨rfl, N13q, e13⟩ := hQ13
  have N13 := Fr.app N12 N13q
  have K13 := own_keep e13
  obtain ⟨_, _, ⟨T14, L14, k14, n14⟩, -, X14, ⟨Lc14, hQ14, l14, y14, z14⟩, st14⟩ := Jvm.LawKit.callS X13 hx (y := (⟨"com/example/enqueue/enqueue/core/lock/TableLockModeCoversPinLaw", "mode", "(I)Lcom/example/enqueue/enqueue/core/lock/TableLockMode;"⟩ : MethodName)) hown (mvT hZ (hw _ (List.mem_of_getElem? (i := 2) rfl))) (mvT hZ (hw _ (List.mem_of_getElem? (i := 3) rfl))) (mvT hZ (hw _ (List.mem_of_getElem? (i := 4) rfl))) (mvT hZ (hw _ (List.mem_of_getElem? (i := 5) rfl))) (by decide) (backOf (W := 1) (rm1 l Z a0 hw [] (own_k p2) aA aS aX T13.heap n0 (own_sz e13 Z12) (own_sta SA12 K13) (own_sta SS12 K13) (own_sta SX12 K13)) hZ (hw _ (List.mem_of_getElem? (i := 5) rfl)) (hw _ (List.mem_of_getElem? (i := 4) rfl)) (by decide) (by decide)) (g := (mkF m 64 #[.val (.int p1), .val (.int p2), .val (.int (own_k p1)), .val (.int (own_k p2)), .val (.ref b3)] [(.int (own_k p2)), (.ref (own_pick (own_k p1) aA aS aX))])) rfl (by rw [hml]; rfl) (argsL := [(.int (own_k p2))]) (rest := [(.ref (own_pick (own_k p1) aA aS aX))]) (lenOf pd_0_0 rfl) rfl (by show 2 * 0 + _ ≤ _; exact Nat.le_of_eq rfl) (hb hby at_64) (fun _ _ => ⟨rfl, rfl, (by decide : 1 + 0 ≤ _), (by decide : 9 + 0 ≤ _)⟩)
  dsimp only [Pt.U, Pt.locs, Pt.cells, Pt.slots] at X14 l14 y14 z14 st14 hQ14
  subst l14 y14 z14
  obtain ⟨rfl, N14q, e14⟩ := hQ14
  have N14 := Fr.app N13 N14q
  have K14 := own_keep e14
  have EP : Exa Z h12 (own_pick (own_k p1) aA aS aX) "com/example/enqueue/enqueue/core/lock/TableLockMode" := own_pickE (EA.keep K12) (ES.keep K12) (EX.keep K12)
  obtain ⟨cq15, kq15, q15a, q15b, q15c⟩ := isOf hZ rfl ((EP.keep K13).keep K14)
  obtain ⟨_, _, ⟨T15, L15, k15, n15⟩, -, X15, ⟨Lc15, hQ15, l15, y15, z15⟩, st15⟩ := X14.virtualBack hx (y := (⟨"com/example/enqueue/enqueue/core/lock/TableLockMode", "covers", "(Lcom/example/enqueue/enqueue/core/lock/TableLockMode;)Z"⟩ : MethodName)) (z := (⟨"com/example/enqueue/enqueue/core/lock/TableLockMode", "covers", "(Lcom/example/enqueue/enqueue/core/lock/TableLockMode;)Z"⟩ : MethodName)) hown (mvT hZ (hw _ (List.mem_of_getElem? (i := 9) rfl))) (mvT hZ (hw _ (List.mem_of_getElem? (i := 10) rfl))) (notFace_of_selects (args := #[]) (mvT hZ (hw _ (List.mem_of_getElem? (i := 12) rfl)))) (mvT hZ (hw _ (List.mem_of_getElem? (i := 12) rfl))) (mvT hZ (hw _ (List.mem_of_getElem? (i := 11) rfl))) (by decide) (backOf (W := 0) (rm2 l Z a0 hw [] (own_pick (own_k p1) aA aS aX) (own_pick (own_k p2) aA aS aX) aS aX T14.heap n0 (own_sz e14 (own_sz e13 Z12)) (own_sta (own_sta SS12 K13) K14) (own_sta (own_sta SX12 K13) K14)) hZ (hw _ (List.mem_of_getElem? (i := 13) rfl)) (hw _ (List.mem_of_getElem? (i := 7) rfl)) (by decide) (by decide)) q15a q15c (g := (mkF m 67 #[.val (.int p1), .val (.int p2), .val (.int (own_k p1)), .val (.int (own_k p2)), .val (.ref b3)] [(.ref (own_pick (own_k p2) aA aS aX)), (.ref (own_pick (own_k p1) aA aS aX))])) rfl (by rw [hml]; rfl) (Steps.refl _) (argsL := [(.ref (own_pick (own_k p2) aA aS aX))]) (rest := []) (lenOf pd_0_1 rfl) rfl (by show 2 * 0 + _ ≤ _; exact Nat.le_of_eq rfl) (hb hby at_67) (fun _ _ => ⟨rfl, rfl, (by decide : 1 + 0 ≤ _), (by decide : 9 + 0 ≤ _)⟩)
  dsimp only [Pt.U, Pt.locs, Pt.cells, Pt.slots] at X15 l15 y15 z15 st15 hQ15
  subst l15 y15 z15
  obtain ⟨rfl, N15q, e15⟩ := hQ15
  have N15 := Fr.app N14 N15q
  obtain ⟨cl77, Ar_b3, q_b3, S_b3, N_b3, H_b3, G_b3⟩ := ((V12.keep K13 (by simp)).keep K14 (by simp)).keep (own_keep e15) (by simp)
  have hin77 : ¬ ((((own_k p1) * (3 : Int32)) + (own_k p2)) < 0 ∨ cl77.slots.size ≤ ((((own_k p1) * (3 : Int32)) + (own_k p2))).toNatClampNeg) := inb_of S_b3 hfin.1
  have hat77 := Has.at H_b3 hin77 hfin.2
  obtain ⟨fs, hr, hrun, hended, hW, hsame⟩ := X15.leave (v := some (.int (1 : Int32))) (fun h => by rw [Bd.returns] at h; cases h)
  refine ⟨_, _, pre0 _ ?_, hrun, hended, _, _, rfl, ?_, ⟨_, rfl⟩, hW, hsame.mono (by decide) (by decide)⟩
  · show Steps p.tables e below (s₁.setTop (mkF m 0 #[.val (.int p1), .val (.int p2), .unset, .unset, .unset] [])) _
    refine XS.iloadN X0.here hx rfl (hb hby at_0) rfl ?_
    show Steps p.tables e below (s₁.setTop (mkF m 1 #[.val (.int p1), .val (.int p2), .unset, .unset, .unset] [(.int p1)])) _
    refine X0.ldcInt hx hown (mvT hZ (hw _ (List.mem_of_getElem? (i := 0) rfl))) (g := (mkF m 1 #[.val (.int p1), .val (.int p2), .unset, .unset, .unset] [(.int p1)])) rfl (hb hby at_1) _ ?_
    show Steps p.tables e below (s₁.setTop (mkF m 3 #[.val (.int p1), .val (.int p2), .unset, .unset, .unset] [(.int (2147483647 : Int32)), (.int p1)])) _
    refine XS.iand X0.here hx rfl (hb hby at_3) rfl ?_
    show Steps p.tables e below (s₁.setTop (mkF m 4 #[.val (.int p1), .val (.int p2), .unset, .unset, .unset] [(.int (p1 &&& (2147483647 : Int32)))])) _
    refine XS.iconst X0.here hx rfl (hb hby at_4) ?_
    show Steps p.tables e below (s₁.setTop (mkF m 5 #[.val (.int p1), .val (.int p2), .unset, .unset, .unset] [(.int (3 : Int32)), (.int (p1 &&& (2147483647 : Int32)))])) _
    refine XS.irem X0.here hx rfl (hb hby at_5) rfl hnz5 ?_
    show Steps p.tables e below (s₁.setTop (mkF m 6 #[.val (.int p1), .val (.int p2), .unset, .unset, .unset] [(.int (own_k p1))])) _
    refine XS.istoreN X0.here hx rfl (hb hby at_6) rfl (l' := #[.val (.int p1), .val (.int p2), .val (.int (own_k p1)), .unset, .unset]) rfl ?_
    show Steps p.tables e below (s₁.setTop (mkF m 7 #[.val (.int p1), .val (.int p2), .val (.int (own_k p1)), .unset, .unset] [])) _
    refine XS.iloadN X0.here hx rfl (hb hby at_7) rfl ?_
    show Steps p.tables e below (s₁.setTop (mkF m 8 #[.val (.int p1), .val (.int p2), .val (.int (own_k p1)), .unset, .unset] [(.int p2)])) _
    refine X0.ldcInt hx hown (mvT hZ (hw _ (List.mem_of_getElem? (i := 0) rfl))) (g := (mkF m 8 #[.val (.int p1), .val (.int p2), .val (.int (own_k p1)), .unset, .unset] [(.int p2)])) rfl (hb hby at_8) _ ?_
    show Steps p.tables e below (s₁.setTop (mkF m 10 #[.val (.int p1), .val (.int p2), .val (.int (own_k p1)), .unset, .unset] [(.int (2147483647 : Int32)), (.int p2)])) _
    refine XS.iand X0.here hx rfl (hb hby at_10) rfl ?_
    show Steps p.tables e below (s₁.setTop (mkF m 11 #[.val (.int p1), .val (.int p2), .val (.int (own_k p1)), .unset, .unset] [(.int (p2 &&& (2147483647 : Int32)))])) _
    refine XS.iconst X0.here hx rfl (hb hby at_11) ?_
    show Steps p.tables e below (s₁.setTop (mkF m 12 #[.val (.int p1), .val (.int p2), .val (.int (own_k p1)), .unset, .unset] [(.int (3 : Int32)), (.int (p2 &&& (2147483647 : Int32)))])) _
    refine XS.irem X0.here hx rfl (hb hby at_12) rfl hnz12 ?_
    show Steps p.tables e below (s₁.setTop (mkF m 13 #[.val (.int p1), .val (.int p2), .val (.int (own_k p1)), .unset, .unset] [(.int (own_k p2))])) _
    refine XS.istoreN X0.here hx rfl (hb hby at_13) rfl (l' := #[.val (.int p1), .val (.int p2), .val (.int (own_k p1)), .val (.int (own_k p2)), .unset]) rfl ?_
    show Steps p.tables e below (s₁.setTop (mkF m 14 #[.val (.int p1), .val (.int p2), .val (.int (own_k p1)), .val (.int (own_k p2)), .unset] [])) _
    refine XS.bipush X0.here hx rfl (hb hby at_14) ?_
    show Steps p.tables e below (s₁.setTop (mkF m 16 #[.val (.int p1), .val (.int p2), .val (.int (own_k p1)), .val (.int (own_k p2)), .unset] [(.int (9 : Int32))])) _
    refine st3 _ ?_
    show Steps p.tables e below (T3.setTop (mkF m 18 #[.val (.int p1), .val (.int p2), .val (.int (own_k p1)), .val (.int (own_k p2)), .unset] [(.ref b3)])) _
    refine XS.dup X3.here hx rfl (hb hby at_18) rfl rfl ?_
    show Steps p.tables e below (T3.setTop (mkF m 19 #[.val (.int p1), .val (.int p2), .val (.int (own_k p1)), .val (.int (own_k p2)), .unset] [(.ref b3), (.ref b3)])) _
    refine XS.iconst X3.here hx rfl (hb hby at_19) ?_
    show Steps p.tables e below (T3.setTop (mkF m 20 #[.val (.int p1), .val (.int p2), .val (.int (own_k p1)), .val (.int (own_k p2)), .unset] [(.int (0 : Int32)), (.ref b3), (.ref b3)])) _
    refine XS.iconst X3.here hx rfl (hb hby at_20) ?_
    show Steps p.tables e below (T3.setTop (mkF m 21 #[.val (.int p1), .val (.int p2), .val (.int (own_k p1)), .val (.int (own_k p2)), .unset] [(.int (1 : Int32)), (.int (0 : Int32)), (.ref b3), (.ref b3)])) _
    refine st4 _ ?_
    show Steps p.tables e below (T4.setTop (mkF m 22 #[.val (.int p1), .val (.int p2), .val (.int (own_k p1)), .val (.int (own_k p2)), .unset] [(.ref b3)])) _
    refine XS.dup X4.here hx rfl (hb hby at_22) rfl rfl ?_
    show Steps p.tables e below (T4.setTop (mkF m 23 #[.val (.int p1), .val (.int p2), .val (.int (own_k p1)), .val (.int (own_k p2)), .unset] [(.ref b3), (.ref b3)])) _
    refine XS.iconst X4.here hx rfl (hb hby at_23) ?_
    show Steps p.tables e below (T4.setTop (mkF m 24 #[.val (.int p1), .val (.int p2), .val (.int (own_k p1)), .val (.int (own_k p2)), .unset] [(.int (1 : Int32)), (.ref b3), (.ref b3)])) _
    refine XS.iconst X4.here hx rfl (hb hby at_24) ?_
    show Steps p.tables e below (T4.setTop (mkF m 25 #[.val (.int p1), .val (.int p2), .val (.int (own_k p1)), .val (.int (own_k p2)), .unset] [(.int (0 : Int32)), (.int (1 : Int32)), (.ref b3), (.ref b3)])) _
    refine st5 _ ?_
    show Steps p.tables e below (T5.setTop (mkF m 26 #[.val (.int p1), .val (.int p2), .val (.int (own_k p1)), .val (.int (own_k p2)), .unset] [(.ref b3)])) _
    refine XS.dup X5.here hx rfl (hb hby at_26) rfl rfl ?_
    show Steps p.tables e below (T5.setTop (mkF m 27 #[.val (.int p1), .val (.int p2), .val (.int (own_k p1)), .val (.int (own_k p2)), .unset] [(.ref b3), (.ref b3)])) _
    refine XS.iconst X5.here hx rfl (hb hby at_27) ?_
    show Steps p.tables e below (T5.setTop (mkF m 28 #[.val (.int p1), .val (.int p2), .val (.int (own_k p1)), .val (.int (own_k p2)), .unset] [(.int (2 : Int32)), (.ref b3), (.ref b3)])) _
    refine XS.iconst X5.here hx rfl (hb hby at_28) ?_
    show Steps p.tables e below (T5.setTop (mkF m 29 #[.val (.int p1), .val (.int p2), .val (.int (own_k p1)), .val (.int (own_k p2)), .unset] [(.int (0 : Int32)), (.int (2 : Int32)), (.ref b3), (.ref b3)])) _
    refine st6 _ ?_
    show Steps p.tables e below (T6.setTop (mkF m 30 #[.val (.int p1), .val (.int p2), .val (.int (own_k p1)), .val (.int (own_k p2)), .unset] [(.ref b3)])) _
    refine XS.dup X6.here hx rfl (hb hby at_30) rfl rfl ?_
    show Steps p.tables e below (T6.setTop (mkF m 31 #[.val (.int p1), .val (.int p2), .val (.int (own_k p1)), .val (.int (own_k p2)), .unset] [(.ref b3), (.ref b3)])) _
    refine XS.iconst X6.here hx rfl (hb hby at_31) ?_
    show Steps p.tables e below (T6.setTop (mkF m 32 #[.val (.int p1), .val (.int p2), .val (.int (own_k p1)), .val (.int (own_k p2)), .unset] [(.int (3 : Int32)), (.ref b3), (.ref b3)])) _
    refine XS.iconst X6.here hx rfl (hb hby at_32) ?_
    show Steps p.tables e below (T6.setTop (mkF m 33 #[.val (.int p1), .val (.int p2), .val (.int (own_k p1)), .val (.int (own_k p2)), .unset] [(.int (0 : Int32)), (.int (3 : Int32)), (.ref b3), (.ref b3)])) _
    refine st7 _ ?_
    show Steps p.tables e below (T7.setTop (mkF m 34 #[.val (.int p1), .val (.int p2), .val (.int (own_k p1)), .val (.int (own_k p2)), .unset] [(.ref b3)])) _
    refine XS.dup X7.here hx rfl (hb hby at_34) rfl rfl ?_
    show Steps p.tables e below (T7.setTop (mkF m 35 #[.val (.int p1), .val (.int p2), .val (.int (own_k p1)), .val (.int (own_k p2)), .unset] [(.ref b3), (.ref b3)])) _
    refine XS.iconst X7.here hx rfl (hb hby at_35) ?_
    show Steps p.tables e below (T7.setTop (mkF m 36 #[.val (.int p1), .val (.int p2), .val (.int (own_k p1)), .val (.int (own_k p2)), .unset] [(.int (4 : Int32)), (.ref b3), (.ref b3)])) _
    refine XS.iconst X7.here hx rfl (hb hby at_36) ?_
    show Steps p.tables e below (T7.setTop (mkF m 37 #[.val (.int p1), .val (.int p2), .val (.int (own_k p1)), .val (.int (own_k p2)), .unset] [(.int (1 : Int32)), (.int (4 : Int32)), (.ref b3), (.ref b3)])) _
    refine st8 _ ?_
    show Steps p.tables e below (T8.setTop (mkF m 38 #[.val (.int p1), .val (.int p2), .val (.int (own_k p1)), .val (.int (own_k p2)), .unset] [(.ref b3)])) _
    refine XS.dup X8.here hx rfl (hb hby at_38) rfl rfl ?_
    show Steps p.tables e below (T8.setTop (mkF m 39 #[.val (.int p1), .val (.int p2), .val (.int (own_k p1)), .val (.int (own_k p2)), .unset] [(.ref b3), (.ref b3)])) _
    refine XS.iconst X8.here hx rfl (hb hby at_39) ?_
    show Steps p.tables e below (T8.setTop (mkF m 40 #[.val (.int p1), .val (.int p2), .val (.int (own_k p1)), .val (.int (own_k p2)), .unset] [(.int (5 : Int32)), (.ref b3), (.ref b3)])) _
    refine XS.iconst X8.here hx rfl (hb hby at_40) ?_
    show Steps p.tables e below (T8.setTop (mkF m 41 #[.val (.int p1), .val (.int p2), .val (.int (own_k p1)), .val (.int (own_k p2)), .unset] [(.int (0 : Int32)), (.int (5 : Int32)), (.ref b3), (.ref b3)])) _
    refine st9 _ ?_
    show Steps p.tables e below (T9.setTop (mkF m 42 #[.val (.int p1), .val (.int p2), .val (.int (own_k p1)), .val (.int (own_k p2)), .unset] [(.ref b3)])) _
    refine XS.dup X9.here hx rfl (hb hby at_42) rfl rfl ?_
    show Steps p.tables e below (T9.setTop (mkF m 43 #[.val (.int p1), .val (.int p2), .val (.int (own_k p1)), .val (.int (own_k p2)), .unset] [(.ref b3), (.ref b3)])) _
    refine XS.bipush X9.here hx rfl (hb hby at_43) ?_
    show Steps p.tables e below (T9.setTop (mkF m 45 #[.val (.int p1), .val (.int p2), .val (.int (own_k p1)), .val (.int (own_k p2)), .unset] [(.int (6 : Int32)), (.ref b3), (.ref b3)])) _
    refine XS.iconst X9.here hx rfl (hb hby at_45) ?_
    show Steps p.tables e below (T9.setTop (mkF m 46 #[.val (.int p1), .val (.int p2), .val (.int (own_k p1)), .val (.int (own_k p2)), .unset] [(.int (0 : Int32)), (.int (6 : Int32)), (.ref b3), (.ref b3)])) _
    refine st10 _ ?_
    show Steps p.tables e below (T10.setTop (mkF m 47 #[.val (.int p1), .val (.int p2), .val (.int (own_k p1)), .val (.int (own_k p2)), .unset] [(.ref b3)])) _
    refine XS.dup X10.here hx rfl (hb hby at_47) rfl rfl ?_
    show Steps p.tables e below (T10.setTop (mkF m 48 #[.val (.int p1), .val (.int p2), .val (.int (own_k p1)), .val (.int (own_k p2)), .unset] [(.ref b3), (.ref b3)])) _
    refine XS.bipush X10.here hx rfl (hb hby at_48) ?_
    show Steps p.tables e below (T10.setTop (mkF m 50 #[.val (.int p1), .val (.int p2), .val (.int (own_k p1)), .val (.int (own_k p2)), .unset] [(.int (7 : Int32)), (.ref b3), (.ref b3)])) _
    refine XS.iconst X10.here hx rfl (hb hby at_50) ?_
    show Steps p.tables e below (T10.setTop (mkF m 51 #[.val (.int p1), .val (.int p2), .val (.int (own_k p1)), .val (.int (own_k p2)), .unset] [(.int (1 : Int32)), (.int (7 : Int32)), (.ref b3), (.ref b3)])) _
    refine st11 _ ?_
    show Steps p.tables e below (T11.setTop (mkF m 52 #[.val (.int p1), .val (.int p2), .val (.int (own_k p1)), .val (.int (own_k p2)), .unset] [(.ref b3)])) _
    refine XS.dup X11.here hx rfl (hb hby at_52) rfl rfl ?_
    show Steps p.tables e below (T11.setTop (mkF m 53 #[.val (.int p1), .val (.int p2), .val (.int (own_k p1)), .val (.int (own_k p2)), .unset] [(.ref b3), (.ref b3)])) _
    refine XS.bipush X11.here hx rfl (hb hby at_53) ?_
    show Steps p.tables e below (T11.setTop (mkF m 55 #[.val (.int p1), .val (.int p2), .val (.int (own_k p1)), .val (.int (own_k p2)), .unset] [(.int (8 : Int32)), (.ref b3), (.ref b3)])) _
    refine XS.iconst X11.here hx rfl (hb hby at_55) ?_
    show Steps p.tables e below (T11.setTop (mkF m 56 #[.val (.int p1), .val (.int p2), .val (.int (own_k p1)), .val (.int (own_k p2)), .unset] [(.int (1 : Int32)), (.int (8 : Int32)), (.ref b3), (.ref b3)])) _
    refine st12 _ ?_
    show Steps p.tables e below (T12.setTop (mkF m 57 #[.val (.int p1), .val (.int p2), .val (.int (own_k p1)), .val (.int (own_k p2)), .unset] [(.ref b3)])) _
    refine XS.astore X12.here hx rfl (hb hby at_57) rfl rfl (l' := #[.val (.int p1), .val (.int p2), .val (.int (own_k p1)), .val (.int (own_k p2)), .val (.ref b3)]) rfl ?_
    show Steps p.tables e below (T12.setTop (mkF m 59 #[.val (.int p1), .val (.int p2), .val (.int (own_k p1)), .val (.int (own_k p2)), .val (.ref b3)] [])) _
    refine XS.iloadN X12.here hx rfl (hb hby at_59) rfl ?_
    show Steps p.tables e below (T12.setTop (mkF m 60 #[.val (.int p1), .val (.int p2), .val (.int (own_k p1)), .val (.int (own_k p2)), .val (.ref b3)] [(.int (own_k p1))])) _
    refine st13 _ ?_
    show Steps p.tables e below (T13.setTop (mkF m 63 #[.val (.int p1), .val (.int p2), .val (.int (own_k p1)), .val (.int (own_k p2)), .val (.ref b3)] [(.ref (own_pick (own_k p1) aA aS aX))])) _
    refine XS.iloadN X13.here hx rfl (hb hby at_63) rfl ?_
    show Steps p.tables e below (T13.setTop (mkF m 64 #[.val (.int p1), .val (.int p2), .val (.int (own_k p1)), .val (.int (own_k p2)), .val (.ref b3)] [(.int (own_k p2)), (.ref (own_pick (own_k p1) aA aS aX))])) _
    refine st14 _ ?_
    show Steps p.tables e below (T14.setTop (mkF m 67 #[.val (.int p1), .val (.int p2), .val (.int (own_k p1)), .val (.int (own_k p2)), .val (.ref b3)] [(.ref (own_pick (own_k p2) aA aS aX)), (.ref (own_pick (own_k p1) aA aS aX))])) _
    refine st15.trans ?_
    show Steps p.tables e below (T15.setTop (mkF m 70 #[.val (.int p1), .val (.int p2), .val (.int (own_k p1)), .val (.int (own_k p2)), .val (.ref b3)] [(.int (own_cov (own_pick (own_k p1) aA aS aX) (own_pick (own_k p2) aA aS aX) aS aX))])) _
    refine XS.aload X15.here hx rfl (hb hby at_70) rfl rfl ?_
    show Steps p.tables e below (T15.setTop (mkF m 72 #[.val (.int p1), .val (.int p2), .val (.int (own_k p1)), .val (.int (own_k p2)), .val (.ref b3)] [(.ref b3), (.int (own_cov (own_pick (own_k p1) aA aS aX) (own_pick (own_k p2) aA aS aX) aS aX))])) _
    refine XS.iloadN X15.here hx rfl (hb hby at_72) rfl ?_
    show Steps p.tables e below (T15.setTop (mkF m 73 #[.val (.int p1), .val (.int p2), .val (.int (own_k p1)), .val (.int (own_k p2)), .val (.ref b3)] [(.int (own_k p1)), (.ref b3), (.int (own_cov (own_pick (own_k p1) aA aS aX) (own_pick (own_k p2) aA aS aX) aS aX))])) _
    refine XS.iconst X15.here hx rfl (hb hby at_73) ?_
    show Steps p.tables e below (T15.setTop (mkF m 74 #[.val (.int p1), .val (.int p2), .val (.int (own_k p1)), .val (.int (own_k p2)), .val (.ref b3)] [(.int (3 : Int32)), (.int (own_k p1)), (.ref b3), (.int (own_cov (own_pick (own_k p1) aA aS aX) (own_pick (own_k p2) aA aS aX) aS aX))])) _
    refine XS.imul X15.here hx rfl (hb hby at_74) rfl ?_
    show Steps p.tables e below (T15.setTop (mkF m 75 #[.val (.int p1), .val (.int p2), .val (.int (own_k p1)), .val (.int (own_k p2)), .val (.ref b3)] [(.int ((own_k p1) * (3 : Int32))), (.ref b3), (.int (own_cov (own_pick (own_k p1) aA aS aX) (own_pick (own_k p2) aA aS aX) aS aX))])) _
    refine XS.iloadN X15.here hx rfl (hb hby at_75) rfl ?_
    show Steps p.tables e below (T15.setTop (mkF m 76 #[.val (.int p1), .val (.int p2), .val (.int (own_k p1)), .val (.int (own_k p2)), .val (.ref b3)] [(.int (own_k p2)), (.int ((own_k p1) * (3 : Int32))), (.ref b3), (.int (own_cov (own_pick (own_k p1) aA aS aX) (own_pick (own_k p2) aA aS aX) aS aX))])) _
    refine XS.iadd X15.here hx rfl (hb hby at_76) rfl ?_
    show Steps p.tables e below (T15.setTop (mkF m 77 #[.val (.int p1), .val (.int p2), .val (.int (own_k p1)), .val (.int (own_k p2)), .val (.ref b3)] [(.int (((own_k p1) * (3 : Int32)) + (own_k p2))), (.ref b3), (.int (own_cov (own_pick (own_k p1) aA aS aX) (own_pick (own_k p2) aA aS aX) aS aX))])) _
    refine X15.baloadBooleans hx (j := (((own_k p1) * (3 : Int32)) + (own_k p2))) (v := (.int (own_cov (own_pick (own_k p1) aA aS aX) (own_pick (own_k p2) aA aS aX) aS aX))) Ar_b3.1 (State.isArrayOf_alike hZ.alike Ar_b3.2.1) Ar_b3.2.2 hin77 hat77 (g := (mkF m 77 #[.val (.int p1), .val (.int p2), .val (.int (own_k p1)), .val (.int (own_k p2)), .val (.ref b3)] [(.int (((own_k p1) * (3 : Int32)) + (own_k p2))), (.ref b3), (.int (own_cov (own_pick (own_k p1) aA aS aX) (own_pick (own_k p2) aA aS aX) aS aX))])) rfl rfl (hb hby at_77) _ ?_
    show Steps p.tables e below (T15.setTop (mkF m 78 #[.val (.int p1), .val (.int p2), .val (.int (own_k p1)), .val (.int (own_k p2)), .val (.ref b3)] [(.int (own_cov (own_pick (own_k p1) aA aS aX) (own_pick (own_k p2) aA aS aX) aS aX)), (.int (own_cov (own_pick (own_k p1) aA aS aX) (own_pick (own_k p2) aA aS aX) aS aX))])) _
    refine XS.icmpNo X15.here hx rfl (hb hby at_78) rfl (teq (rfl : (own_cov (own_pick (own_k p1) aA aS aX) (own_pick (own_k p2) aA aS aX) aS aX) = (own_cov (own_pick (own_k p1) aA aS aX) (own_pick (own_k p2) aA aS aX) aS aX))).2 ?_
    show Steps p.tables e below (T15.setTop (mkF m 81 #[.val (.int p1), .val (.int p2), .val (.int (own_k p1)), .val (.int (own_k p2)), .val (.ref b3)] [])) _
    refine XS.iconst X15.here hx rfl (hb hby at_81) ?_
    show Steps p.tables e below (T15.setTop (mkF m 82 #[.val (.int p1), .val (.int p2), .val (.int (own_k p1)), .val (.int (own_k p2)), .val (.ref b3)] [(.int (1 : Int32))])) _
    refine XS.goto X15.here hx rfl (pc0 := 82) (pc' := 86) rfl (hb hby at_82) (by decide) (by decide) ?_
    show Steps p.tables e below (T15.setTop (mkF m 86 #[.val (.int p1), .val (.int p2), .val (.int (own_k p1)), .val (.int (own_k p2)), .val (.ref b3)] [(.int (1 : Int32))])) _
    exact retN X15 hx (t := .boolean) Bd.returns (by simp) (hb hby at_86) hr
  · show Q0 n0 _ T15.heap _
    exact ⟨rfl, N15⟩
set_option maxRecDepth 65536 in
set_option maxHeartbeats 40000000 in
theorem comes_1 {Post : Tables → Env → Array Value → State → Outcome → State → Prop} (hpost : ∀ tb e args s v u, (limb_1_1.after args s (.returned v) u = true ∧ limb_1_2.after args s (.returned v) u = true ∧ True) → FrameEnd s (.returned v) u (Jvm.fieldLocs frame_1_writes args s ++ Jvm.arrayLocs frame_1_arrays args s ++ Jvm.staticLocs frame_1_statics s) 16 128 → Post tb e args s (.returned v) u) :
    ArmFor flags0 classFile x code maxLocals ret World_1 tables_1 room_1 Calls_1 rest_1 Pre_1 Post := by
  intro l hfl _ _ p e ha hc hk s m args below hf hA hF happ hP
  obtain ⟨hcalls, hrest, hpre⟩ := hP
  obtain ⟨-, -, -, hnamed, -, -, -, hat⟩ := (Spec.applies_iff hf).mp happ
  obtain ⟨hg, hn⟩ := and_e (Cond.before_iff.mp (show (Jvm.Cond.and given_1 narrow_1).before args s = true from hpre))
  obtain ⟨g17, g18⟩ := and_e hg
  obtain ⟨g19, g20⟩ := and_e g18
  obtain ⟨w0, w1, rfl⟩ : ∃ w0 w1 : Value, args = #[w0, w1] := by
    have hs : args.size = 2 := by simpa [Cond.value, given_1] using g17
    obtain ⟨L⟩ := args
    match L, hs with
    | [w0, w1], _ => exact ⟨w0, w1, rfl⟩
  have hw := fun d (hd : d ∈ tables_1) => atoms_spec (ws := Jvm.Cond.code x code maxLocals ret :: tables_1) hat d (List.mem_cons_of_mem _ hd)
  have hfit : Fit s := fun {y c} hc i hi => by
    obtain ⟨ha, rfl⟩ := Array.getElem?_eq_some_iff.mp hc
    have q := List.all_eq_true.mp ((Array.all_eq_true_iff_forall_mem.mp hF) _ (Array.getElem_mem ha)) i (List.mem_range.mpr hi)
    simpa [Array.getElem?_eq_getElem hi] using q
  obtain ⟨i0, ei0⟩ := is_v g19
  obtain rfl : w0 = (.int i0) := Option.some.inj ei0
  obtain ⟨i1, ei1⟩ := is_v g20
  obtain rfl : w1 = (.int i1) := Option.some.inj ei1
  obtain ⟨eA, r0⟩ := and_e hn
  obtain ⟨eX, r1⟩ := and_e r0
  obtain ⟨eS, r2⟩ := and_e r1
  obtain ⟨oX, r3⟩ := and_e r2
  obtain ⟨oS, r4⟩ := and_e r3
  have oA := r4
  obtain ⟨aA, evA⟩ := exa_v eA
  have EA := Exa.start evA eA
  have SA := Sta.start evA (Or.inr ⟨(hw _ (List.mem_of_getElem? (i := 7) rfl)), (hw _ (List.mem_of_getElem? (i := 8) rfl))⟩)
  have FA := Fld.start ((fld_at evA).symm.trans (own_eqI oA))
  obtain ⟨aS, evS⟩ := exa_v eS
  have ES := Exa.start evS eS
  have SS := Sta.start evS (Or.inr ⟨(hw _ (List.mem_of_getElem? (i := 7) rfl)), (hw _ (List.mem_of_getElem? (i := 17) rfl))⟩)
  have FS := Fld.start ((fld_at evS).symm.trans (own_eqI oS))
  obtain ⟨aX, evX⟩ := exa_v eX
  have EX := Exa.start evX eX
  have SX := Sta.start evX (Or.inr ⟨(hw _ (List.mem_of_getElem? (i := 7) rfl)), (hw _ (List.mem_of_getElem? (i := 15) rfl))⟩)
  have FX := Fld.start ((fld_at evX).symm.trans (own_eqI oX))
  obtain ⟨n, o, h1, h2, h3, _, L, rfl, ⟨rfl, N⟩, hq⟩ := rm0 l s _ hw tables_1 i0 i1 aA aS aX s.heap s.heap.size (Nat.le_refl _) SA SS SX EA ES EX (own_final _ _ (own_k3 i0) (own_k3 i1) aA aS aX (FA.ne FS (fun q => absurd (Value.int.inj q) (by decide))) (FA.ne FX (fun q => absurd (Value.int.inj q) (by decide))) (FS.ne FX (fun q => absurd (Value.int.inj q) (by decide)))) (by decide) (by decide) p e ha hc hk s m _ below hf ((Spec.applies_iff_loose hf).mp happ).1 ⟨rfl, State.Warmed39.refl s, rfl⟩ trivial
  refine ⟨n, _, h1, h2, h3, hpost _ _ _ _ _ _ ⟨Cond.after_iff.mpr rfl, Cond.after_iff.mpr (eq_i res_at (Term.int_eval (1)) rfl), trivial⟩ ⟨hq.1, hq.2.1, (hq.2.2.sift fun y hy => Or.inr (N y hy)).mono (by decide) (by decide)⟩⟩
theorem main_1_1 : Claimed_1_1 := comes_1 fun _ _ _ _ _ _ h hF => ⟨h.1, hF⟩
theorem main_1_2 : Claimed_1_2 := comes_1 fun _ _ _ _ _ _ h hF => ⟨h.2.1, hF⟩
end Jvm.Pilot.@@N@@
namespace Jvm.Pilot.@@N@@
open Jvm Jvm.ClassFile Sem Op Lib Jvm.Free Jvm.Stand Jvm.Pilot.@@N@@.Jvm.D
/-! MADE BY PROGRAM (witnessworld.py) out of the Statement's table words and the real class files: 14 classes; the members and pool entries that the words name. The judged class is class 1, her method 2. -/
namespace start1
open Jvm.ClassFile
def u (s : String) : CpInfo := .utf8 (stringToUtf16 s)
/-- a pool by its gaps: so many unusable entries, then the entry; so many at the end -/
def gap : Nat → List CpInfo → List CpInfo
  | 0, r => r
  | n + 1, r => .unusable :: gap n r
def poolList (es : List (Nat × CpInfo)) (last : Nat) : List CpInfo := es.foldr (fun e r => gap e.1 (e.2 :: r)) (gap last [])
def pool (es : List (Nat × CpInfo)) (last : Nat) : Array CpInfo := ⟨poolList es last⟩
def fileOf (pool : Array CpInfo) (this : Nat) (attrs : Array Attribute := #[]) (ms : Array MethodInfo := #[]) (fl : Nat := 33) (sup : Nat := 0) (ifs : Array Nat := #[]) (fds : Array FieldInfo := #[]) : ClassFile where
  minorVersion := 0
  majorVersion := 65
  constantPool := pool
  accessFlags := fl
  thisClass := this
  superClass := sup
  interfaces := ifs
  fields := fds
  methods := ms
  attributes := attrs
def plain (name : String) (sup : Option ClassId) : Class where
  name := name
  kind := .ordinary
  loader := none
  accessFlags := 33
  super := sup
  interfaces := #[]
  cf := none
  fields := #[]
  methods := #[]
  instanceTypes := #[]
  staticTypes := #[]
  resolved := #[]
  callSites := []
  init := .initialized
  statics := none
  mirror := none

def pool0 : Array CpInfo := pool [(5, u "<init>"), (0, u "()V"), (1, .class_ 10), (1, u "java/lang/Object")] 113

def k0m0 : Method := { name := "<init>", desc := "()V", sig := { parameters := [], returnType := none }, accessFlags := 1, code := none }
/-- java/lang/Object -/
def k0 : Class := { plain "java/lang/Object" none with
  accessFlags := 33
  interfaces := #[]
  cf := some (fileOf pool0 8 #[] #[{ accessFlags := 1, nameIndex := 5, descriptorIndex := 6, attributes := #[] }] 33 0 #[] #[])
  fields := #[]
  methods := #[k0m0]
  instanceTypes := #[]
  staticTypes := #[]
  resolved := Array.replicate 124 none
  statics := none }

def pool1 : Array CpInfo := pool [(2, .class_ 4), (1, u "java/lang/Object"), (0, u "<init>"), (0, u "()V"), (0, .fieldref 8 9), (0, .class_ 10), (0, .nameAndType 11 12), (0, u "com/example/enqueue/enqueue/core/lock/TableLockMode"), (0, u "AUTO_INC"), (0, u "Lcom/example/enqueue/enqueue/core/lock/TableLockMode;"), (0, .fieldref 8 14), (0, .nameAndType 15 12), (0, u "IS"), (0, .fieldref 8 17), (0, .nameAndType 18 12), (0, u "IX"), (0, .integer 2147483647), (0, .methodref 21 22), (0, .class_ 23), (0, .nameAndType 24 25), (0, u "com/example/enqueue/enqueue/core/lock/TableLockModeCoversPinLaw"), (0, u "mode"), (0, u "(I)Lcom/example/enqueue/enqueue/core/lock/TableLockMode;"), (0, .methodref 8 27), (0, .nameAndType 28 29), (0, u "covers"), (0, u "(Lcom/example/enqueue/enqueue/core/lock/TableLockMode;)Z"), (3, u "law"), (0, u "(II)Z")] 4

def k1m0 : Method := { name := "<init>", desc := "()V", sig := { parameters := [], returnType := none }, accessFlags := 1, code := none }
def k1c1 : Code := { maxStack := 2, maxLocals := 1, code := method_2_code, exceptionTable := #[], attributes := #[] }
def k1m1 : Method := { name := "mode", desc := "(I)Lcom/example/enqueue/enqueue/core/lock/TableLockMode;", sig := { parameters := [.int], returnType := some (.object "com/example/enqueue/enqueue/core/lock/TableLockMode") }, accessFlags := 10, code := some k1c1 }
def k1c2 : Code := { maxStack := 4, maxLocals := 5, code := code, exceptionTable := #[], attributes := #[] }
def k1m2 : Method := { name := "law", desc := "(II)Z", sig := { parameters := [.int, .int], returnType := some .boolean }, accessFlags := 9, code := some k1c2 }
/-- com/example/enqueue/enqueue/core/lock/TableLockModeCoversPinLaw -/
def k1 : Class := { plain "com/example/enqueue/enqueue/core/lock/TableLockModeCoversPinLaw" (some 0) with
  accessFlags := 49
  interfaces := #[]
  cf := some (fileOf pool1 21 #[] #[{ accessFlags := 1, nameIndex := 5, descriptorIndex := 6, attributes := #[] }, { accessFlags := 10, nameIndex := 24, descriptorIndex := 25, attributes := #[] }, { accessFlags := 9, nameIndex := 33, descriptorIndex := 34, attributes := #[] }] 49 2 #[] #[])
  fields := #[]
  methods := #[k1m0, k1m1, k1m2]
  instanceTypes := #[]
  staticTypes := #[]
  resolved := Array.replicate 39 none
  statics := none }

def pool2 : Array CpInfo := pool [(1, .class_ 2), (0, u "java/lang/constant/Constable"), (0, .class_ 4), (0, u "java/lang/Object")] 6

/-- java/lang/constant/Constable -/
def k2 : Class := { plain "java/lang/constant/Constable" (some 0) with
  accessFlags := 1537
  interfaces := #[]
  cf := some (fileOf pool2 1 #[] #[] 1537 3 #[] #[])
  fields := #[]
  methods := #[]
  instanceTypes := #[]
  staticTypes := #[]
  resolved := Array.replicate 11 none
  statics := none }

def pool3 : Array CpInfo := pool [(1, .class_ 2), (0, u "java/lang/Comparable"), (0, .class_ 4), (0, u "java/lang/Object")] 7

/-- java/lang/Comparable -/
def k3 : Class := { plain "java/lang/Comparable" (some 0) with
  accessFlags := 1537
  interfaces := #[]
  cf := some (fileOf pool3 1 #[] #[] 1537 3 #[] #[])
  fields := #[]
  methods := #[]
  instanceTypes := #[]
  staticTypes := #[]
  resolved := Array.replicate 12 none
  statics := none }

def pool4 : Array CpInfo := pool [(1, .class_ 2), (0, u "java/io/Serializable"), (0, .class_ 4), (0, u "java/lang/Object")] 2

/-- java/io/Serializable -/
def k4 : Class := { plain "java/io/Serializable" (some 0) with
  accessFlags := 1537
  interfaces := #[]
  cf := some (fileOf pool4 1 #[] #[] 1537 3 #[] #[])
  fields := #[]
  methods := #[]
  instanceTypes := #[]
  staticTypes := #[]
  resolved := Array.replicate 7 none
  statics := none }

def pool5 : Array CpInfo := pool [(2, .class_ 4), (1, u "java/lang/Enum"), (0, u "name"), (0, u "Ljava/lang/String;"), (2, u "ordinal"), (0, u "I"), (1, .class_ 14), (1, u "java/lang/Object"), (4, u "hash"), (86, .class_ 108), (1, u "java/lang/Enum$EnumDesc"), (2, .class_ 112), (0, u "java/lang/constant/Constable"), (0, .class_ 114), (0, u "java/lang/Comparable"), (0, .class_ 116), (0, u "java/io/Serializable")] 87

/-- java/lang/Enum -/
def k5 : Class := { plain "java/lang/Enum" (some 0) with
  accessFlags := 1057
  interfaces := #[2, 3, 4]
  cf := some (fileOf pool5 2 #[.nestMembers #[106]] #[] 1057 12 #[111, 113, 115] #[{ accessFlags := 18, nameIndex := 5, descriptorIndex := 6, attributes := #[] }, { accessFlags := 18, nameIndex := 9, descriptorIndex := 10, attributes := #[] }, { accessFlags := 2, nameIndex := 19, descriptorIndex := 10, attributes := #[] }])
  fields := #[{ name := "name", type := (.object "java/lang/String"), accessFlags := 18, slot := 0, constantValue := 0 }, { name := "ordinal", type := .int, accessFlags := 18, slot := 1, constantValue := 0 }, { name := "hash", type := .int, accessFlags := 2, slot := 2, constantValue := 0 }]
  methods := #[]
  instanceTypes := #[(.object "java/lang/String"), .int, .int]
  staticTypes := #[]
  resolved := Array.replicate 204 none
  statics := none }

def pool6 : Array CpInfo := pool [(1, .class_ 2), (0, u "com/example/enqueue/enqueue/core/lock/TableLockMode"), (2, u "AUTO_INC"), (0, u "Lcom/example/enqueue/enqueue/core/lock/TableLockMode;"), (0, .fieldref 1 8), (0, .nameAndType 9 6), (0, u "IS"), (0, .fieldref 1 11), (0, .nameAndType 12 6), (0, u "IX"), (2, u "$VALUES"), (0, u "[Lcom/example/enqueue/enqueue/core/lock/TableLockMode;"), (6, .class_ 25), (1, u "java/lang/Enum"), (30, u "covers"), (0, u "(Lcom/example/enqueue/enqueue/core/lock/TableLockMode;)Z")] 4

def k6c0 : Code := { maxStack := 2, maxLocals := 2, code := prog_82_method_5_code, exceptionTable := #[], attributes := #[] }
def k6m0 : Method := { name := "covers", desc := "(Lcom/example/enqueue/enqueue/core/lock/TableLockMode;)Z", sig := { parameters := [(.object "com/example/enqueue/enqueue/core/lock/TableLockMode")], returnType := some .boolean }, accessFlags := 1, code := some k6c0 }
/-- com/example/enqueue/enqueue/core/lock/TableLockMode -/
def k6 : Class := { plain "com/example/enqueue/enqueue/core/lock/TableLockMode" (some 5) with
  accessFlags := 16433
  interfaces := #[]
  cf := some (fileOf pool6 1 #[] #[{ accessFlags := 1, nameIndex := 56, descriptorIndex := 57, attributes := #[] }] 16433 23 #[] #[{ accessFlags := 16409, nameIndex := 5, descriptorIndex := 6, attributes := #[] }, { accessFlags := 16409, nameIndex := 9, descriptorIndex := 6, attributes := #[] }, { accessFlags := 16409, nameIndex := 12, descriptorIndex := 6, attributes := #[] }, { accessFlags := 4122, nameIndex := 15, descriptorIndex := 16, attributes := #[] }])
  fields := #[{ name := "AUTO_INC", type := (.object "com/example/enqueue/enqueue/core/lock/TableLockMode"), accessFlags := 16409, slot := 0, constantValue := 0 }, { name := "IS", type := (.object "com/example/enqueue/enqueue/core/lock/TableLockMode"), accessFlags := 16409, slot := 1, constantValue := 0 }, { name := "IX", type := (.object "com/example/enqueue/enqueue/core/lock/TableLockMode"), accessFlags := 16409, slot := 2, constantValue := 0 }, { name := "$VALUES", type := (.array (.object "com/example/enqueue/enqueue/core/lock/TableLockMode")), accessFlags := 4122, slot := 3, constantValue := 0 }]
  methods := #[k6m0]
  instanceTypes := #[(.object "java/lang/String"), .int, .int]
  staticTypes := #[(.object "com/example/enqueue/enqueue/core/lock/TableLockMode"), (.object "com/example/enqueue/enqueue/core/lock/TableLockMode"), (.object "com/example/enqueue/enqueue/core/lock/TableLockMode"), (.array (.object "com/example/enqueue/enqueue/core/lock/TableLockMode"))]
  resolved := Array.replicate 62 none
  statics := some 0 }

def pool7 : Array CpInfo := pool [(1, u "java/lang/Cloneable"), (0, .class_ 1), (0, u "java/lang/Object"), (0, .class_ 3)] 3

/-- java/lang/Cloneable -/
def k7 : Class := { plain "java/lang/Cloneable" (some 0) with
  accessFlags := 1537
  interfaces := #[]
  cf := some (fileOf pool7 2 #[] #[] 1537 4 #[] #[])
  fields := #[]
  methods := #[]
  instanceTypes := #[]
  staticTypes := #[]
  resolved := Array.replicate 8 none
  statics := none }

/-- the primitive boolean -/
def k8 : Class := { plain "boolean" none with kind := .primitive 'Z', accessFlags := 0x411 }
/-- [Z -/
def k9 : Class := { plain "[Z" (some 0) with kind := .array 8 .boolean, interfaces := #[7, 4], accessFlags := 1041 }

/-- the primitive byte -/
def k10 : Class := { plain "byte" none with kind := .primitive 'B', accessFlags := 0x411 }
/-- [B -/
def k11 : Class := { plain "[B" (some 0) with kind := .array 10 .byte, interfaces := #[7, 4], accessFlags := 1041 }

/-- the primitive int -/
def k12 : Class := { plain "int" none with kind := .primitive 'I', accessFlags := 0x411 }
/-- [I -/
def k13 : Class := { plain "[I" (some 0) with kind := .array 12 .int, interfaces := #[7, 4], accessFlags := 1041 }

def heap : Heap := #[{ cls := 6, slots := #[.ref 1, .ref 2, .ref 3, .null], vm := .statics 6 },
  { cls := 6, slots := #[.null, .int 0, .int 0], vm := .none },
  { cls := 6, slots := #[.null, .int 1, .int 0], vm := .none },
  { cls := 6, slots := #[.null, .int 2, .int 0], vm := .none }]
def classes : Array Class := #[k0, k1, k2, k3, k4, k5, k6, k7, k8, k9, k10, k11, k12, k13]
def interned : List (Array UInt16 × Addr) := []
def slotsUsed : Nat := 13
def theMethod : MethodId := ⟨1, 2⟩
def args0 : Array Value := #[.int 5, .int 7]
def aboutOver (below : List Frame) : State where
  vm := { classes := classes, interned := interned.toArray }
  heap := heap
  slotsUsed := slotsUsed
  threads := #[{ frames := .invoking theMethod args0 :: below }]
def below0 : List Frame := [.native { method := ⟨0, 0⟩, args := #[] }]
def about1 : State := aboutOver below0
def p0 : Program := .bare "" "" ""
def e0 : Env := launch0.env 0 0 0
theorem w_frames : about1.frames = Frame.invoking theMethod args0 :: below0 := rfl
set_option maxRecDepth 65536 in
theorem w_args : argsFit about1.vm theMethod args0 = true := by decide +kernel
set_option maxRecDepth 65536 in
theorem w_heap : heapFits about1 = true := by decide +kernel
set_option maxRecDepth 65536 in
theorem w_runnable : about1.curStatus? = some .runnable := by decide +kernel
set_option maxRecDepth 65536 in
theorem w_alone : about1.alone = true := by decide +kernel
set_option maxRecDepth 65536 in
theorem w_named : about1.methodNamed? x = some theMethod := by decide +kernel
set_option maxRecDepth 65536 in
theorem w_hears : about1.hears theMethod below0 = true := by decide +kernel
set_option maxRecDepth 65536 in
theorem w_ripe : about1.ripe theMethod args0 below0 = true := by decide +kernel
theorem w_running : about1.status = .running := rfl
set_option maxRecDepth 65536 in
theorem w_room : about1.hasRoom e0.platform room_1 = true :=
  launch0.hasRoom_least _ room_1 (by decide +kernel) (by decide +kernel) (by decide +kernel) (by decide +kernel) (by decide +kernel) (by decide +kernel)
theorem allAtoms_all (ts : List Jvm.Cond) (a : Array Jvm.Value) (st : Jvm.State) : (allAtoms ts).before a st = ts.all (fun c => c.before a st) := by
  induction ts with
  | nil => rfl
  | cons c t ih =>
    show (Jvm.Cond.and c (allAtoms t)).before a st = _
    rw [Jvm.Cond.before_and, ih, List.all_cons]
def words1 : List Jvm.Cond := Jvm.Cond.code x code maxLocals ret :: tables_1
/-- a 'code' word, met by the world's own term for the bytes: nothing is compared byte by byte -/
theorem code_word {y : MethodName} {bytes : ByteArray} {mx : Nat} {rt : Option FieldType} {a : Array Value} {s : State} {m : MethodId} {meth : Method} {c : Code} (h1 : s.methodNamed? y = some m) (h2 : s.vm.method? m = some meth) (h3 : meth.code = some c) (h4 : c.code = bytes)
    (h5 : (c.maxLocals == mx && c.exceptionTable.isEmpty && decide (c.maxStack ≤ mostOperands) && decide (meth.sig.returnType = rt) && !meth.locks && decide (parseMethodDescriptor y.desc = some meth.sig)) = true) : (Jvm.Cond.code y bytes mx rt).before a s = true := by
  simp only [Bool.and_eq_true, beq_iff_eq, Bool.not_eq_true', decide_eq_true_eq] at h5
  obtain ⟨⟨⟨⟨⟨g1, g2⟩, g3⟩, g4⟩, g5⟩, g6⟩ := h5
  simp [Cond.before, Cond.holds, Cond.value, h1, h2, h3, h4, g1, g2, g3, g4, g5, g6]
def isCode : Jvm.Cond → Bool
  | .code _ _ _ _ => true
  | _ => false
theorem all_split {L : List Jvm.Cond} {P : Jvm.Cond → Bool} (h1 : L.all (fun c => isCode c || P c) = true) (h2 : ∀ c ∈ L.filter isCode, P c = true) : L.all P = true := by
  refine List.all_eq_true.mpr fun c hc => ?_
  have h := List.all_eq_true.mp h1 c hc
  rcases Bool.eq_false_or_eq_true (isCode c) with hi | hi
  · exact h2 c (List.mem_filter.mpr ⟨hc, hi⟩)
  · simpa [hi] using h
set_option maxRecDepth 65536 in
theorem w_c0 : (Jvm.Cond.code x code maxLocals ret).before args0 about1 = true := code_word (m := ⟨1, 2⟩) (meth := k1m2) (c := k1c2) (by decide +kernel) rfl rfl rfl (by decide +kernel)
set_option maxRecDepth 65536 in
theorem w_c1 : (Jvm.Cond.code ({ cls := "com/example/enqueue/enqueue/core/lock/TableLockModeCoversPinLaw", name := "mode", desc := "(I)Lcom/example/enqueue/enqueue/core/lock/TableLockMode;" } : Jvm.MethodName) method_2_code (1 : Nat) (Option.some (Jvm.ClassFile.FieldType.object "com/example/enqueue/enqueue/core/lock/TableLockMode"))).before args0 about1 = true := code_word (m := ⟨1, 1⟩) (meth := k1m1) (c := k1c1) (by decide +kernel) rfl rfl rfl (by decide +kernel)
set_option maxRecDepth 65536 in
theorem w_c2 : (Jvm.Cond.code ({ cls := "com/example/enqueue/enqueue/core/lock/TableLockMode", name := "covers", desc := "(Lcom/example/enqueue/enqueue/core/lock/TableLockMode;)Z" } : Jvm.MethodName) prog_82_method_5_code (2 : Nat) (Option.some Jvm.ClassFile.FieldType.boolean)).before args0 about1 = true := code_word (m := ⟨6, 0⟩) (meth := k6m0) (c := k6c0) (by decide +kernel) rfl rfl rfl (by decide +kernel)
def codes1 : List Jvm.Cond := [Jvm.Cond.code x code maxLocals ret, Jvm.Cond.code ({ cls := "com/example/enqueue/enqueue/core/lock/TableLockModeCoversPinLaw", name := "mode", desc := "(I)Lcom/example/enqueue/enqueue/core/lock/TableLockMode;" } : Jvm.MethodName) method_2_code (1 : Nat) (Option.some (Jvm.ClassFile.FieldType.object "com/example/enqueue/enqueue/core/lock/TableLockMode")), Jvm.Cond.code ({ cls := "com/example/enqueue/enqueue/core/lock/TableLockMode", name := "covers", desc := "(Lcom/example/enqueue/enqueue/core/lock/TableLockMode;)Z" } : Jvm.MethodName) prog_82_method_5_code (2 : Nat) (Option.some Jvm.ClassFile.FieldType.boolean)]
set_option maxRecDepth 65536 in
theorem codes_eq : words1.filter isCode = codes1 := rfl
theorem w_codes : ∀ c ∈ words1.filter isCode, c.before args0 about1 = true := by
  rw [codes_eq]
  intro c hc
  simp only [codes1, List.mem_cons, List.not_mem_nil, or_false] at hc
  rcases hc with rfl | rfl | rfl
  · exact w_c0
  · exact w_c1
  · exact w_c2
set_option maxRecDepth 65536 in
theorem w_t1 : words1.all (fun c => isCode c || c.before args0 about1) = true := by decide +kernel
theorem w_tables : (allAtoms (Jvm.Cond.code x code maxLocals ret :: tables_1)).before args0 about1 = true := by
  rw [allAtoms_all]
  show words1.all (fun c => c.before args0 about1) = true
  refine all_split ?_ w_codes
  rw [w_t1]
set_option maxRecDepth 65536 in
theorem w_case : (Jvm.Cond.and given_1 narrow_1).before args0 about1 = true := by decide +kernel
theorem w_applies : (headSpec (Jvm.Cond.code x code maxLocals ret :: tables_1) room_1).applies x e0.platform about1 = true :=
  (Spec.applies_iff w_frames).mpr ⟨w_running, w_runnable, w_alone, w_named, w_hears, w_ripe, w_room, w_tables⟩
theorem atStart : AtStart classFile x code maxLocals ret World_1 tables_1 room_1 Calls_1 rest_1 Pre_1 launch0 p0 e0 about1 theMethod args0 below0 :=
  ⟨lists_1, trivial, launch0.admits_env _ _ _, launch0.least_env, fairChoices_fair.cas, fairChoices_fair.clock, w_frames, w_args, w_heap, w_applies, trivial, trivial, w_case⟩
end start1
theorem witness_1 : WitnessClaimed_1 := ⟨start1.p0, start1.e0, start1.about1, start1.theMethod, start1.args0, start1.below0, start1.atStart⟩
end Jvm.Pilot.@@N@@
