import JvmDerived
import JvmDerived.Pilot.@@N@@Statement
import JvmDerived.Pilot.@@N@@Code
set_option linter.unusedVariables false
set_option linter.unusedSimpArgs false
namespace Jvm.RoadKit
open Sem ClassFile Op Lib Jvm.Stand Jvm.Free Jvm.LawKit
section New
variable {p : Program} {l : Launch} {e : Env} {R : Room} {s : State} {m : MethodId} {args : Array Value} {below : List Frame} {meth : Method} {c : Code} {T : State} {locs : List Loc} {cells slots : Nat}
theorem retI (X : Stand p l e R s m args below meth c T locs cells slots) (hx : p.tables.exec = Jvm.exec) {pc : Nat} {Ls : Array Slot} {z : Int32} {rest : List Value} (hret : meth.sig.returnType = some .int) (hd : decode c.code pc = .ok (.ireturn, 1)) {fs : List Frame}
    (hl : ∀ (f : JFrame) (acts : List Action), f.method = m → f.locked = none → f.entered = [] → (doReturn e (T.setTop f) acts (some (.int z))).1 = T.setFrames fs) : Steps p.tables e below (T.setTop (mkF m pc Ls (.int z :: rest))) (T.setFrames fs) := by
  have hm' : T.vm.method? m = some meth := X.method'
  have hn : narrow .int (.int z) = .int z := rfl
  show Steps p.tables e below (T.setTop { method := m, pc := pc, locals := Ls, stack := _ :: rest, locked := none }) _
  jvm_step X.here [X.here.top, hx, hd, hm', hret, hn]
  first | (intro acts; rw [hl _ acts rfl rfl rfl]) | rw [hl _ _ rfl rfl rfl]
  exact Steps.refl _
end New
end Jvm.RoadKit

@@BLOCK:NumsL.lean.txt@@

namespace Jvm.Pilot.@@N@@
open Jvm Jvm.ClassFile Sem Op Lib Jvm.Free Jvm.Stand Jvm.LawKit Jvm.RoadKit Bundle Jvm.Pilot.@@N@@.Jvm.D
theorem own_sne {Z : State} {h : Heap} {a b c d : Addr} {k k' : ClassId} {z z' : Int32} {vs vs' : List Value} {dv dv' : Value} (F : Fld Z h a "java/lang/String" "value" "[B" (.ref c)) (G : Fld Z h b "java/lang/String" "value" "[B" (.ref d)) (V : Arv Z h c k .byte z vs dv) (W : Arv Z h d k' .byte z' vs' dv')
    (hne : z.toNatClampNeg ≠ z'.toNatClampNeg ∨ (0 < z.toNatClampNeg ∧ vs.getD 0 dv ≠ vs'.getD 0 dv')) : a ≠ b := by
  by_cases e : c = d
  · subst e
    obtain ⟨c1, A1, -, S1, -, H1, -⟩ := V
    obtain ⟨c2, A2, -, S2, -, H2, -⟩ := W
    cases A1.1.symm.trans A2.1
    exfalso
    rcases hne with q | ⟨q1, q2⟩
    · exact q (S1.symm.trans S2)
    · exact q2 (Option.some.inj ((H1 0 (by omega)).symm.trans (H2 0 (by omega))))
  · exact Fld.ne F G (fun q => e (Value.ref.inj q))
theorem own_eqi {args : Array Value} {first s : State} {o : Option Outcome} {idx : List Nat} {t : Term} {k : Int32} (h : (Cond.eq t (.int k)).value args first o s idx = some true) : t.eval args first o idx s = some (.int k) := by
  simp only [Cond.value, Term.eval] at h
  cases ht : t.eval args first o idx s with
  | none => simp [ht] at h
  | some x => cases x <;> simp [ht] at h ⊢; exact h
theorem own_len {args : Array Value} {Z : State} {t : Term} {a : Addr} {cl : Cell} {ty : FieldType} {n : Int32} (ev : t.eval args Z none [] Z = some (.ref a)) (A : Arr Z Z.heap a cl ty) (h : (Term.length t).eval args Z none [] Z = some (.int n)) : cl.slots.size < 2 ^ 31 ∧ cl.slots.size.toInt32 = n := by
  have ha := A.fin (Vm.Alike.refl _)
  simp only [Term.eval, ev, ha, Option.bind_eq_bind, Option.bind_some] at h
  by_cases q : cl.slots.size < 2 ^ 31
  · simp [q] at h; exact ⟨q, h⟩
  · simp [q] at h
def own_at (L : List Int32) (j : Int32) : Int32 := L.getD j.toNatClampNeg 0
theorem own_getD (L : List Int32) (i : Nat) : (L.map Value.int).getD i (.int (0 : Int32)) = .int (L.getD i 0) := by
  induction L generalizing i with
  | nil => rfl
  | cons a t ih => cases i with
    | zero => rfl
    | succ i => exact ih i

theorem own_eqI {a b : Int32} : a = b ↔ a.toInt = b.toInt := Int32.toInt_inj.symm
theorem own_ltI {a b : Int32} : a < b ↔ a.toInt < b.toInt := Int32.lt_iff_toInt_lt
theorem own_bd (a : Int32) : -2147483648 ≤ a.toInt ∧ a.toInt < 2147483648 := ⟨Int32.le_toInt a, Int32.toInt_lt a⟩
theorem own_tdiv (x m : Int) (hm : 0 < m) : (0 ≤ x → x.tdiv m = x / m ∧ x.tmod m = x % m) ∧ (x < 0 → x.tdiv m = -((-x) / m) ∧ x.tmod m = -((-x) % m)) := by
  refine ⟨fun h => ⟨Int.tdiv_eq_ediv_of_nonneg h, Int.tmod_eq_emod_of_nonneg h⟩, fun h => ?_⟩
  have h1 : x = -(-x) := by omega
  have a1 : (-(-x)).tdiv m = -((-x).tdiv m) := Int.neg_tdiv ..
  have a2 : (-(-x)).tmod m = -((-x).tmod m) := Int.neg_tmod ..
  rw [← h1] at a1 a2
  rw [a1, a2, Int.tdiv_eq_ediv_of_nonneg (by omega), Int.tmod_eq_emod_of_nonneg (by omega)]
  exact ⟨rfl, rfl⟩
theorem own_dm (a k : Int32) (hk : 1 < k.toInt) : (0 ≤ a.toInt → (a / k).toInt = a.toInt / k.toInt ∧ (a % k).toInt = a.toInt % k.toInt) ∧ (a.toInt < 0 → (a / k).toInt = -((-a.toInt) / k.toInt) ∧ (a % k).toInt = -((-a.toInt) % k.toInt)) := by
  have e1 : (a / k).toInt = a.toInt.tdiv k.toInt := Jvm.Kit.i32_div (fun h => by omega)
  have e2 : (a % k).toInt = a.toInt.tmod k.toInt := Jvm.Kit.i32_rem a k
  rw [e1, e2]
  exact own_tdiv _ _ (by omega)

theorem own_lc (q : Int64) : lcmpW q q = 0 := by
  unfold lcmpW
  rw [if_neg (by rw [gt_iff_lt, Int64.lt_iff_toInt_lt]; omega), if_pos rfl]

theorem d1_0 : decode prog_23_method_6_code 0 = .ok (.aload_n 0, 1) := by decide +kernel
theorem d1_1 : decode prog_23_method_6_code 1 = .ok (.getstatic 13, 3) := by decide +kernel
theorem d1_4 : decode prog_23_method_6_code 4 = .ok (.if_acmp .eq 10, 3) := by decide +kernel
theorem d1_14 : decode prog_23_method_6_code 14 = .ok (.iconst 1, 1) := by decide +kernel
theorem d1_15 : decode prog_23_method_6_code 15 = .ok (.goto 4, 3) := by decide +kernel
theorem d1_19 : decode prog_23_method_6_code 19 = .ok (.ireturn, 1) := by decide +kernel
theorem pn_1 : plainName "com/example/preddb/preddb/Program$ArithmeticOperator" = true := by first | (simp [plainName, overriddenIn]; done) | decide +kernel
theorem ef_1 (m : MethodId) (a1 : Addr) : entryFrame m #[(.ref a1)] 1 = mkF m 0 #[.val (.ref a1)] [] := by first | (simp [entryFrame, mkF, argsToLocals, Value.category]; done) | rfl
def F1  : Int32 := (1 : Int32)
def Q1 (Z : State) (a1 : Addr) (h0 : Heap) (n0 : Nat) (v : Option Value) (h : Heap) (L : List Loc) : Prop := v = some (.int (F1 )) ∧ Fr n0 L ∧ h = h0
set_option maxRecDepth 65536 in
set_option maxHeartbeats 40000000 in
theorem rm1 (l : Launch) (Z : State) (a0 : Array Value) (hw : ∀ d ∈ tables_1, d.before a0 Z = true) (ws : List Jvm.Cond) (a1 : Addr) (h0 : Heap) (n0 : Nat) (Z0 : n0 ≤ h0.size) (S_DIVIDE : Sta Z Z.heap "com/example/preddb/preddb/Program$ArithmeticOperator" "DIVIDE" "Lcom/example/preddb/preddb/Program$ArithmeticOperator;" (.ref a1)) (X00 : Old Z n0 h0) :
    MetFree l (⟨"com/example/preddb/preddb/Program$ArithmeticOperator", "divides", "()Z"⟩ : MethodName) (head1 (Jvm.Cond.code (⟨"com/example/preddb/preddb/Program$ArithmeticOperator", "divides", "()Z"⟩ : MethodName) prog_23_method_6_code 1 (some .boolean) :: ws) ({ frames := 0, cells := 0, slots := 0, locals := 0 } : Room)) (fun a U => a = #[(.ref a1)] ∧ Z.Warmed39 U.vm ∧ U.heap = h0) (fun _ _ _ _ _ => True) (fun _ U o U' => ∃ v L, o = .returned v ∧ Q1 Z a1 h0 n0 v U'.heap L ∧ FrameEnd U o U' L ({ frames := 0, cells := 0, slots := 0, locals := 0 } : Room).cells ({ frames := 0, cells := 0, slots := 0, locals := 0 } : Room).slots) := by
  refine MetFree.of_bodySF (plainFor_of_name pn_1) hisR ?_
  intro p e s m args below meth c s₁ Bd hml0 hP hK
  obtain ⟨rfl, hZ, hh⟩ := hP
  skip
  skip
  skip
  skip
  skip
  skip
  have hx := Bd.exec
  have hby := Bd.bytes
  have hml : c.maxLocals = 1 := hml0
  have hown : s.vm.findClass "com/example/preddb/preddb/Program$ArithmeticOperator" = some m.cls := findClass_of_methodNamed Bd.named
  have hnm := (name_of_methodNamed Bd.named Bd.method).1
  have X0 : Stand p l e ({ frames := 0, cells := 0, slots := 0, locals := 0 } : Room) s m #[(.ref a1)] below meth c s₁ [] 0 0 := Stand.of_body Bd
  have e0 : s₁.heap = h0 := by rw [← hh, Bd.state]; rfl
  have N0 := Fr.nil n0
  have pre0 : ∀ t, Steps p.tables e below (s₁.setTop (mkF m 0 #[.val (.ref a1)] [])) t → Steps p.tables e below (s₁.setTop (entryFrame m #[(.ref a1)] 1)) t := fun t k => castTop (ef_1 m a1) k
  obtain ⟨T1, X1, e1, st1⟩ := getS2 X0 hx hZ hown (host := "") (Or.inl (hw _ (List.mem_of_getElem? (i := 20) rfl))) Via.refl e0 (S_DIVIDE.ext X00.2) (g := (mkF m 1 #[.val (.ref a1)] [(.ref a1)])) rfl (hb hby d1_1)
  obtain ⟨fs, hr, hrun, hended, hW, hsame⟩ := X1.leave (v := some (.int (1 : Int32))) (fun h => by rw [Bd.returns] at h; cases h)
  refine ⟨_, _, pre0 _ ?_, hrun, hended, _, _, rfl, ?_, ⟨_, rfl⟩, hW, hsame.mono (by decide) (by decide)⟩
  · show Steps p.tables e below (s₁.setTop (mkF m 0 #[.val (.ref a1)] [])) _
    refine XS.aloadN X0.here hx rfl (hb hby d1_0) rfl rfl ?_
    show Steps p.tables e below (s₁.setTop (mkF m 1 #[.val (.ref a1)] [(.ref a1)])) _
    refine st1 _ ?_
    show Steps p.tables e below (T1.setTop (mkF m 4 #[.val (.ref a1)] [(.ref a1), (.ref a1)])) _
    refine Jvm.RoadKit.acmp (g := (mkF m 4 #[.val (.ref a1)] [(.ref a1), (.ref a1)])) X1 hx rfl rfl rfl (pc0 := 4) (pc' := 14) (same := true) rfl (hb hby d1_4) rfl (decide_eq_true rfl) (by decide) (by decide) ?_
    show Steps p.tables e below (T1.setTop (mkF m 14 #[.val (.ref a1)] [])) _
    refine XS.iconst X1.here hx rfl (hb hby d1_14) ?_
    show Steps p.tables e below (T1.setTop (mkF m 15 #[.val (.ref a1)] [(.int (1 : Int32))])) _
    refine XS.goto X1.here hx rfl (pc0 := 15) (pc' := 19) rfl (hb hby d1_15) (by decide) (by decide) ?_
    show Steps p.tables e below (T1.setTop (mkF m 19 #[.val (.ref a1)] [(.int (1 : Int32))])) _
    exact retN X1 hx (t := .boolean) Bd.returns (by simp) (hb hby d1_19) hr
  · show Q1 Z a1 h0 n0 _ T1.heap _
    rw [e1]
    refine ⟨?_, N0, rfl⟩
    show (some (.int (1 : Int32)) : Option Value) = some (.int (F1 ))
    rw [F1]
theorem d1001_0 : decode prog_23_method_6_code 0 = .ok (.aload_n 0, 1) := by decide +kernel
theorem d1001_1 : decode prog_23_method_6_code 1 = .ok (.getstatic 13, 3) := by decide +kernel
theorem d1001_4 : decode prog_23_method_6_code 4 = .ok (.if_acmp .eq 10, 3) := by decide +kernel
theorem d1001_7 : decode prog_23_method_6_code 7 = .ok (.aload_n 0, 1) := by decide +kernel
theorem d1001_8 : decode prog_23_method_6_code 8 = .ok (.getstatic 16, 3) := by decide +kernel
theorem d1001_11 : decode prog_23_method_6_code 11 = .ok (.if_acmp .ne 7, 3) := by decide +kernel
theorem d1001_14 : decode prog_23_method_6_code 14 = .ok (.iconst 1, 1) := by decide +kernel
theorem d1001_15 : decode prog_23_method_6_code 15 = .ok (.goto 4, 3) := by decide +kernel
theorem d1001_19 : decode prog_23_method_6_code 19 = .ok (.ireturn, 1) := by decide +kernel
theorem pn_1001 : plainName "com/example/preddb/preddb/Program$ArithmeticOperator" = true := by first | (simp [plainName, overriddenIn]; done) | decide +kernel
theorem ef_1001 (m : MethodId) (a1 : Addr) : entryFrame m #[(.ref a1)] 1 = mkF m 0 #[.val (.ref a1)] [] := by first | (simp [entryFrame, mkF, argsToLocals, Value.category]; done) | rfl
def F1001  : Int32 := (1 : Int32)
def Q1001 (Z : State) (a1 : Addr) (w_DIVIDE : Addr) (h0 : Heap) (n0 : Nat) (v : Option Value) (h : Heap) (L : List Loc) : Prop := v = some (.int (F1001 )) ∧ Fr n0 L ∧ h = h0
set_option maxRecDepth 65536 in
set_option maxHeartbeats 40000000 in
theorem rm1001 (l : Launch) (Z : State) (a0 : Array Value) (hw : ∀ d ∈ tables_1, d.before a0 Z = true) (ws : List Jvm.Cond) (a1 : Addr) (w_DIVIDE : Addr) (h0 : Heap) (n0 : Nat) (Z0 : n0 ≤ h0.size) (S_DIVIDE : Sta Z Z.heap "com/example/preddb/preddb/Program$ArithmeticOperator" "DIVIDE" "Lcom/example/preddb/preddb/Program$ArithmeticOperator;" (.ref w_DIVIDE)) (X00 : Old Z n0 h0) (ne_a1_w_DIVIDE : a1 ≠ w_DIVIDE) (S_REMAINDER : Sta Z Z.heap "com/example/preddb/preddb/Program$ArithmeticOperator" "REMAINDER" "Lcom/example/preddb/preddb/Program$ArithmeticOperator;" (.ref a1)) :
    MetFree l (⟨"com/example/preddb/preddb/Program$ArithmeticOperator", "divides", "()Z"⟩ : MethodName) (head1 (Jvm.Cond.code (⟨"com/example/preddb/preddb/Program$ArithmeticOperator", "divides", "()Z"⟩ : MethodName) prog_23_method_6_code 1 (some .boolean) :: ws) ({ frames := 0, cells := 0, slots := 0, locals := 0 } : Room)) (fun a U => a = #[(.ref a1)] ∧ Z.Warmed39 U.vm ∧ U.heap = h0) (fun _ _ _ _ _ => True) (fun _ U o U' => ∃ v L, o = .returned v ∧ Q1001 Z a1 w_DIVIDE h0 n0 v U'.heap L ∧ FrameEnd U o U' L ({ frames := 0, cells := 0, slots := 0, locals := 0 } : Room).cells ({ frames := 0, cells := 0, slots := 0, locals := 0 } : Room).slots) := by
  refine MetFree.of_bodySF (plainFor_of_name pn_1001) hisR ?_
  intro p e s m args below meth c s₁ Bd hml0 hP hK
  obtain ⟨rfl, hZ, hh⟩ := hP
  skip
  skip
  skip
  skip
  skip
  skip
  have hx := Bd.exec
  have hby := Bd.bytes
  have hml : c.maxLocals = 1 := hml0
  have hown : s.vm.findClass "com/example/preddb/preddb/Program$ArithmeticOperator" = some m.cls := findClass_of_methodNamed Bd.named
  have hnm := (name_of_methodNamed Bd.named Bd.method).1
  have X0 : Stand p l e ({ frames := 0, cells := 0, slots := 0, locals := 0 } : Room) s m #[(.ref a1)] below meth c s₁ [] 0 0 := Stand.of_body Bd
  have e0 : s₁.heap = h0 := by rw [← hh, Bd.state]; rfl
  have N0 := Fr.nil n0
  have pre0 : ∀ t, Steps p.tables e below (s₁.setTop (mkF m 0 #[.val (.ref a1)] [])) t → Steps p.tables e below (s₁.setTop (entryFrame m #[(.ref a1)] 1)) t := fun t k => castTop (ef_1001 m a1) k
  obtain ⟨T1, X1, e1, st1⟩ := getS2 X0 hx hZ hown (host := "") (Or.inl (hw _ (List.mem_of_getElem? (i := 20) rfl))) Via.refl e0 (S_DIVIDE.ext X00.2) (g := (mkF m 1 #[.val (.ref a1)] [(.ref a1)])) rfl (hb hby d1001_1)
  obtain ⟨T2, X2, e2, st2⟩ := getS2 X1 hx hZ hown (host := "") (Or.inl (hw _ (List.mem_of_getElem? (i := 21) rfl))) Via.refl e1 (S_REMAINDER.ext X00.2) (g := (mkF m 8 #[.val (.ref a1)] [(.ref a1)])) rfl (hb hby d1001_8)
  obtain ⟨fs, hr, hrun, hended, hW, hsame⟩ := X2.leave (v := some (.int (1 : Int32))) (fun h => by rw [Bd.returns] at h; cases h)
  refine ⟨_, _, pre0 _ ?_, hrun, hended, _, _, rfl, ?_, ⟨_, rfl⟩, hW, hsame.mono (by decide) (by decide)⟩
  · show Steps p.tables e below (s₁.setTop (mkF m 0 #[.val (.ref a1)] [])) _
    refine XS.aloadN X0.here hx rfl (hb hby d1001_0) rfl rfl ?_
    show Steps p.tables e below (s₁.setTop (mkF m 1 #[.val (.ref a1)] [(.ref a1)])) _
    refine st1 _ ?_
    show Steps p.tables e below (T1.setTop (mkF m 4 #[.val (.ref a1)] [(.ref w_DIVIDE), (.ref a1)])) _
    refine Jvm.RoadKit.acmp (g := (mkF m 4 #[.val (.ref a1)] [(.ref w_DIVIDE), (.ref a1)])) X1 hx rfl rfl rfl (pc0 := 4) (pc' := 7) (same := false) rfl (hb hby d1001_4) rfl (decide_eq_false fun q => ne_a1_w_DIVIDE (Value.ref.inj q)) (by decide) (by decide) ?_
    show Steps p.tables e below (T1.setTop (mkF m 7 #[.val (.ref a1)] [])) _
    refine XS.aloadN X1.here hx rfl (hb hby d1001_7) rfl rfl ?_
    show Steps p.tables e below (T1.setTop (mkF m 8 #[.val (.ref a1)] [(.ref a1)])) _
    refine st2 _ ?_
    show Steps p.tables e below (T2.setTop (mkF m 11 #[.val (.ref a1)] [(.ref a1), (.ref a1)])) _
    refine Jvm.RoadKit.acmp (g := (mkF m 11 #[.val (.ref a1)] [(.ref a1), (.ref a1)])) X2 hx rfl rfl rfl (pc0 := 11) (pc' := 14) (same := true) rfl (hb hby d1001_11) rfl (decide_eq_true rfl) (by decide) (by decide) ?_
    show Steps p.tables e below (T2.setTop (mkF m 14 #[.val (.ref a1)] [])) _
    refine XS.iconst X2.here hx rfl (hb hby d1001_14) ?_
    show Steps p.tables e below (T2.setTop (mkF m 15 #[.val (.ref a1)] [(.int (1 : Int32))])) _
    refine XS.goto X2.here hx rfl (pc0 := 15) (pc' := 19) rfl (hb hby d1001_15) (by decide) (by decide) ?_
    show Steps p.tables e below (T2.setTop (mkF m 19 #[.val (.ref a1)] [(.int (1 : Int32))])) _
    exact retN X2 hx (t := .boolean) Bd.returns (by simp) (hb hby d1001_19) hr
  · show Q1001 Z a1 w_DIVIDE h0 n0 _ T2.heap _
    rw [e2]
    refine ⟨?_, N0, rfl⟩
    show (some (.int (1 : Int32)) : Option Value) = some (.int (F1001 ))
    rw [F1001]
theorem d2001_0 : decode prog_23_method_6_code 0 = .ok (.aload_n 0, 1) := by decide +kernel
theorem d2001_1 : decode prog_23_method_6_code 1 = .ok (.getstatic 13, 3) := by decide +kernel
theorem d2001_4 : decode prog_23_method_6_code 4 = .ok (.if_acmp .eq 10, 3) := by decide +kernel
theorem d2001_7 : decode prog_23_method_6_code 7 = .ok (.aload_n 0, 1) := by decide +kernel
theorem d2001_8 : decode prog_23_method_6_code 8 = .ok (.getstatic 16, 3) := by decide +kernel
theorem d2001_11 : decode prog_23_method_6_code 11 = .ok (.if_acmp .ne 7, 3) := by decide +kernel
theorem d2001_18 : decode prog_23_method_6_code 18 = .ok (.iconst 0, 1) := by decide +kernel
theorem d2001_19 : decode prog_23_method_6_code 19 = .ok (.ireturn, 1) := by decide +kernel
theorem pn_2001 : plainName "com/example/preddb/preddb/Program$ArithmeticOperator" = true := by first | (simp [plainName, overriddenIn]; done) | decide +kernel
theorem ef_2001 (m : MethodId) (a1 : Addr) : entryFrame m #[(.ref a1)] 1 = mkF m 0 #[.val (.ref a1)] [] := by first | (simp [entryFrame, mkF, argsToLocals, Value.category]; done) | rfl
def F2001  : Int32 := (0 : Int32)
def Q2001 (Z : State) (a1 : Addr) (w_DIVIDE : Addr) (w_REMAINDER : Addr) (h0 : Heap) (n0 : Nat) (v : Option Value) (h : Heap) (L : List Loc) : Prop := v = some (.int (F2001 )) ∧ Fr n0 L ∧ h = h0
set_option maxRecDepth 65536 in
set_option maxHeartbeats 40000000 in
theorem rm2001 (l : Launch) (Z : State) (a0 : Array Value) (hw : ∀ d ∈ tables_1, d.before a0 Z = true) (ws : List Jvm.Cond) (a1 : Addr) (w_DIVIDE : Addr) (w_REMAINDER : Addr) (h0 : Heap) (n0 : Nat) (Z0 : n0 ≤ h0.size) (S_DIVIDE : Sta Z Z.heap "com/example/preddb/preddb/Program$ArithmeticOperator" "DIVIDE" "Lcom/example/preddb/preddb/Program$ArithmeticOperator;" (.ref w_DIVIDE)) (X00 : Old Z n0 h0) (ne_a1_w_DIVIDE : a1 ≠ w_DIVIDE) (S_REMAINDER : Sta Z Z.heap "com/example/preddb/preddb/Program$ArithmeticOperator" "REMAINDER" "Lcom/example/preddb/preddb/Program$ArithmeticOperator;" (.ref w_REMAINDER)) (ne_a1_w_REMAINDER : a1 ≠ w_REMAINDER) :
    MetFree l (⟨"com/example/preddb/preddb/Program$ArithmeticOperator", "divides", "()Z"⟩ : MethodName) (head1 (Jvm.Cond.code (⟨"com/example/preddb/preddb/Program$ArithmeticOperator", "divides", "()Z"⟩ : MethodName) prog_23_method_6_code 1 (some .boolean) :: ws) ({ frames := 0, cells := 0, slots := 0, locals := 0 } : Room)) (fun a U => a = #[(.ref a1)] ∧ Z.Warmed39 U.vm ∧ U.heap = h0) (fun _ _ _ _ _ => True) (fun _ U o U' => ∃ v L, o = .returned v ∧ Q2001 Z a1 w_DIVIDE w_REMAINDER h0 n0 v U'.heap L ∧ FrameEnd U o U' L ({ frames := 0, cells := 0, slots := 0, locals := 0 } : Room).cells ({ frames := 0, cells := 0, slots := 0, locals := 0 } : Room).slots) := by
  refine MetFree.of_bodySF (plainFor_of_name pn_2001) hisR ?_
  intro p e s m args below meth c s₁ Bd hml0 hP hK
  obtain ⟨rfl, hZ, hh⟩ := hP
  skip
  skip
  skip
  skip
  skip
  skip
  have hx := Bd.exec
  have hby := Bd.bytes
  have hml : c.maxLocals = 1 := hml0
  have hown : s.vm.findClass "com/example/preddb/preddb/Program$ArithmeticOperator" = some m.cls := findClass_of_methodNamed Bd.named
  have hnm := (name_of_methodNamed Bd.named Bd.method).1
  have X0 : Stand p l e ({ frames := 0, cells := 0, slots := 0, locals := 0 } : Room) s m #[(.ref a1)] below meth c s₁ [] 0 0 := Stand.of_body Bd
  have e0 : s₁.heap = h0 := by rw [← hh, Bd.state]; rfl
  have N0 := Fr.nil n0
  have pre0 : ∀ t, Steps p.tables e below (s₁.setTop (mkF m 0 #[.val (.ref a1)] [])) t → Steps p.tables e below (s₁.setTop (entryFrame m #[(.ref a1)] 1)) t := fun t k => castTop (ef_2001 m a1) k
  obtain ⟨T1, X1, e1, st1⟩ := getS2 X0 hx hZ hown (host := "") (Or.inl (hw _ (List.mem_of_getElem? (i := 20) rfl))) Via.refl e0 (S_DIVIDE.ext X00.2) (g := (mkF m 1 #[.val (.ref a1)] [(.ref a1)])) rfl (hb hby d2001_1)
  obtain ⟨T2, X2, e2, st2⟩ := getS2 X1 hx hZ hown (host := "") (Or.inl (hw _ (List.mem_of_getElem? (i := 21) rfl))) Via.refl e1 (S_REMAINDER.ext X00.2) (g := (mkF m 8 #[.val (.ref a1)] [(.ref a1)])) rfl (hb hby d2001_8)
  obtain ⟨fs, hr, hrun, hended, hW, hsame⟩ := X2.leave (v := some (.int (0 : Int32))) (fun h => by rw [Bd.returns] at h; cases h)
  refine ⟨_, _, pre0 _ ?_, hrun, hended, _, _, rfl, ?_, ⟨_, rfl⟩, hW, hsame.mono (by decide) (by decide)⟩
  · show Steps p.tables e below (s₁.setTop (mkF m 0 #[.val (.ref a1)] [])) _
    refine XS.aloadN X0.here hx rfl (hb hby d2001_0) rfl rfl ?_
    show Steps p.tables e below (s₁.setTop (mkF m 1 #[.val (.ref a1)] [(.ref a1)])) _
    refine st1 _ ?_
    show Steps p.tables e below (T1.setTop (mkF m 4 #[.val (.ref a1)] [(.ref w_DIVIDE), (.ref a1)])) _
    refine Jvm.RoadKit.acmp (g := (mkF m 4 #[.val (.ref a1)] [(.ref w_DIVIDE), (.ref a1)])) X1 hx rfl rfl rfl (pc0 := 4) (pc' := 7) (same := false) rfl (hb hby d2001_4) rfl (decide_eq_false fun q => ne_a1_w_DIVIDE (Value.ref.inj q)) (by decide) (by decide) ?_
    show Steps p.tables e below (T1.setTop (mkF m 7 #[.val (.ref a1)] [])) _
    refine XS.aloadN X1.here hx rfl (hb hby d2001_7) rfl rfl ?_
    show Steps p.tables e below (T1.setTop (mkF m 8 #[.val (.ref a1)] [(.ref a1)])) _
    refine st2 _ ?_
    show Steps p.tables e below (T2.setTop (mkF m 11 #[.val (.ref a1)] [(.ref w_REMAINDER), (.ref a1)])) _
    refine Jvm.RoadKit.acmp (g := (mkF m 11 #[.val (.ref a1)] [(.ref w_REMAINDER), (.ref a1)])) X2 hx rfl rfl rfl (pc0 := 11) (pc' := 18) (same := false) rfl (hb hby d2001_11) rfl (decide_eq_false fun q => ne_a1_w_REMAINDER (Value.ref.inj q)) (by decide) (by decide) ?_
    show Steps p.tables e below (T2.setTop (mkF m 18 #[.val (.ref a1)] [])) _
    refine XS.iconst X2.here hx rfl (hb hby d2001_18) ?_
    show Steps p.tables e below (T2.setTop (mkF m 19 #[.val (.ref a1)] [(.int (0 : Int32))])) _
    exact retN X2 hx (t := .boolean) Bd.returns (by simp) (hb hby d2001_19) hr
  · show Q2001 Z a1 w_DIVIDE w_REMAINDER h0 n0 _ T2.heap _
    rw [e2]
    refine ⟨?_, N0, rfl⟩
    show (some (.int (0 : Int32)) : Option Value) = some (.int (F2001 ))
    rw [F2001]
theorem d2_0 : decode prog_23_method_4_code 0 = .ok (.aload_n 0, 1) := by decide +kernel
theorem d2_1 : decode prog_23_method_4_code 1 = .ok (.getfield 38, 3) := by decide +kernel
theorem d2_4 : decode prog_23_method_4_code 4 = .ok (.areturn, 1) := by decide +kernel
theorem pn_2 : plainName "com/example/preddb/preddb/Program$ArithmeticOperator" = true := by first | (simp [plainName, overriddenIn]; done) | decide +kernel
theorem ef_2 (m : MethodId) (a1 : Addr) : entryFrame m #[(.ref a1)] 1 = mkF m 0 #[.val (.ref a1)] [] := by first | (simp [entryFrame, mkF, argsToLocals, Value.category]; done) | rfl
def Q2 (Z : State) (a1 : Addr) (w_token_a1 : Addr) (h0 : Heap) (n0 : Nat) (v : Option Value) (h : Heap) (L : List Loc) : Prop := v = some (.ref w_token_a1) ∧ Fr n0 L ∧ h = h0
set_option maxRecDepth 65536 in
set_option maxHeartbeats 40000000 in
theorem rm2 (l : Launch) (Z : State) (a0 : Array Value) (hw : ∀ d ∈ tables_1, d.before a0 Z = true) (ws : List Jvm.Cond) (a1 : Addr) (w_token_a1 : Addr) (h0 : Heap) (n0 : Nat) (Z0 : n0 ≤ h0.size) (F_token_a1 : Fld Z h0 a1 "com/example/preddb/preddb/Program$ArithmeticOperator" "token" "Ljava/lang/String;" (.ref w_token_a1)) :
    MetFree l (⟨"com/example/preddb/preddb/Program$ArithmeticOperator", "token", "()Ljava/lang/String;"⟩ : MethodName) (head1 (Jvm.Cond.code (⟨"com/example/preddb/preddb/Program$ArithmeticOperator", "token", "()Ljava/lang/String;"⟩ : MethodName) prog_23_method_4_code 1 (some (.object "java/lang/String")) :: ws) ({ frames := 0, cells := 0, slots := 0, locals := 0 } : Room)) (fun a U => a = #[(.ref a1)] ∧ Z.Warmed39 U.vm ∧ U.heap = h0) (fun _ _ _ _ _ => True) (fun _ U o U' => ∃ v L, o = .returned v ∧ Q2 Z a1 w_token_a1 h0 n0 v U'.heap L ∧ FrameEnd U o U' L ({ frames := 0, cells := 0, slots := 0, locals := 0 } : Room).cells ({ frames := 0, cells := 0, slots := 0, locals := 0 } : Room).slots) := by
  refine MetFree.of_bodySF (plainFor_of_name pn_2) hisR ?_
  intro p e s m args below meth c s₁ Bd hml0 hP hK
  obtain ⟨rfl, hZ, hh⟩ := hP
  skip
  skip
  skip
  skip
  skip
  skip
  have hx := Bd.exec
  have hby := Bd.bytes
  have hml : c.maxLocals = 1 := hml0
  have hown : s.vm.findClass "com/example/preddb/preddb/Program$ArithmeticOperator" = some m.cls := findClass_of_methodNamed Bd.named
  have hnm := (name_of_methodNamed Bd.named Bd.method).1
  have X0 : Stand p l e ({ frames := 0, cells := 0, slots := 0, locals := 0 } : Room) s m #[(.ref a1)] below meth c s₁ [] 0 0 := Stand.of_body Bd
  have e0 : s₁.heap = h0 := by rw [← hh, Bd.state]; rfl
  have N0 := Fr.nil n0
  have pre0 : ∀ t, Steps p.tables e below (s₁.setTop (mkF m 0 #[.val (.ref a1)] [])) t → Steps p.tables e below (s₁.setTop (entryFrame m #[(.ref a1)] 1)) t := fun t k => castTop (ef_2 m a1) k
  obtain ⟨T1, X1, e1, st1⟩ := getF X0 hx hZ hown (host := "") (Or.inl (hw _ (List.mem_of_getElem? (i := 27) rfl))) Via.refl e0 F_token_a1 (g := (mkF m 1 #[.val (.ref a1)] [(.ref a1)])) rfl rfl (hb hby d2_1)
  obtain ⟨fs, hr, hrun, hended, hW, hsame⟩ := X1.leave (v := some (.ref w_token_a1)) (fun h => by rw [Bd.returns] at h; cases h)
  refine ⟨_, _, pre0 _ ?_, hrun, hended, _, _, rfl, ?_, ⟨_, rfl⟩, hW, hsame.mono (by decide) (by decide)⟩
  · show Steps p.tables e below (s₁.setTop (mkF m 0 #[.val (.ref a1)] [])) _
    refine XS.aloadN X0.here hx rfl (hb hby d2_0) rfl rfl ?_
    show Steps p.tables e below (s₁.setTop (mkF m 1 #[.val (.ref a1)] [(.ref a1)])) _
    refine st1 _ ?_
    show Steps p.tables e below (T1.setTop (mkF m 4 #[.val (.ref a1)] [(.ref w_token_a1)])) _
    jvm_step X1.here [X1.here.top, hx, (hb hby d2_4), X1.method', Bd.returns, Value.isRef, FieldType.isReference]
    first | (intro acts; rw [hr _ acts rfl rfl rfl]) | rw [hr _ _ rfl rfl rfl]
    exact Steps.refl _
  · show Q2 Z a1 w_token_a1 h0 n0 _ T1.heap _
    rw [e1]
    refine ⟨?_, N0, rfl⟩
    skip
    rfl
theorem d4_0 : decode jdk_43_method_13_code 0 = .ok (.aload_n 0, 1) := by decide +kernel
theorem d4_1 : decode jdk_43_method_13_code 1 = .ok (.arraylength, 1) := by decide +kernel
theorem d4_2 : decode jdk_43_method_13_code 2 = .ok (.aload_n 1, 1) := by decide +kernel
theorem d4_3 : decode jdk_43_method_13_code 3 = .ok (.arraylength, 1) := by decide +kernel
theorem d4_4 : decode jdk_43_method_13_code 4 = .ok (.if_icmp .ne 30, 3) := by decide +kernel
theorem d4_7 : decode jdk_43_method_13_code 7 = .ok (.iconst 0, 1) := by decide +kernel
theorem d4_8 : decode jdk_43_method_13_code 8 = .ok (.istore_n 2, 1) := by decide +kernel
theorem d4_9 : decode jdk_43_method_13_code 9 = .ok (.iload_n 2, 1) := by decide +kernel
theorem d4_10 : decode jdk_43_method_13_code 10 = .ok (.aload_n 0, 1) := by decide +kernel
theorem d4_11 : decode jdk_43_method_13_code 11 = .ok (.arraylength, 1) := by decide +kernel
theorem d4_12 : decode jdk_43_method_13_code 12 = .ok (.if_icmp .ge 20, 3) := by decide +kernel
theorem d4_15 : decode jdk_43_method_13_code 15 = .ok (.aload_n 0, 1) := by decide +kernel
theorem d4_16 : decode jdk_43_method_13_code 16 = .ok (.iload_n 2, 1) := by decide +kernel
theorem d4_17 : decode jdk_43_method_13_code 17 = .ok (.baload, 1) := by decide +kernel
theorem d4_18 : decode jdk_43_method_13_code 18 = .ok (.aload_n 1, 1) := by decide +kernel
theorem d4_19 : decode jdk_43_method_13_code 19 = .ok (.iload_n 2, 1) := by decide +kernel
theorem d4_20 : decode jdk_43_method_13_code 20 = .ok (.baload, 1) := by decide +kernel
theorem d4_21 : decode jdk_43_method_13_code 21 = .ok (.if_icmp .eq 5, 3) := by decide +kernel
theorem d4_24 : decode jdk_43_method_13_code 24 = .ok (.iconst 0, 1) := by decide +kernel
theorem d4_25 : decode jdk_43_method_13_code 25 = .ok (.ireturn, 1) := by decide +kernel
theorem d4_26 : decode jdk_43_method_13_code 26 = .ok (.iinc 2 1, 3) := by decide +kernel
theorem d4_29 : decode jdk_43_method_13_code 29 = .ok (.goto (-20), 3) := by decide +kernel
theorem d4_32 : decode jdk_43_method_13_code 32 = .ok (.iconst 1, 1) := by decide +kernel
theorem d4_33 : decode jdk_43_method_13_code 33 = .ok (.ireturn, 1) := by decide +kernel
theorem pn_4 : plainName "java/lang/StringLatin1" = true := by first | (simp [plainName, overriddenIn]; done) | decide +kernel
theorem ef_4 (m : MethodId) (a1 : Addr) (a2 : Addr) : entryFrame m #[(.ref a1), (.ref a2)] 3 = mkF m 0 #[.val (.ref a1), .val (.ref a2), .unset] [] := by first | (simp [entryFrame, mkF, argsToLocals, Value.category]; done) | rfl
def F4 (e_a1_0 : Int32) (e_a2_0 : Int32) : Int32 := (if e_a1_0 = e_a2_0 then (1 : Int32) else (0 : Int32))
def Q4 (Z : State) (a1 : Addr) (a2 : Addr) (k_a1 : ClassId) (e_a1_0 : Int32) (k_a2 : ClassId) (e_a2_0 : Int32) (h0 : Heap) (n0 : Nat) (v : Option Value) (h : Heap) (L : List Loc) : Prop := v = some (.int (F4 e_a1_0 e_a2_0)) ∧ Fr n0 L ∧ h = h0
set_option maxRecDepth 65536 in
set_option maxHeartbeats 40000000 in
theorem rm4 (l : Launch) (Z : State) (a0 : Array Value) (hw : ∀ d ∈ tables_1, d.before a0 Z = true) (ws : List Jvm.Cond) (a1 : Addr) (a2 : Addr) (k_a1 : ClassId) (e_a1_0 : Int32) (k_a2 : ClassId) (e_a2_0 : Int32) (h0 : Heap) (n0 : Nat) (Z0 : n0 ≤ h0.size) (V_a1 : Arv Z h0 a1 k_a1 .byte (1 : Int32) [(.int e_a1_0)] (.int (0 : Int32))) (V_a2 : Arv Z h0 a2 k_a2 .byte (1 : Int32) [(.int e_a2_0)] (.int (0 : Int32))) :
    MetFree l (⟨"java/lang/StringLatin1", "equals", "([B[B)Z"⟩ : MethodName) (head1 (Jvm.Cond.code (⟨"java/lang/StringLatin1", "equals", "([B[B)Z"⟩ : MethodName) jdk_43_method_13_code 3 (some .boolean) :: ws) ({ frames := 0, cells := 0, slots := 0, locals := 0 } : Room)) (fun a U => a = #[(.ref a1), (.ref a2)] ∧ Z.Warmed39 U.vm ∧ U.heap = h0) (fun _ _ _ _ _ => True) (fun _ U o U' => ∃ v L, o = .returned v ∧ Q4 Z a1 a2 k_a1 e_a1_0 k_a2 e_a2_0 h0 n0 v U'.heap L ∧ FrameEnd U o U' L ({ frames := 0, cells := 0, slots := 0, locals := 0 } : Room).cells ({ frames := 0, cells := 0, slots := 0, locals := 0 } : Room).slots) := by
  refine MetFree.of_bodySF (plainFor_of_name pn_4) hisR ?_
  intro p e s m args below meth c s₁ Bd hml0 hP hK
  obtain ⟨rfl, hZ, hh⟩ := hP
  skip
  skip
  skip
  skip
  skip
  skip
  have hx := Bd.exec
  have hby := Bd.bytes
  have hml : c.maxLocals = 3 := hml0
  have hown : s.vm.findClass "java/lang/StringLatin1" = some m.cls := findClass_of_methodNamed Bd.named
  have hnm := (name_of_methodNamed Bd.named Bd.method).1
  have X0 : Stand p l e ({ frames := 0, cells := 0, slots := 0, locals := 0 } : Room) s m #[(.ref a1), (.ref a2)] below meth c s₁ [] 0 0 := Stand.of_body Bd
  have e0 : s₁.heap = h0 := by rw [← hh, Bd.state]; rfl
  have N0 := Fr.nil n0
  have pre0 : ∀ t, Steps p.tables e below (s₁.setTop (mkF m 0 #[.val (.ref a1), .val (.ref a2), .unset] [])) t → Steps p.tables e below (s₁.setTop (entryFrame m #[(.ref a1), (.ref a2)] 3)) t := fun t k => castTop (ef_4 m a1 a2) k
  obtain ⟨cl1, Ar1, aq1, S1, M1, H1, G1⟩ := id V_a1
  obtain ⟨cl2, Ar2, aq2, S2, M2, H2, G2⟩ := id V_a2
  obtain ⟨cl3, Ar3, aq3, S3, M3, H3, G3⟩ := id V_a1
  obtain ⟨cl4, Ar4, aq4, S4, M4, H4, G4⟩ := id V_a1
  have hin4 : ¬ ((0 : Int32) < 0 ∨ cl4.slots.size ≤ ((0 : Int32)).toNatClampNeg) := inb_of S4 ⟨by decide, by decide⟩
  have hat4 : cl4.slots[((0 : Int32)).toNatClampNeg]? = some (.int e_a1_0) := Has.at H4 hin4 rfl
  obtain ⟨cl5, Ar5, aq5, S5, M5, H5, G5⟩ := id V_a2
  have hin5 : ¬ ((0 : Int32) < 0 ∨ cl5.slots.size ≤ ((0 : Int32)).toNatClampNeg) := inb_of S5 ⟨by decide, by decide⟩
  have hat5 : cl5.slots[((0 : Int32)).toNatClampNeg]? = some (.int e_a2_0) := Has.at H5 hin5 rfl
  have pre6 : ∀ t, Steps p.tables e below (s₁.setTop (mkF m 21 #[.val (.ref a1), .val (.ref a2), .val (.int (0 : Int32))] [(.int e_a2_0), (.int e_a1_0)])) t → Steps p.tables e below (s₁.setTop (entryFrame m #[(.ref a1), (.ref a2)] 3)) t := fun t kt => by
    refine pre0 t ?_
    show Steps p.tables e below (s₁.setTop (mkF m 0 #[.val (.ref a1), .val (.ref a2), .unset] [])) _
    refine XS.aloadN X0.here hx rfl (hb hby d4_0) rfl rfl ?_
    show Steps p.tables e below (s₁.setTop (mkF m 1 #[.val (.ref a1), .val (.ref a2), .unset] [(.ref a1)])) _
    refine X0.arraylength hx (by rw [e0]; exact Ar1.1) (State.isArrayOf_alike hZ.alike Ar1.2.1) (g := (mkF m 1 #[.val (.ref a1), .val (.ref a2), .unset] [(.ref a1)])) rfl rfl (hb hby d4_1) _ ?_
    rw [len_of S1 M1]
    show Steps p.tables e below (s₁.setTop (mkF m 2 #[.val (.ref a1), .val (.ref a2), .unset] [(.int (1 : Int32))])) _
    refine XS.aloadN X0.here hx rfl (hb hby d4_2) rfl rfl ?_
    show Steps p.tables e below (s₁.setTop (mkF m 3 #[.val (.ref a1), .val (.ref a2), .unset] [(.ref a2), (.int (1 : Int32))])) _
    refine X0.arraylength hx (by rw [e0]; exact Ar2.1) (State.isArrayOf_alike hZ.alike Ar2.2.1) (g := (mkF m 3 #[.val (.ref a1), .val (.ref a2), .unset] [(.ref a2), (.int (1 : Int32))])) rfl rfl (hb hby d4_3) _ ?_
    rw [len_of S2 M2]
    show Steps p.tables e below (s₁.setTop (mkF m 4 #[.val (.ref a1), .val (.ref a2), .unset] [(.int (1 : Int32)), (.int (1 : Int32))])) _
    refine XS.icmpNo X0.here hx rfl (hb hby d4_4) rfl (teq (rfl : (1 : Int32) = (1 : Int32))).2 ?_
    show Steps p.tables e below (s₁.setTop (mkF m 7 #[.val (.ref a1), .val (.ref a2), .unset] [])) _
    refine XS.iconst X0.here hx rfl (hb hby d4_7) ?_
    show Steps p.tables e below (s₁.setTop (mkF m 8 #[.val (.ref a1), .val (.ref a2), .unset] [(.int (0 : Int32))])) _
    refine XS.istoreN X0.here hx rfl (hb hby d4_8) rfl (l' := #[.val (.ref a1), .val (.ref a2), .val (.int (0 : Int32))]) rfl ?_
    show Steps p.tables e below (s₁.setTop (mkF m 9 #[.val (.ref a1), .val (.ref a2), .val (.int (0 : Int32))] [])) _
    refine XS.iloadN X0.here hx rfl (hb hby d4_9) rfl ?_
    show Steps p.tables e below (s₁.setTop (mkF m 10 #[.val (.ref a1), .val (.ref a2), .val (.int (0 : Int32))] [(.int (0 : Int32))])) _
    refine XS.aloadN X0.here hx rfl (hb hby d4_10) rfl rfl ?_
    show Steps p.tables e below (s₁.setTop (mkF m 11 #[.val (.ref a1), .val (.ref a2), .val (.int (0 : Int32))] [(.ref a1), (.int (0 : Int32))])) _
    refine X0.arraylength hx (by rw [e0]; exact Ar3.1) (State.isArrayOf_alike hZ.alike Ar3.2.1) (g := (mkF m 11 #[.val (.ref a1), .val (.ref a2), .val (.int (0 : Int32))] [(.ref a1), (.int (0 : Int32))])) rfl rfl (hb hby d4_11) _ ?_
    rw [len_of S3 M3]
    show Steps p.tables e below (s₁.setTop (mkF m 12 #[.val (.ref a1), .val (.ref a2), .val (.int (0 : Int32))] [(.int (1 : Int32)), (.int (0 : Int32))])) _
    refine XS.icmpNo X0.here hx rfl (hb hby d4_12) rfl (tlt (by decide : (0 : Int32) < (1 : Int32))).2.1 ?_
    show Steps p.tables e below (s₁.setTop (mkF m 15 #[.val (.ref a1), .val (.ref a2), .val (.int (0 : Int32))] [])) _
    refine XS.aloadN X0.here hx rfl (hb hby d4_15) rfl rfl ?_
    show Steps p.tables e below (s₁.setTop (mkF m 16 #[.val (.ref a1), .val (.ref a2), .val (.int (0 : Int32))] [(.ref a1)])) _
    refine XS.iloadN X0.here hx rfl (hb hby d4_16) rfl ?_
    show Steps p.tables e below (s₁.setTop (mkF m 17 #[.val (.ref a1), .val (.ref a2), .val (.int (0 : Int32))] [(.int (0 : Int32)), (.ref a1)])) _
    refine X0.baloadBytes hx (j := (0 : Int32)) (v := (.int e_a1_0)) (by rw [e0]; exact Ar4.1) (State.isArrayOf_alike hZ.alike Ar4.2.1) Ar4.2.2 hin4 hat4 (g := (mkF m 17 #[.val (.ref a1), .val (.ref a2), .val (.int (0 : Int32))] [(.int (0 : Int32)), (.ref a1)])) rfl rfl (hb hby d4_17) _ ?_
    show Steps p.tables e below (s₁.setTop (mkF m 18 #[.val (.ref a1), .val (.ref a2), .val (.int (0 : Int32))] [(.int e_a1_0)])) _
    refine XS.aloadN X0.here hx rfl (hb hby d4_18) rfl rfl ?_
    show Steps p.tables e below (s₁.setTop (mkF m 19 #[.val (.ref a1), .val (.ref a2), .val (.int (0 : Int32))] [(.ref a2), (.int e_a1_0)])) _
    refine XS.iloadN X0.here hx rfl (hb hby d4_19) rfl ?_
    show Steps p.tables e below (s₁.setTop (mkF m 20 #[.val (.ref a1), .val (.ref a2), .val (.int (0 : Int32))] [(.int (0 : Int32)), (.ref a2), (.int e_a1_0)])) _
    refine X0.baloadBytes hx (j := (0 : Int32)) (v := (.int e_a2_0)) (by rw [e0]; exact Ar5.1) (State.isArrayOf_alike hZ.alike Ar5.2.1) Ar5.2.2 hin5 hat5 (g := (mkF m 20 #[.val (.ref a1), .val (.ref a2), .val (.int (0 : Int32))] [(.int (0 : Int32)), (.ref a2), (.int e_a1_0)])) rfl rfl (hb hby d4_20) _ ?_
    exact kt
  by_cases hc7 : e_a1_0 = e_a2_0
  · obtain ⟨cl8, Ar8, aq8, S8, M8, H8, G8⟩ := id V_a1
    obtain ⟨fs, hr, hrun, hended, hW, hsame⟩ := X0.leave (v := some (.int (1 : Int32))) (fun h => by rw [Bd.returns] at h; cases h)
    refine ⟨_, _, pre6 _ ?_, hrun, hended, _, _, rfl, ?_, ⟨_, rfl⟩, hW, hsame.mono (by decide) (by decide)⟩
    · show Steps p.tables e below (s₁.setTop (mkF m 21 #[.val (.ref a1), .val (.ref a2), .val (.int (0 : Int32))] [(.int e_a2_0), (.int e_a1_0)])) _
      refine XS.icmpYes X0.here hx rfl (pc0 := 21) (pc' := 26) rfl (hb hby d4_21) rfl (teq hc7).1 (by decide) (by decide) ?_
      show Steps p.tables e below (s₁.setTop (mkF m 26 #[.val (.ref a1), .val (.ref a2), .val (.int (0 : Int32))] [])) _
      refine XS.iinc X0.here hx rfl (hb hby d4_26) rfl (l' := #[.val (.ref a1), .val (.ref a2), .val (.int (1 : Int32))]) rfl ?_
      show Steps p.tables e below (s₁.setTop (mkF m 29 #[.val (.ref a1), .val (.ref a2), .val (.int (1 : Int32))] [])) _
      refine XS.goto X0.here hx rfl (pc0 := 29) (pc' := 9) rfl (hb hby d4_29) (by decide) (by decide) ?_
      show Steps p.tables e below (s₁.setTop (mkF m 9 #[.val (.ref a1), .val (.ref a2), .val (.int (1 : Int32))] [])) _
      refine XS.iloadN X0.here hx rfl (hb hby d4_9) rfl ?_
      show Steps p.tables e below (s₁.setTop (mkF m 10 #[.val (.ref a1), .val (.ref a2), .val (.int (1 : Int32))] [(.int (1 : Int32))])) _
      refine XS.aloadN X0.here hx rfl (hb hby d4_10) rfl rfl ?_
      show Steps p.tables e below (s₁.setTop (mkF m 11 #[.val (.ref a1), .val (.ref a2), .val (.int (1 : Int32))] [(.ref a1), (.int (1 : Int32))])) _
      refine X0.arraylength hx (by rw [e0]; exact Ar8.1) (State.isArrayOf_alike hZ.alike Ar8.2.1) (g := (mkF m 11 #[.val (.ref a1), .val (.ref a2), .val (.int (1 : Int32))] [(.ref a1), (.int (1 : Int32))])) rfl rfl (hb hby d4_11) _ ?_
      rw [len_of S8 M8]
      show Steps p.tables e below (s₁.setTop (mkF m 12 #[.val (.ref a1), .val (.ref a2), .val (.int (1 : Int32))] [(.int (1 : Int32)), (.int (1 : Int32))])) _
      refine XS.icmpYes X0.here hx rfl (pc0 := 12) (pc' := 32) rfl (hb hby d4_12) rfl (flt (by decide : ¬ ((1 : Int32) < (1 : Int32)))).2.1 (by decide) (by decide) ?_
      show Steps p.tables e below (s₁.setTop (mkF m 32 #[.val (.ref a1), .val (.ref a2), .val (.int (1 : Int32))] [])) _
      refine XS.iconst X0.here hx rfl (hb hby d4_32) ?_
      show Steps p.tables e below (s₁.setTop (mkF m 33 #[.val (.ref a1), .val (.ref a2), .val (.int (1 : Int32))] [(.int (1 : Int32))])) _
      exact retN X0 hx (t := .boolean) Bd.returns (by simp) (hb hby d4_33) hr
    · show Q4 Z a1 a2 k_a1 e_a1_0 k_a2 e_a2_0 h0 n0 _ s₁.heap _
      rw [e0]
      refine ⟨?_, N0, rfl⟩
      show (some (.int (1 : Int32)) : Option Value) = some (.int (F4 e_a1_0 e_a2_0))
      rw [F4, if_pos hc7]
  · obtain ⟨fs, hr, hrun, hended, hW, hsame⟩ := X0.leave (v := some (.int (0 : Int32))) (fun h => by rw [Bd.returns] at h; cases h)
    refine ⟨_, _, pre6 _ ?_, hrun, hended, _, _, rfl, ?_, ⟨_, rfl⟩, hW, hsame.mono (by decide) (by decide)⟩
    · show Steps p.tables e below (s₁.setTop (mkF m 21 #[.val (.ref a1), .val (.ref a2), .val (.int (0 : Int32))] [(.int e_a2_0), (.int e_a1_0)])) _
      refine XS.icmpNo X0.here hx rfl (hb hby d4_21) rfl (feq hc7).1 ?_
      show Steps p.tables e below (s₁.setTop (mkF m 24 #[.val (.ref a1), .val (.ref a2), .val (.int (0 : Int32))] [])) _
      refine XS.iconst X0.here hx rfl (hb hby d4_24) ?_
      show Steps p.tables e below (s₁.setTop (mkF m 25 #[.val (.ref a1), .val (.ref a2), .val (.int (0 : Int32))] [(.int (0 : Int32))])) _
      exact retN X0 hx (t := .boolean) Bd.returns (by simp) (hb hby d4_25) hr
    · show Q4 Z a1 a2 k_a1 e_a1_0 k_a2 e_a2_0 h0 n0 _ s₁.heap _
      rw [e0]
      refine ⟨?_, N0, rfl⟩
      show (some (.int (0 : Int32)) : Option Value) = some (.int (F4 e_a1_0 e_a2_0))
      rw [F4, if_neg hc7]
theorem d3_0 : decode jdk_42_method_66_code 0 = .ok (.aload_n 0, 1) := by decide +kernel
theorem d3_1 : decode jdk_42_method_66_code 1 = .ok (.aload_n 1, 1) := by decide +kernel
theorem d3_2 : decode jdk_42_method_66_code 2 = .ok (.if_acmp .ne 5, 3) := by decide +kernel
theorem d3_7 : decode jdk_42_method_66_code 7 = .ok (.aload_n 1, 1) := by decide +kernel
theorem d3_8 : decode jdk_42_method_66_code 8 = .ok (.instanceof 10, 3) := by decide +kernel
theorem d3_11 : decode jdk_42_method_66_code 11 = .ok (.ifCond .eq 43, 3) := by decide +kernel
theorem d3_14 : decode jdk_42_method_66_code 14 = .ok (.aload_n 1, 1) := by decide +kernel
theorem d3_15 : decode jdk_42_method_66_code 15 = .ok (.checkcast 10, 3) := by decide +kernel
theorem d3_18 : decode jdk_42_method_66_code 18 = .ok (.astore_n 2, 1) := by decide +kernel
theorem d3_19 : decode jdk_42_method_66_code 19 = .ok (.getstatic 38, 3) := by decide +kernel
theorem d3_22 : decode jdk_42_method_66_code 22 = .ok (.ifCond .eq 14, 3) := by decide +kernel
theorem d3_25 : decode jdk_42_method_66_code 25 = .ok (.aload_n 0, 1) := by decide +kernel
theorem d3_26 : decode jdk_42_method_66_code 26 = .ok (.getfield 15, 3) := by decide +kernel
theorem d3_29 : decode jdk_42_method_66_code 29 = .ok (.aload_n 2, 1) := by decide +kernel
theorem d3_30 : decode jdk_42_method_66_code 30 = .ok (.getfield 15, 3) := by decide +kernel
theorem d3_33 : decode jdk_42_method_66_code 33 = .ok (.if_icmp .ne 21, 3) := by decide +kernel
theorem d3_36 : decode jdk_42_method_66_code 36 = .ok (.aload_n 0, 1) := by decide +kernel
theorem d3_37 : decode jdk_42_method_66_code 37 = .ok (.getfield 9, 3) := by decide +kernel
theorem d3_40 : decode jdk_42_method_66_code 40 = .ok (.aload_n 2, 1) := by decide +kernel
theorem d3_41 : decode jdk_42_method_66_code 41 = .ok (.getfield 9, 3) := by decide +kernel
theorem d3_44 : decode jdk_42_method_66_code 44 = .ok (.invokestatic 541, 3) := by decide +kernel
theorem d3_47 : decode jdk_42_method_66_code 47 = .ok (.ifCond .eq 7, 3) := by decide +kernel
theorem d3_54 : decode jdk_42_method_66_code 54 = .ok (.iconst 0, 1) := by decide +kernel
theorem d3_55 : decode jdk_42_method_66_code 55 = .ok (.ireturn, 1) := by decide +kernel
theorem pn_3 : plainName "java/lang/String" = true := by first | (simp [plainName, overriddenIn]; done) | decide +kernel
theorem pd_3_3 : parseMethodDescriptor "([B[B)Z" = some ⟨[(.array .byte), (.array .byte)], some .boolean⟩ := by decide +kernel
theorem ef_3 (m : MethodId) (a1 : Addr) (a2 : Addr) : entryFrame m #[(.ref a1), (.ref a2)] 3 = mkF m 0 #[.val (.ref a1), .val (.ref a2), .unset] [] := by first | (simp [entryFrame, mkF, argsToLocals, Value.category]; done) | rfl
def F3 (w_COMPACT_STRINGS : Int32) : Int32 := (if w_COMPACT_STRINGS = (0 : Int32) then (0 : Int32) else (0 : Int32))
def Q3 (Z : State) (a1 : Addr) (a2 : Addr) (c1 : Addr) (k_c1 : ClassId) (c2 : Addr) (k_c2 : ClassId) (w_COMPACT_STRINGS : Int32) (h0 : Heap) (n0 : Nat) (v : Option Value) (h : Heap) (L : List Loc) : Prop := v = some (.int (F3 w_COMPACT_STRINGS)) ∧ Fr n0 L ∧ h = h0
set_option maxRecDepth 65536 in
set_option maxHeartbeats 40000000 in
theorem rm3 (l : Launch) (Z : State) (a0 : Array Value) (hw : ∀ d ∈ tables_1, d.before a0 Z = true) (ws : List Jvm.Cond) (a1 : Addr) (a2 : Addr) (c1 : Addr) (k_c1 : ClassId) (c2 : Addr) (k_c2 : ClassId) (w_COMPACT_STRINGS : Int32) (h0 : Heap) (n0 : Nat) (Z0 : n0 ≤ h0.size) (E_a1 : Exa Z h0 a1 "java/lang/String") (F_coder_a1 : Fld Z h0 a1 "java/lang/String" "coder" "B" (.int (0 : Int32))) (F_value_a1 : Fld Z h0 a1 "java/lang/String" "value" "[B" (.ref c1)) (V_c1 : Arv Z h0 c1 k_c1 .byte (1 : Int32) [(.int (43 : Int32))] (.int (0 : Int32))) (E_a2 : Exa Z h0 a2 "java/lang/String") (F_coder_a2 : Fld Z h0 a2 "java/lang/String" "coder" "B" (.int (0 : Int32))) (F_value_a2 : Fld Z h0 a2 "java/lang/String" "value" "[B" (.ref c2)) (V_c2 : Arv Z h0 c2 k_c2 .byte (1 : Int32) [(.int (47 : Int32))] (.int (0 : Int32))) (S_COMPACT_STRINGS : Sta Z Z.heap "java/lang/String" "COMPACT_STRINGS" "Z" (.int w_COMPACT_STRINGS)) (X00 : Old Z n0 h0) :
    MetFree l (⟨"java/lang/String", "equals", "(Ljava/lang/Object;)Z"⟩ : MethodName) (head1 (Jvm.Cond.code (⟨"java/lang/String", "equals", "(Ljava/lang/Object;)Z"⟩ : MethodName) jdk_42_method_66_code 3 (some .boolean) :: ws) ({ frames := 1, cells := 0, slots := 0, locals := 14 } : Room)) (fun a U => a = #[(.ref a1), (.ref a2)] ∧ Z.Warmed39 U.vm ∧ U.heap = h0) (fun _ _ _ _ _ => True) (fun _ U o U' => ∃ v L, o = .returned v ∧ Q3 Z a1 a2 c1 k_c1 c2 k_c2 w_COMPACT_STRINGS h0 n0 v U'.heap L ∧ FrameEnd U o U' L ({ frames := 1, cells := 0, slots := 0, locals := 14 } : Room).cells ({ frames := 1, cells := 0, slots := 0, locals := 14 } : Room).slots) := by
  refine MetFree.of_bodySF (plainFor_of_name pn_3) hisR ?_
  intro p e s m args below meth c s₁ Bd hml0 hP hK
  obtain ⟨rfl, hZ, hh⟩ := hP
  skip
  skip
  skip
  skip
  skip
  skip
  have hx := Bd.exec
  have hby := Bd.bytes
  have hml : c.maxLocals = 3 := hml0
  have hown : s.vm.findClass "java/lang/String" = some m.cls := findClass_of_methodNamed Bd.named
  have hnm := (name_of_methodNamed Bd.named Bd.method).1
  have X0 : Stand p l e ({ frames := 1, cells := 0, slots := 0, locals := 14 } : Room) s m #[(.ref a1), (.ref a2)] below meth c s₁ [] 0 0 := Stand.of_body Bd
  have e0 : s₁.heap = h0 := by rw [← hh, Bd.state]; rfl
  have N0 := Fr.nil n0
  have pre0 : ∀ t, Steps p.tables e below (s₁.setTop (mkF m 0 #[.val (.ref a1), .val (.ref a2), .unset] [])) t → Steps p.tables e below (s₁.setTop (entryFrame m #[(.ref a1), (.ref a2)] 3)) t := fun t k => castTop (ef_3 m a1 a2) k
  have nq1 : a1 ≠ a2 := own_sne F_value_a1 F_value_a2 V_c1 V_c2 (by decide)
  obtain ⟨T2, X2, e2, st2⟩ := instY X0 hx hZ hown (hw _ (List.mem_of_getElem? (i := 42) rfl)) e0 (Ins.self E_a2) (g := (mkF m 8 #[.val (.ref a1), .val (.ref a2), .unset] [(.ref a2)])) rfl rfl (hb hby d3_8)
  obtain ⟨T3, X3, e3, st3⟩ := castY X2 hx hZ hown (hw _ (List.mem_of_getElem? (i := 42) rfl)) e2 (Ins.self E_a2) (g := (mkF m 15 #[.val (.ref a1), .val (.ref a2), .unset] [(.ref a2)])) rfl rfl (hb hby d3_15)
  obtain ⟨T4, X4, e4, st4⟩ := getS2 X3 hx hZ hown (host := "") (Or.inl (hw _ (List.mem_of_getElem? (i := 44) rfl))) Via.refl e3 (S_COMPACT_STRINGS.ext X00.2) (g := (mkF m 19 #[.val (.ref a1), .val (.ref a2), .val (.ref a2)] [])) rfl (hb hby d3_19)
  have pre5 : ∀ t, Steps p.tables e below (T4.setTop (mkF m 22 #[.val (.ref a1), .val (.ref a2), .val (.ref a2)] [(.int w_COMPACT_STRINGS)])) t → Steps p.tables e below (s₁.setTop (entryFrame m #[(.ref a1), (.ref a2)] 3)) t := fun t kt => by
    refine pre0 t ?_
    show Steps p.tables e below (s₁.setTop (mkF m 0 #[.val (.ref a1), .val (.ref a2), .unset] [])) _
    refine XS.aloadN X0.here hx rfl (hb hby d3_0) rfl rfl ?_
    show Steps p.tables e below (s₁.setTop (mkF m 1 #[.val (.ref a1), .val (.ref a2), .unset] [(.ref a1)])) _
    refine XS.aloadN X0.here hx rfl (hb hby d3_1) rfl rfl ?_
    show Steps p.tables e below (s₁.setTop (mkF m 2 #[.val (.ref a1), .val (.ref a2), .unset] [(.ref a2), (.ref a1)])) _
    refine Jvm.RoadKit.acmp (g := (mkF m 2 #[.val (.ref a1), .val (.ref a2), .unset] [(.ref a2), (.ref a1)])) X0 hx rfl rfl rfl (pc0 := 2) (pc' := 7) (same := false) rfl (hb hby d3_2) rfl (decide_eq_false fun q => nq1 (Value.ref.inj q)) (by decide) (by decide) ?_
    show Steps p.tables e below (s₁.setTop (mkF m 7 #[.val (.ref a1), .val (.ref a2), .unset] [])) _
    refine XS.aloadN X0.here hx rfl (hb hby d3_7) rfl rfl ?_
    show Steps p.tables e below (s₁.setTop (mkF m 8 #[.val (.ref a1), .val (.ref a2), .unset] [(.ref a2)])) _
    refine st2 _ ?_
    show Steps p.tables e below (T2.setTop (mkF m 11 #[.val (.ref a1), .val (.ref a2), .unset] [(.int (1 : Int32))])) _
    refine XS.ifNo X2.here hx rfl (hb hby d3_11) rfl ((if0 _ _).trans (feq (by decide : ¬ ((1 : Int32) = (0 : Int32)))).1) ?_
    show Steps p.tables e below (T2.setTop (mkF m 14 #[.val (.ref a1), .val (.ref a2), .unset] [])) _
    refine XS.aloadN X2.here hx rfl (hb hby d3_14) rfl rfl ?_
    show Steps p.tables e below (T2.setTop (mkF m 15 #[.val (.ref a1), .val (.ref a2), .unset] [(.ref a2)])) _
    refine st3 _ ?_
    show Steps p.tables e below (T3.setTop (mkF m 18 #[.val (.ref a1), .val (.ref a2), .unset] [(.ref a2)])) _
    refine XS.astoreN X3.here hx rfl (hb hby d3_18) rfl rfl (l' := #[.val (.ref a1), .val (.ref a2), .val (.ref a2)]) rfl ?_
    show Steps p.tables e below (T3.setTop (mkF m 19 #[.val (.ref a1), .val (.ref a2), .val (.ref a2)] [])) _
    refine st4 _ ?_
    exact kt
  by_cases hc6 : w_COMPACT_STRINGS = (0 : Int32)
  · obtain ⟨T7, X7, e7, st7⟩ := getF X4 hx hZ hown (host := "") (Or.inl (hw _ (List.mem_of_getElem? (i := 46) rfl))) Via.refl e4 F_value_a1 (g := (mkF m 37 #[.val (.ref a1), .val (.ref a2), .val (.ref a2)] [(.ref a1)])) rfl rfl (hb hby d3_37)
    obtain ⟨T8, X8, e8, st8⟩ := getF X7 hx hZ hown (host := "") (Or.inl (hw _ (List.mem_of_getElem? (i := 46) rfl))) Via.refl e7 F_value_a2 (g := (mkF m 41 #[.val (.ref a1), .val (.ref a2), .val (.ref a2)] [(.ref a2), (.ref c1)])) rfl rfl (hb hby d3_41)
    obtain ⟨_, _, ⟨T9, L9, k9, n9⟩, -, X9, ⟨Lc9, hQ9, l9, y9, z9⟩, st9⟩ := Jvm.LawKit.callS X8 hx (y := (⟨"java/lang/StringLatin1", "equals", "([B[B)Z"⟩ : MethodName)) hown (mvT hZ (hw _ (List.mem_of_getElem? (i := 47) rfl))) (mvT hZ (hw _ (List.mem_of_getElem? (i := 48) rfl))) (mvT hZ (hw _ (List.mem_of_getElem? (i := 49) rfl))) (mvT hZ (hw _ (List.mem_of_getElem? (i := 50) rfl))) (by decide) (backOf (W := 0) (rm4 l Z a0 hw [] c1 c2 k_c1 (43 : Int32) k_c2 (47 : Int32) h0 n0 Z0 V_c1 V_c2) hZ (hw _ (List.mem_of_getElem? (i := 50) rfl)) (hw _ (List.mem_of_getElem? (i := 49) rfl)) (by decide) (by decide)) (g := (mkF m 44 #[.val (.ref a1), .val (.ref a2), .val (.ref a2)] [(.ref c2), (.ref c1)])) rfl (by rw [hml]; rfl) (argsL := [(.ref c1), (.ref c2)]) (rest := []) (lenOf pd_3_3 rfl) rfl (by show 2 * 0 + _ ≤ _; exact Nat.le_of_eq rfl) (hb hby d3_44) (fun _ _ => ⟨rfl, e8, (by decide : 0 + 0 ≤ _), (by decide : 0 + 0 ≤ _)⟩)
    dsimp only [Pt.U, Pt.locs, Pt.cells, Pt.slots] at X9 l9 y9 z9 st9 hQ9
    subst l9 y9 z9
    obtain ⟨rfl, N9q, e9⟩ := hQ9
    rw [show (F4 (43 : Int32) (47 : Int32)) = (0 : Int32) from by first | decide | (unfold F4; repeat' split) <;> first | rfl | simp_all] at st9
    have N9 := Fr.app N0 N9q
    obtain ⟨fs, hr, hrun, hended, hW, hsame⟩ := X9.leave (v := some (.int (0 : Int32))) (fun h => by rw [Bd.returns] at h; cases h)
    refine ⟨_, _, pre5 _ ?_, hrun, hended, _, _, rfl, ?_, ⟨_, rfl⟩, hW, hsame.mono (by decide) (by decide)⟩
    · show Steps p.tables e below (T4.setTop (mkF m 22 #[.val (.ref a1), .val (.ref a2), .val (.ref a2)] [(.int w_COMPACT_STRINGS)])) _
      refine XS.ifYes X4.here hx rfl (pc0 := 22) (pc' := 36) rfl (hb hby d3_22) rfl ((if0 _ _).trans (teq hc6).1) (by decide) (by decide) ?_
      show Steps p.tables e below (T4.setTop (mkF m 36 #[.val (.ref a1), .val (.ref a2), .val (.ref a2)] [])) _
      refine XS.aloadN X4.here hx rfl (hb hby d3_36) rfl rfl ?_
      show Steps p.tables e below (T4.setTop (mkF m 37 #[.val (.ref a1), .val (.ref a2), .val (.ref a2)] [(.ref a1)])) _
      refine st7 _ ?_
      show Steps p.tables e below (T7.setTop (mkF m 40 #[.val (.ref a1), .val (.ref a2), .val (.ref a2)] [(.ref c1)])) _
      refine XS.aloadN X7.here hx rfl (hb hby d3_40) rfl rfl ?_
      show Steps p.tables e below (T7.setTop (mkF m 41 #[.val (.ref a1), .val (.ref a2), .val (.ref a2)] [(.ref a2), (.ref c1)])) _
      refine st8 _ ?_
      show Steps p.tables e below (T8.setTop (mkF m 44 #[.val (.ref a1), .val (.ref a2), .val (.ref a2)] [(.ref c2), (.ref c1)])) _
      refine st9 _ ?_
      show Steps p.tables e below (T9.setTop (mkF m 47 #[.val (.ref a1), .val (.ref a2), .val (.ref a2)] [(.int (0 : Int32))])) _
      refine XS.ifYes X9.here hx rfl (pc0 := 47) (pc' := 54) rfl (hb hby d3_47) rfl ((if0 _ _).trans (teq (rfl : (0 : Int32) = (0 : Int32))).1) (by decide) (by decide) ?_
      show Steps p.tables e below (T9.setTop (mkF m 54 #[.val (.ref a1), .val (.ref a2), .val (.ref a2)] [])) _
      refine XS.iconst X9.here hx rfl (hb hby d3_54) ?_
      show Steps p.tables e below (T9.setTop (mkF m 55 #[.val (.ref a1), .val (.ref a2), .val (.ref a2)] [(.int (0 : Int32))])) _
      exact retN X9 hx (t := .boolean) Bd.returns (by simp) (hb hby d3_55) hr
    · show Q3 Z a1 a2 c1 k_c1 c2 k_c2 w_COMPACT_STRINGS h0 n0 _ T9.heap _
      rw [e9]
      refine ⟨?_, N9, rfl⟩
      show (some (.int (0 : Int32)) : Option Value) = some (.int (F3 w_COMPACT_STRINGS))
      rw [F3, if_pos hc6]
  · obtain ⟨T10, X10, e10, st10⟩ := getF X4 hx hZ hown (host := "") (Or.inl (hw _ (List.mem_of_getElem? (i := 45) rfl))) Via.refl e4 F_coder_a1 (g := (mkF m 26 #[.val (.ref a1), .val (.ref a2), .val (.ref a2)] [(.ref a1)])) rfl rfl (hb hby d3_26)
    obtain ⟨T11, X11, e11, st11⟩ := getF X10 hx hZ hown (host := "") (Or.inl (hw _ (List.mem_of_getElem? (i := 45) rfl))) Via.refl e10 F_coder_a2 (g := (mkF m 30 #[.val (.ref a1), .val (.ref a2), .val (.ref a2)] [(.ref a2), (.int (0 : Int32))])) rfl rfl (hb hby d3_30)
    obtain ⟨T12, X12, e12, st12⟩ := getF X11 hx hZ hown (host := "") (Or.inl (hw _ (List.mem_of_getElem? (i := 46) rfl))) Via.refl e11 F_value_a1 (g := (mkF m 37 #[.val (.ref a1), .val (.ref a2), .val (.ref a2)] [(.ref a1)])) rfl rfl (hb hby d3_37)
    obtain ⟨T13, X13, e13, st13⟩ := getF X12 hx hZ hown (host := "") (Or.inl (hw _ (List.mem_of_getElem? (i := 46) rfl))) Via.refl e12 F_value_a2 (g := (mkF m 41 #[.val (.ref a1), .val (.ref a2), .val (.ref a2)] [(.ref a2), (.ref c1)])) rfl rfl (hb hby d3_41)
    obtain ⟨_, _, ⟨T14, L14, k14, n14⟩, -, X14, ⟨Lc14, hQ14, l14, y14, z14⟩, st14⟩ := Jvm.LawKit.callS X13 hx (y := (⟨"java/lang/StringLatin1", "equals", "([B[B)Z"⟩ : MethodName)) hown (mvT hZ (hw _ (List.mem_of_getElem? (i := 47) rfl))) (mvT hZ (hw _ (List.mem_of_getElem? (i := 48) rfl))) (mvT hZ (hw _ (List.mem_of_getElem? (i := 49) rfl))) (mvT hZ (hw _ (List.mem_of_getElem? (i := 50) rfl))) (by decide) (backOf (W := 0) (rm4 l Z a0 hw [] c1 c2 k_c1 (43 : Int32) k_c2 (47 : Int32) h0 n0 Z0 V_c1 V_c2) hZ (hw _ (List.mem_of_getElem? (i := 50) rfl)) (hw _ (List.mem_of_getElem? (i := 49) rfl)) (by decide) (by decide)) (g := (mkF m 44 #[.val (.ref a1), .val (.ref a2), .val (.ref a2)] [(.ref c2), (.ref c1)])) rfl (by rw [hml]; rfl) (argsL := [(.ref c1), (.ref c2)]) (rest := []) (lenOf pd_3_3 rfl) rfl (by show 2 * 0 + _ ≤ _; exact Nat.le_of_eq rfl) (hb hby d3_44) (fun _ _ => ⟨rfl, e13, (by decide : 0 + 0 ≤ _), (by decide : 0 + 0 ≤ _)⟩)
    dsimp only [Pt.U, Pt.locs, Pt.cells, Pt.slots] at X14 l14 y14 z14 st14 hQ14
    subst l14 y14 z14
    obtain ⟨rfl, N14q, e14⟩ := hQ14
    rw [show (F4 (43 : Int32) (47 : Int32)) = (0 : Int32) from by first | decide | (unfold F4; repeat' split) <;> first | rfl | simp_all] at st14
    have N14 := Fr.app N0 N14q
    obtain ⟨fs, hr, hrun, hended, hW, hsame⟩ := X14.leave (v := some (.int (0 : Int32))) (fun h => by rw [Bd.returns] at h; cases h)
    refine ⟨_, _, pre5 _ ?_, hrun, hended, _, _, rfl, ?_, ⟨_, rfl⟩, hW, hsame.mono (by decide) (by decide)⟩
    · show Steps p.tables e below (T4.setTop (mkF m 22 #[.val (.ref a1), .val (.ref a2), .val (.ref a2)] [(.int w_COMPACT_STRINGS)])) _
      refine XS.ifNo X4.here hx rfl (hb hby d3_22) rfl ((if0 _ _).trans (feq hc6).1) ?_
      show Steps p.tables e below (T4.setTop (mkF m 25 #[.val (.ref a1), .val (.ref a2), .val (.ref a2)] [])) _
      refine XS.aloadN X4.here hx rfl (hb hby d3_25) rfl rfl ?_
      show Steps p.tables e below (T4.setTop (mkF m 26 #[.val (.ref a1), .val (.ref a2), .val (.ref a2)] [(.ref a1)])) _
      refine st10 _ ?_
      show Steps p.tables e below (T10.setTop (mkF m 29 #[.val (.ref a1), .val (.ref a2), .val (.ref a2)] [(.int (0 : Int32))])) _
      refine XS.aloadN X10.here hx rfl (hb hby d3_29) rfl rfl ?_
      show Steps p.tables e below (T10.setTop (mkF m 30 #[.val (.ref a1), .val (.ref a2), .val (.ref a2)] [(.ref a2), (.int (0 : Int32))])) _
      refine st11 _ ?_
      show Steps p.tables e below (T11.setTop (mkF m 33 #[.val (.ref a1), .val (.ref a2), .val (.ref a2)] [(.int (0 : Int32)), (.int (0 : Int32))])) _
      refine XS.icmpNo X11.here hx rfl (hb hby d3_33) rfl (teq (rfl : (0 : Int32) = (0 : Int32))).2 ?_
      show Steps p.tables e below (T11.setTop (mkF m 36 #[.val (.ref a1), .val (.ref a2), .val (.ref a2)] [])) _
      refine XS.aloadN X11.here hx rfl (hb hby d3_36) rfl rfl ?_
      show Steps p.tables e below (T11.setTop (mkF m 37 #[.val (.ref a1), .val (.ref a2), .val (.ref a2)] [(.ref a1)])) _
      refine st12 _ ?_
      show Steps p.tables e below (T12.setTop (mkF m 40 #[.val (.ref a1), .val (.ref a2), .val (.ref a2)] [(.ref c1)])) _
      refine XS.aloadN X12.here hx rfl (hb hby d3_40) rfl rfl ?_
      show Steps p.tables e below (T12.setTop (mkF m 41 #[.val (.ref a1), .val (.ref a2), .val (.ref a2)] [(.ref a2), (.ref c1)])) _
      refine st13 _ ?_
      show Steps p.tables e below (T13.setTop (mkF m 44 #[.val (.ref a1), .val (.ref a2), .val (.ref a2)] [(.ref c2), (.ref c1)])) _
      refine st14 _ ?_
      show Steps p.tables e below (T14.setTop (mkF m 47 #[.val (.ref a1), .val (.ref a2), .val (.ref a2)] [(.int (0 : Int32))])) _
      refine XS.ifYes X14.here hx rfl (pc0 := 47) (pc' := 54) rfl (hb hby d3_47) rfl ((if0 _ _).trans (teq (rfl : (0 : Int32) = (0 : Int32))).1) (by decide) (by decide) ?_
      show Steps p.tables e below (T14.setTop (mkF m 54 #[.val (.ref a1), .val (.ref a2), .val (.ref a2)] [])) _
      refine XS.iconst X14.here hx rfl (hb hby d3_54) ?_
      show Steps p.tables e below (T14.setTop (mkF m 55 #[.val (.ref a1), .val (.ref a2), .val (.ref a2)] [(.int (0 : Int32))])) _
      exact retN X14 hx (t := .boolean) Bd.returns (by simp) (hb hby d3_55) hr
    · show Q3 Z a1 a2 c1 k_c1 c2 k_c2 w_COMPACT_STRINGS h0 n0 _ T14.heap _
      rw [e14]
      refine ⟨?_, N14, rfl⟩
      show (some (.int (0 : Int32)) : Option Value) = some (.int (F3 w_COMPACT_STRINGS))
      rw [F3, if_neg hc6]
theorem d1003_0 : decode jdk_42_method_66_code 0 = .ok (.aload_n 0, 1) := by decide +kernel
theorem d1003_1 : decode jdk_42_method_66_code 1 = .ok (.aload_n 1, 1) := by decide +kernel
theorem d1003_2 : decode jdk_42_method_66_code 2 = .ok (.if_acmp .ne 5, 3) := by decide +kernel
theorem d1003_7 : decode jdk_42_method_66_code 7 = .ok (.aload_n 1, 1) := by decide +kernel
theorem d1003_8 : decode jdk_42_method_66_code 8 = .ok (.instanceof 10, 3) := by decide +kernel
theorem d1003_11 : decode jdk_42_method_66_code 11 = .ok (.ifCond .eq 43, 3) := by decide +kernel
theorem d1003_14 : decode jdk_42_method_66_code 14 = .ok (.aload_n 1, 1) := by decide +kernel
theorem d1003_15 : decode jdk_42_method_66_code 15 = .ok (.checkcast 10, 3) := by decide +kernel
theorem d1003_18 : decode jdk_42_method_66_code 18 = .ok (.astore_n 2, 1) := by decide +kernel
theorem d1003_19 : decode jdk_42_method_66_code 19 = .ok (.getstatic 38, 3) := by decide +kernel
theorem d1003_22 : decode jdk_42_method_66_code 22 = .ok (.ifCond .eq 14, 3) := by decide +kernel
theorem d1003_25 : decode jdk_42_method_66_code 25 = .ok (.aload_n 0, 1) := by decide +kernel
theorem d1003_26 : decode jdk_42_method_66_code 26 = .ok (.getfield 15, 3) := by decide +kernel
theorem d1003_29 : decode jdk_42_method_66_code 29 = .ok (.aload_n 2, 1) := by decide +kernel
theorem d1003_30 : decode jdk_42_method_66_code 30 = .ok (.getfield 15, 3) := by decide +kernel
theorem d1003_33 : decode jdk_42_method_66_code 33 = .ok (.if_icmp .ne 21, 3) := by decide +kernel
theorem d1003_36 : decode jdk_42_method_66_code 36 = .ok (.aload_n 0, 1) := by decide +kernel
theorem d1003_37 : decode jdk_42_method_66_code 37 = .ok (.getfield 9, 3) := by decide +kernel
theorem d1003_40 : decode jdk_42_method_66_code 40 = .ok (.aload_n 2, 1) := by decide +kernel
theorem d1003_41 : decode jdk_42_method_66_code 41 = .ok (.getfield 9, 3) := by decide +kernel
theorem d1003_44 : decode jdk_42_method_66_code 44 = .ok (.invokestatic 541, 3) := by decide +kernel
theorem d1003_47 : decode jdk_42_method_66_code 47 = .ok (.ifCond .eq 7, 3) := by decide +kernel
theorem d1003_54 : decode jdk_42_method_66_code 54 = .ok (.iconst 0, 1) := by decide +kernel
theorem d1003_55 : decode jdk_42_method_66_code 55 = .ok (.ireturn, 1) := by decide +kernel
theorem pn_1003 : plainName "java/lang/String" = true := by first | (simp [plainName, overriddenIn]; done) | decide +kernel
theorem pd_1003_3 : parseMethodDescriptor "([B[B)Z" = some ⟨[(.array .byte), (.array .byte)], some .boolean⟩ := by decide +kernel
theorem ef_1003 (m : MethodId) (a1 : Addr) (a2 : Addr) : entryFrame m #[(.ref a1), (.ref a2)] 3 = mkF m 0 #[.val (.ref a1), .val (.ref a2), .unset] [] := by first | (simp [entryFrame, mkF, argsToLocals, Value.category]; done) | rfl
def F1003 (w_COMPACT_STRINGS : Int32) : Int32 := (if w_COMPACT_STRINGS = (0 : Int32) then (0 : Int32) else (0 : Int32))
def Q1003 (Z : State) (a1 : Addr) (a2 : Addr) (c1 : Addr) (k_c1 : ClassId) (c2 : Addr) (k_c2 : ClassId) (w_COMPACT_STRINGS : Int32) (h0 : Heap) (n0 : Nat) (v : Option Value) (h : Heap) (L : List Loc) : Prop := v = some (.int (F1003 w_COMPACT_STRINGS)) ∧ Fr n0 L ∧ h = h0
set_option maxRecDepth 65536 in
set_option maxHeartbeats 40000000 in
theorem rm1003 (l : Launch) (Z : State) (a0 : Array Value) (hw : ∀ d ∈ tables_1, d.before a0 Z = true) (ws : List Jvm.Cond) (a1 : Addr) (a2 : Addr) (c1 : Addr) (k_c1 : ClassId) (c2 : Addr) (k_c2 : ClassId) (w_COMPACT_STRINGS : Int32) (h0 : Heap) (n0 : Nat) (Z0 : n0 ≤ h0.size) (E_a1 : Exa Z h0 a1 "java/lang/String") (F_coder_a1 : Fld Z h0 a1 "java/lang/String" "coder" "B" (.int (0 : Int32))) (F_value_a1 : Fld Z h0 a1 "java/lang/String" "value" "[B" (.ref c1)) (V_c1 : Arv Z h0 c1 k_c1 .byte (1 : Int32) [(.int (43 : Int32))] (.int (0 : Int32))) (E_a2 : Exa Z h0 a2 "java/lang/String") (F_coder_a2 : Fld Z h0 a2 "java/lang/String" "coder" "B" (.int (0 : Int32))) (F_value_a2 : Fld Z h0 a2 "java/lang/String" "value" "[B" (.ref c2)) (V_c2 : Arv Z h0 c2 k_c2 .byte (1 : Int32) [(.int (37 : Int32))] (.int (0 : Int32))) (S_COMPACT_STRINGS : Sta Z Z.heap "java/lang/String" "COMPACT_STRINGS" "Z" (.int w_COMPACT_STRINGS)) (X00 : Old Z n0 h0) :
    MetFree l (⟨"java/lang/String", "equals", "(Ljava/lang/Object;)Z"⟩ : MethodName) (head1 (Jvm.Cond.code (⟨"java/lang/String", "equals", "(Ljava/lang/Object;)Z"⟩ : MethodName) jdk_42_method_66_code 3 (some .boolean) :: ws) ({ frames := 1, cells := 0, slots := 0, locals := 14 } : Room)) (fun a U => a = #[(.ref a1), (.ref a2)] ∧ Z.Warmed39 U.vm ∧ U.heap = h0) (fun _ _ _ _ _ => True) (fun _ U o U' => ∃ v L, o = .returned v ∧ Q1003 Z a1 a2 c1 k_c1 c2 k_c2 w_COMPACT_STRINGS h0 n0 v U'.heap L ∧ FrameEnd U o U' L ({ frames := 1, cells := 0, slots := 0, locals := 14 } : Room).cells ({ frames := 1, cells := 0, slots := 0, locals := 14 } : Room).slots) := by
  refine MetFree.of_bodySF (plainFor_of_name pn_1003) hisR ?_
  intro p e s m args below meth c s₁ Bd hml0 hP hK
  obtain ⟨rfl, hZ, hh⟩ := hP
  skip
  skip
  skip
  skip
  skip
  skip
  have hx := Bd.exec
  have hby := Bd.bytes
  have hml : c.maxLocals = 3 := hml0
  have hown : s.vm.findClass "java/lang/String" = some m.cls := findClass_of_methodNamed Bd.named
  have hnm := (name_of_methodNamed Bd.named Bd.method).1
  have X0 : Stand p l e ({ frames := 1, cells := 0, slots := 0, locals := 14 } : Room) s m #[(.ref a1), (.ref a2)] below meth c s₁ [] 0 0 := Stand.of_body Bd
  have e0 : s₁.heap = h0 := by rw [← hh, Bd.state]; rfl
  have N0 := Fr.nil n0
  have pre0 : ∀ t, Steps p.tables e below (s₁.setTop (mkF m 0 #[.val (.ref a1), .val (.ref a2), .unset] [])) t → Steps p.tables e below (s₁.setTop (entryFrame m #[(.ref a1), (.ref a2)] 3)) t := fun t k => castTop (ef_1003 m a1 a2) k
  have nq1 : a1 ≠ a2 := own_sne F_value_a1 F_value_a2 V_c1 V_c2 (by decide)
  obtain ⟨T2, X2, e2, st2⟩ := instY X0 hx hZ hown (hw _ (List.mem_of_getElem? (i := 42) rfl)) e0 (Ins.self E_a2) (g := (mkF m 8 #[.val (.ref a1), .val (.ref a2), .unset] [(.ref a2)])) rfl rfl (hb hby d1003_8)
  obtain ⟨T3, X3, e3, st3⟩ := castY X2 hx hZ hown (hw _ (List.mem_of_getElem? (i := 42) rfl)) e2 (Ins.self E_a2) (g := (mkF m 15 #[.val (.ref a1), .val (.ref a2), .unset] [(.ref a2)])) rfl rfl (hb hby d1003_15)
  obtain ⟨T4, X4, e4, st4⟩ := getS2 X3 hx hZ hown (host := "") (Or.inl (hw _ (List.mem_of_getElem? (i := 44) rfl))) Via.refl e3 (S_COMPACT_STRINGS.ext X00.2) (g := (mkF m 19 #[.val (.ref a1), .val (.ref a2), .val (.ref a2)] [])) rfl (hb hby d1003_19)
  have pre5 : ∀ t, Steps p.tables e below (T4.setTop (mkF m 22 #[.val (.ref a1), .val (.ref a2), .val (.ref a2)] [(.int w_COMPACT_STRINGS)])) t → Steps p.tables e below (s₁.setTop (entryFrame m #[(.ref a1), (.ref a2)] 3)) t := fun t kt => by
    refine pre0 t ?_
    show Steps p.tables e below (s₁.setTop (mkF m 0 #[.val (.ref a1), .val (.ref a2), .unset] [])) _
    refine XS.aloadN X0.here hx rfl (hb hby d1003_0) rfl rfl ?_
    show Steps p.tables e below (s₁.setTop (mkF m 1 #[.val (.ref a1), .val (.ref a2), .unset] [(.ref a1)])) _
    refine XS.aloadN X0.here hx rfl (hb hby d1003_1) rfl rfl ?_
    show Steps p.tables e below (s₁.setTop (mkF m 2 #[.val (.ref a1), .val (.ref a2), .unset] [(.ref a2), (.ref a1)])) _
    refine Jvm.RoadKit.acmp (g := (mkF m 2 #[.val (.ref a1), .val (.ref a2), .unset] [(.ref a2), (.ref a1)])) X0 hx rfl rfl rfl (pc0 := 2) (pc' := 7) (same := false) rfl (hb hby d1003_2) rfl (decide_eq_false fun q => nq1 (Value.ref.inj q)) (by decide) (by decide) ?_
    show Steps p.tables e below (s₁.setTop (mkF m 7 #[.val (.ref a1), .val (.ref a2), .unset] [])) _
    refine XS.aloadN X0.here hx rfl (hb hby d1003_7) rfl rfl ?_
    show Steps p.tables e below (s₁.setTop (mkF m 8 #[.val (.ref a1), .val (.ref a2), .unset] [(.ref a2)])) _
    refine st2 _ ?_
    show Steps p.tables e below (T2.setTop (mkF m 11 #[.val (.ref a1), .val (.ref a2), .unset] [(.int (1 : Int32))])) _
    refine XS.ifNo X2.here hx rfl (hb hby d1003_11) rfl ((if0 _ _).trans (feq (by decide : ¬ ((1 : Int32) = (0 : Int32)))).1) ?_
    show Steps p.tables e below (T2.setTop (mkF m 14 #[.val (.ref a1), .val (.ref a2), .unset] [])) _
    refine XS.aloadN X2.here hx rfl (hb hby d1003_14) rfl rfl ?_
    show Steps p.tables e below (T2.setTop (mkF m 15 #[.val (.ref a1), .val (.ref a2), .unset] [(.ref a2)])) _
    refine st3 _ ?_
    show Steps p.tables e below (T3.setTop (mkF m 18 #[.val (.ref a1), .val (.ref a2), .unset] [(.ref a2)])) _
    refine XS.astoreN X3.here hx rfl (hb hby d1003_18) rfl rfl (l' := #[.val (.ref a1), .val (.ref a2), .val (.ref a2)]) rfl ?_
    show Steps p.tables e below (T3.setTop (mkF m 19 #[.val (.ref a1), .val (.ref a2), .val (.ref a2)] [])) _
    refine st4 _ ?_
    exact kt
  by_cases hc6 : w_COMPACT_STRINGS = (0 : Int32)
  · obtain ⟨T7, X7, e7, st7⟩ := getF X4 hx hZ hown (host := "") (Or.inl (hw _ (List.mem_of_getElem? (i := 46) rfl))) Via.refl e4 F_value_a1 (g := (mkF m 37 #[.val (.ref a1), .val (.ref a2), .val (.ref a2)] [(.ref a1)])) rfl rfl (hb hby d1003_37)
    obtain ⟨T8, X8, e8, st8⟩ := getF X7 hx hZ hown (host := "") (Or.inl (hw _ (List.mem_of_getElem? (i := 46) rfl))) Via.refl e7 F_value_a2 (g := (mkF m 41 #[.val (.ref a1), .val (.ref a2), .val (.ref a2)] [(.ref a2), (.ref c1)])) rfl rfl (hb hby d1003_41)
    obtain ⟨_, _, ⟨T9, L9, k9, n9⟩, -, X9, ⟨Lc9, hQ9, l9, y9, z9⟩, st9⟩ := Jvm.LawKit.callS X8 hx (y := (⟨"java/lang/StringLatin1", "equals", "([B[B)Z"⟩ : MethodName)) hown (mvT hZ (hw _ (List.mem_of_getElem? (i := 47) rfl))) (mvT hZ (hw _ (List.mem_of_getElem? (i := 48) rfl))) (mvT hZ (hw _ (List.mem_of_getElem? (i := 49) rfl))) (mvT hZ (hw _ (List.mem_of_getElem? (i := 50) rfl))) (by decide) (backOf (W := 0) (rm4 l Z a0 hw [] c1 c2 k_c1 (43 : Int32) k_c2 (37 : Int32) h0 n0 Z0 V_c1 V_c2) hZ (hw _ (List.mem_of_getElem? (i := 50) rfl)) (hw _ (List.mem_of_getElem? (i := 49) rfl)) (by decide) (by decide)) (g := (mkF m 44 #[.val (.ref a1), .val (.ref a2), .val (.ref a2)] [(.ref c2), (.ref c1)])) rfl (by rw [hml]; rfl) (argsL := [(.ref c1), (.ref c2)]) (rest := []) (lenOf pd_1003_3 rfl) rfl (by show 2 * 0 + _ ≤ _; exact Nat.le_of_eq rfl) (hb hby d1003_44) (fun _ _ => ⟨rfl, e8, (by decide : 0 + 0 ≤ _), (by decide : 0 + 0 ≤ _)⟩)
    dsimp only [Pt.U, Pt.locs, Pt.cells, Pt.slots] at X9 l9 y9 z9 st9 hQ9
    subst l9 y9 z9
    obtain ⟨rfl, N9q, e9⟩ := hQ9
    rw [show (F4 (43 : Int32) (37 : Int32)) = (0 : Int32) from by first | decide | (unfold F4; repeat' split) <;> first | rfl | simp_all] at st9
    have N9 := Fr.app N0 N9q
    obtain ⟨fs, hr, hrun, hended, hW, hsame⟩ := X9.leave (v := some (.int (0 : Int32))) (fun h => by rw [Bd.returns] at h; cases h)
    refine ⟨_, _, pre5 _ ?_, hrun, hended, _, _, rfl, ?_, ⟨_, rfl⟩, hW, hsame.mono (by decide) (by decide)⟩
    · show Steps p.tables e below (T4.setTop (mkF m 22 #[.val (.ref a1), .val (.ref a2), .val (.ref a2)] [(.int w_COMPACT_STRINGS)])) _
      refine XS.ifYes X4.here hx rfl (pc0 := 22) (pc' := 36) rfl (hb hby d1003_22) rfl ((if0 _ _).trans (teq hc6).1) (by decide) (by decide) ?_
      show Steps p.tables e below (T4.setTop (mkF m 36 #[.val (.ref a1), .val (.ref a2), .val (.ref a2)] [])) _
      refine XS.aloadN X4.here hx rfl (hb hby d1003_36) rfl rfl ?_
      show Steps p.tables e below (T4.setTop (mkF m 37 #[.val (.ref a1), .val (.ref a2), .val (.ref a2)] [(.ref a1)])) _
      refine st7 _ ?_
      show Steps p.tables e below (T7.setTop (mkF m 40 #[.val (.ref a1), .val (.ref a2), .val (.ref a2)] [(.ref c1)])) _
      refine XS.aloadN X7.here hx rfl (hb hby d1003_40) rfl rfl ?_
      show Steps p.tables e below (T7.setTop (mkF m 41 #[.val (.ref a1), .val (.ref a2), .val (.ref a2)] [(.ref a2), (.ref c1)])) _
      refine st8 _ ?_
      show Steps p.tables e below (T8.setTop (mkF m 44 #[.val (.ref a1), .val (.ref a2), .val (.ref a2)] [(.ref c2), (.ref c1)])) _
      refine st9 _ ?_
      show Steps p.tables e below (T9.setTop (mkF m 47 #[.val (.ref a1), .val (.ref a2), .val (.ref a2)] [(.int (0 : Int32))])) _
      refine XS.ifYes X9.here hx rfl (pc0 := 47) (pc' := 54) rfl (hb hby d1003_47) rfl ((if0 _ _).trans (teq (rfl : (0 : Int32) = (0 : Int32))).1) (by decide) (by decide) ?_
      show Steps p.tables e below (T9.setTop (mkF m 54 #[.val (.ref a1), .val (.ref a2), .val (.ref a2)] [])) _
      refine XS.iconst X9.here hx rfl (hb hby d1003_54) ?_
      show Steps p.tables e below (T9.setTop (mkF m 55 #[.val (.ref a1), .val (.ref a2), .val (.ref a2)] [(.int (0 : Int32))])) _
      exact retN X9 hx (t := .boolean) Bd.returns (by simp) (hb hby d1003_55) hr
    · show Q1003 Z a1 a2 c1 k_c1 c2 k_c2 w_COMPACT_STRINGS h0 n0 _ T9.heap _
      rw [e9]
      refine ⟨?_, N9, rfl⟩
      show (some (.int (0 : Int32)) : Option Value) = some (.int (F1003 w_COMPACT_STRINGS))
      rw [F1003, if_pos hc6]
  · obtain ⟨T10, X10, e10, st10⟩ := getF X4 hx hZ hown (host := "") (Or.inl (hw _ (List.mem_of_getElem? (i := 45) rfl))) Via.refl e4 F_coder_a1 (g := (mkF m 26 #[.val (.ref a1), .val (.ref a2), .val (.ref a2)] [(.ref a1)])) rfl rfl (hb hby d1003_26)
    obtain ⟨T11, X11, e11, st11⟩ := getF X10 hx hZ hown (host := "") (Or.inl (hw _ (List.mem_of_getElem? (i := 45) rfl))) Via.refl e10 F_coder_a2 (g := (mkF m 30 #[.val (.ref a1), .val (.ref a2), .val (.ref a2)] [(.ref a2), (.int (0 : Int32))])) rfl rfl (hb hby d1003_30)
    obtain ⟨T12, X12, e12, st12⟩ := getF X11 hx hZ hown (host := "") (Or.inl (hw _ (List.mem_of_getElem? (i := 46) rfl))) Via.refl e11 F_value_a1 (g := (mkF m 37 #[.val (.ref a1), .val (.ref a2), .val (.ref a2)] [(.ref a1)])) rfl rfl (hb hby d1003_37)
    obtain ⟨T13, X13, e13, st13⟩ := getF X12 hx hZ hown (host := "") (Or.inl (hw _ (List.mem_of_getElem? (i := 46) rfl))) Via.refl e12 F_value_a2 (g := (mkF m 41 #[.val (.ref a1), .val (.ref a2), .val (.ref a2)] [(.ref a2), (.ref c1)])) rfl rfl (hb hby d1003_41)
    obtain ⟨_, _, ⟨T14, L14, k14, n14⟩, -, X14, ⟨Lc14, hQ14, l14, y14, z14⟩, st14⟩ := Jvm.LawKit.callS X13 hx (y := (⟨"java/lang/StringLatin1", "equals", "([B[B)Z"⟩ : MethodName)) hown (mvT hZ (hw _ (List.mem_of_getElem? (i := 47) rfl))) (mvT hZ (hw _ (List.mem_of_getElem? (i := 48) rfl))) (mvT hZ (hw _ (List.mem_of_getElem? (i := 49) rfl))) (mvT hZ (hw _ (List.mem_of_getElem? (i := 50) rfl))) (by decide) (backOf (W := 0) (rm4 l Z a0 hw [] c1 c2 k_c1 (43 : Int32) k_c2 (37 : Int32) h0 n0 Z0 V_c1 V_c2) hZ (hw _ (List.mem_of_getElem? (i := 50) rfl)) (hw _ (List.mem_of_getElem? (i := 49) rfl)) (by decide) (by decide)) (g := (mkF m 44 #[.val (.ref a1), .val (.ref a2), .val (.ref a2)] [(.ref c2), (.ref c1)])) rfl (by rw [hml]; rfl) (argsL := [(.ref c1), (.ref c2)]) (rest := []) (lenOf pd_1003_3 rfl) rfl (by show 2 * 0 + _ ≤ _; exact Nat.le_of_eq rfl) (hb hby d1003_44) (fun _ _ => ⟨rfl, e13, (by decide : 0 + 0 ≤ _), (by decide : 0 + 0 ≤ _)⟩)
    dsimp only [Pt.U, Pt.locs, Pt.cells, Pt.slots] at X14 l14 y14 z14 st14 hQ14
    subst l14 y14 z14
    obtain ⟨rfl, N14q, e14⟩ := hQ14
    rw [show (F4 (43 : Int32) (37 : Int32)) = (0 : Int32) from by first | decide | (unfold F4; repeat' split) <;> first | rfl | simp_all] at st14
    have N14 := Fr.app N0 N14q
    obtain ⟨fs, hr, hrun, hended, hW, hsame⟩ := X14.leave (v := some (.int (0 : Int32))) (fun h => by rw [Bd.returns] at h; cases h)
    refine ⟨_, _, pre5 _ ?_, hrun, hended, _, _, rfl, ?_, ⟨_, rfl⟩, hW, hsame.mono (by decide) (by decide)⟩
    · show Steps p.tables e below (T4.setTop (mkF m 22 #[.val (.ref a1), .val (.ref a2), .val (.ref a2)] [(.int w_COMPACT_STRINGS)])) _
      refine XS.ifNo X4.here hx rfl (hb hby d1003_22) rfl ((if0 _ _).trans (feq hc6).1) ?_
      show Steps p.tables e below (T4.setTop (mkF m 25 #[.val (.ref a1), .val (.ref a2), .val (.ref a2)] [])) _
      refine XS.aloadN X4.here hx rfl (hb hby d1003_25) rfl rfl ?_
      show Steps p.tables e below (T4.setTop (mkF m 26 #[.val (.ref a1), .val (.ref a2), .val (.ref a2)] [(.ref a1)])) _
      refine st10 _ ?_
      show Steps p.tables e below (T10.setTop (mkF m 29 #[.val (.ref a1), .val (.ref a2), .val (.ref a2)] [(.int (0 : Int32))])) _
      refine XS.aloadN X10.here hx rfl (hb hby d1003_29) rfl rfl ?_
      show Steps p.tables e below (T10.setTop (mkF m 30 #[.val (.ref a1), .val (.ref a2), .val (.ref a2)] [(.ref a2), (.int (0 : Int32))])) _
      refine st11 _ ?_
      show Steps p.tables e below (T11.setTop (mkF m 33 #[.val (.ref a1), .val (.ref a2), .val (.ref a2)] [(.int (0 : Int32)), (.int (0 : Int32))])) _
      refine XS.icmpNo X11.here hx rfl (hb hby d1003_33) rfl (teq (rfl : (0 : Int32) = (0 : Int32))).2 ?_
      show Steps p.tables e below (T11.setTop (mkF m 36 #[.val (.ref a1), .val (.ref a2), .val (.ref a2)] [])) _
      refine XS.aloadN X11.here hx rfl (hb hby d1003_36) rfl rfl ?_
      show Steps p.tables e below (T11.setTop (mkF m 37 #[.val (.ref a1), .val (.ref a2), .val (.ref a2)] [(.ref a1)])) _
      refine st12 _ ?_
      show Steps p.tables e below (T12.setTop (mkF m 40 #[.val (.ref a1), .val (.ref a2), .val (.ref a2)] [(.ref c1)])) _
      refine XS.aloadN X12.here hx rfl (hb hby d1003_40) rfl rfl ?_
      show Steps p.tables e below (T12.setTop (mkF m 41 #[.val (.ref a1), .val (.ref a2), .val (.ref a2)] [(.ref a2), (.ref c1)])) _
      refine st13 _ ?_
      show Steps p.tables e below (T13.setTop (mkF m 44 #[.val (.ref a1), .val (.ref a2), .val (.ref a2)] [(.ref c2), (.ref c1)])) _
      refine st14 _ ?_
      show Steps p.tables e below (T14.setTop (mkF m 47 #[.val (.ref a1), .val (.ref a2), .val (.ref a2)] [(.int (0 : Int32))])) _
      refine XS.ifYes X14.here hx rfl (pc0 := 47) (pc' := 54) rfl (hb hby d1003_47) rfl ((if0 _ _).trans (teq (rfl : (0 : Int32) = (0 : Int32))).1) (by decide) (by decide) ?_
      show Steps p.tables e below (T14.setTop (mkF m 54 #[.val (.ref a1), .val (.ref a2), .val (.ref a2)] [])) _
      refine XS.iconst X14.here hx rfl (hb hby d1003_54) ?_
      show Steps p.tables e below (T14.setTop (mkF m 55 #[.val (.ref a1), .val (.ref a2), .val (.ref a2)] [(.int (0 : Int32))])) _
      exact retN X14 hx (t := .boolean) Bd.returns (by simp) (hb hby d1003_55) hr
    · show Q1003 Z a1 a2 c1 k_c1 c2 k_c2 w_COMPACT_STRINGS h0 n0 _ T14.heap _
      rw [e14]
      refine ⟨?_, N14, rfl⟩
      show (some (.int (0 : Int32)) : Option Value) = some (.int (F1003 w_COMPACT_STRINGS))
      rw [F1003, if_neg hc6]
theorem d2003_0 : decode jdk_42_method_66_code 0 = .ok (.aload_n 0, 1) := by decide +kernel
theorem d2003_1 : decode jdk_42_method_66_code 1 = .ok (.aload_n 1, 1) := by decide +kernel
theorem d2003_2 : decode jdk_42_method_66_code 2 = .ok (.if_acmp .ne 5, 3) := by decide +kernel
theorem d2003_7 : decode jdk_42_method_66_code 7 = .ok (.aload_n 1, 1) := by decide +kernel
theorem d2003_8 : decode jdk_42_method_66_code 8 = .ok (.instanceof 10, 3) := by decide +kernel
theorem d2003_11 : decode jdk_42_method_66_code 11 = .ok (.ifCond .eq 43, 3) := by decide +kernel
theorem d2003_14 : decode jdk_42_method_66_code 14 = .ok (.aload_n 1, 1) := by decide +kernel
theorem d2003_15 : decode jdk_42_method_66_code 15 = .ok (.checkcast 10, 3) := by decide +kernel
theorem d2003_18 : decode jdk_42_method_66_code 18 = .ok (.astore_n 2, 1) := by decide +kernel
theorem d2003_19 : decode jdk_42_method_66_code 19 = .ok (.getstatic 38, 3) := by decide +kernel
theorem d2003_22 : decode jdk_42_method_66_code 22 = .ok (.ifCond .eq 14, 3) := by decide +kernel
theorem d2003_25 : decode jdk_42_method_66_code 25 = .ok (.aload_n 0, 1) := by decide +kernel
theorem d2003_26 : decode jdk_42_method_66_code 26 = .ok (.getfield 15, 3) := by decide +kernel
theorem d2003_29 : decode jdk_42_method_66_code 29 = .ok (.aload_n 2, 1) := by decide +kernel
theorem d2003_30 : decode jdk_42_method_66_code 30 = .ok (.getfield 15, 3) := by decide +kernel
theorem d2003_33 : decode jdk_42_method_66_code 33 = .ok (.if_icmp .ne 21, 3) := by decide +kernel
theorem d2003_36 : decode jdk_42_method_66_code 36 = .ok (.aload_n 0, 1) := by decide +kernel
theorem d2003_37 : decode jdk_42_method_66_code 37 = .ok (.getfield 9, 3) := by decide +kernel
theorem d2003_40 : decode jdk_42_method_66_code 40 = .ok (.aload_n 2, 1) := by decide +kernel
theorem d2003_41 : decode jdk_42_method_66_code 41 = .ok (.getfield 9, 3) := by decide +kernel
theorem d2003_44 : decode jdk_42_method_66_code 44 = .ok (.invokestatic 541, 3) := by decide +kernel
theorem d2003_47 : decode jdk_42_method_66_code 47 = .ok (.ifCond .eq 7, 3) := by decide +kernel
theorem d2003_54 : decode jdk_42_method_66_code 54 = .ok (.iconst 0, 1) := by decide +kernel
theorem d2003_55 : decode jdk_42_method_66_code 55 = .ok (.ireturn, 1) := by decide +kernel
theorem pn_2003 : plainName "java/lang/String" = true := by first | (simp [plainName, overriddenIn]; done) | decide +kernel
theorem pd_2003_3 : parseMethodDescriptor "([B[B)Z" = some ⟨[(.array .byte), (.array .byte)], some .boolean⟩ := by decide +kernel
theorem ef_2003 (m : MethodId) (a1 : Addr) (a2 : Addr) : entryFrame m #[(.ref a1), (.ref a2)] 3 = mkF m 0 #[.val (.ref a1), .val (.ref a2), .unset] [] := by first | (simp [entryFrame, mkF, argsToLocals, Value.category]; done) | rfl
def F2003 (w_COMPACT_STRINGS : Int32) : Int32 := (if w_COMPACT_STRINGS = (0 : Int32) then (0 : Int32) else (0 : Int32))
def Q2003 (Z : State) (a1 : Addr) (a2 : Addr) (c1 : Addr) (k_c1 : ClassId) (c2 : Addr) (k_c2 : ClassId) (w_COMPACT_STRINGS : Int32) (h0 : Heap) (n0 : Nat) (v : Option Value) (h : Heap) (L : List Loc) : Prop := v = some (.int (F2003 w_COMPACT_STRINGS)) ∧ Fr n0 L ∧ h = h0
set_option maxRecDepth 65536 in
set_option maxHeartbeats 40000000 in
theorem rm2003 (l : Launch) (Z : State) (a0 : Array Value) (hw : ∀ d ∈ tables_1, d.before a0 Z = true) (ws : List Jvm.Cond) (a1 : Addr) (a2 : Addr) (c1 : Addr) (k_c1 : ClassId) (c2 : Addr) (k_c2 : ClassId) (w_COMPACT_STRINGS : Int32) (h0 : Heap) (n0 : Nat) (Z0 : n0 ≤ h0.size) (E_a1 : Exa Z h0 a1 "java/lang/String") (F_coder_a1 : Fld Z h0 a1 "java/lang/String" "coder" "B" (.int (0 : Int32))) (F_value_a1 : Fld Z h0 a1 "java/lang/String" "value" "[B" (.ref c1)) (V_c1 : Arv Z h0 c1 k_c1 .byte (1 : Int32) [(.int (45 : Int32))] (.int (0 : Int32))) (E_a2 : Exa Z h0 a2 "java/lang/String") (F_coder_a2 : Fld Z h0 a2 "java/lang/String" "coder" "B" (.int (0 : Int32))) (F_value_a2 : Fld Z h0 a2 "java/lang/String" "value" "[B" (.ref c2)) (V_c2 : Arv Z h0 c2 k_c2 .byte (1 : Int32) [(.int (47 : Int32))] (.int (0 : Int32))) (S_COMPACT_STRINGS : Sta Z Z.heap "java/lang/String" "COMPACT_STRINGS" "Z" (.int w_COMPACT_STRINGS)) (X00 : Old Z n0 h0) :
    MetFree l (⟨"java/lang/String", "equals", "(Ljava/lang/Object;)Z"⟩ : MethodName) (head1 (Jvm.Cond.code (⟨"java/lang/String", "equals", "(Ljava/lang/Object;)Z"⟩ : MethodName) jdk_42_method_66_code 3 (some .boolean) :: ws) ({ frames := 1, cells := 0, slots := 0, locals := 14 } : Room)) (fun a U => a = #[(.ref a1), (.ref a2)] ∧ Z.Warmed39 U.vm ∧ U.heap = h0) (fun _ _ _ _ _ => True) (fun _ U o U' => ∃ v L, o = .returned v ∧ Q2003 Z a1 a2 c1 k_c1 c2 k_c2 w_COMPACT_STRINGS h0 n0 v U'.heap L ∧ FrameEnd U o U' L ({ frames := 1, cells := 0, slots := 0, locals := 14 } : Room).cells ({ frames := 1, cells := 0, slots := 0, locals := 14 } : Room).slots) := by
  refine MetFree.of_bodySF (plainFor_of_name pn_2003) hisR ?_
  intro p e s m args below meth c s₁ Bd hml0 hP hK
  obtain ⟨rfl, hZ, hh⟩ := hP
  skip
  skip
  skip
  skip
  skip
  skip
  have hx := Bd.exec
  have hby := Bd.bytes
  have hml : c.maxLocals = 3 := hml0
  have hown : s.vm.findClass "java/lang/String" = some m.cls := findClass_of_methodNamed Bd.named
  have hnm := (name_of_methodNamed Bd.named Bd.method).1
  have X0 : Stand p l e ({ frames := 1, cells := 0, slots := 0, locals := 14 } : Room) s m #[(.ref a1), (.ref a2)] below meth c s₁ [] 0 0 := Stand.of_body Bd
  have e0 : s₁.heap = h0 := by rw [← hh, Bd.state]; rfl
  have N0 := Fr.nil n0
  have pre0 : ∀ t, Steps p.tables e below (s₁.setTop (mkF m 0 #[.val (.ref a1), .val (.ref a2), .unset] [])) t → Steps p.tables e below (s₁.setTop (entryFrame m #[(.ref a1), (.ref a2)] 3)) t := fun t k => castTop (ef_2003 m a1 a2) k
  have nq1 : a1 ≠ a2 := own_sne F_value_a1 F_value_a2 V_c1 V_c2 (by decide)
  obtain ⟨T2, X2, e2, st2⟩ := instY X0 hx hZ hown (hw _ (List.mem_of_getElem? (i := 42) rfl)) e0 (Ins.self E_a2) (g := (mkF m 8 #[.val (.ref a1), .val (.ref a2), .unset] [(.ref a2)])) rfl rfl (hb hby d2003_8)
  obtain ⟨T3, X3, e3, st3⟩ := castY X2 hx hZ hown (hw _ (List.mem_of_getElem? (i := 42) rfl)) e2 (Ins.self E_a2) (g := (mkF m 15 #[.val (.ref a1), .val (.ref a2), .unset] [(.ref a2)])) rfl rfl (hb hby d2003_15)
  obtain ⟨T4, X4, e4, st4⟩ := getS2 X3 hx hZ hown (host := "") (Or.inl (hw _ (List.mem_of_getElem? (i := 44) rfl))) Via.refl e3 (S_COMPACT_STRINGS.ext X00.2) (g := (mkF m 19 #[.val (.ref a1), .val (.ref a2), .val (.ref a2)] [])) rfl (hb hby d2003_19)
  have pre5 : ∀ t, Steps p.tables e below (T4.setTop (mkF m 22 #[.val (.ref a1), .val (.ref a2), .val (.ref a2)] [(.int w_COMPACT_STRINGS)])) t → Steps p.tables e below (s₁.setTop (entryFrame m #[(.ref a1), (.ref a2)] 3)) t := fun t kt => by
    refine pre0 t ?_
    show Steps p.tables e below (s₁.setTop (mkF m 0 #[.val (.ref a1), .val (.ref a2), .unset] [])) _
    refine XS.aloadN X0.here hx rfl (hb hby d2003_0) rfl rfl ?_
    show Steps p.tables e below (s₁.setTop (mkF m 1 #[.val (.ref a1), .val (.ref a2), .unset] [(.ref a1)])) _
    refine XS.aloadN X0.here hx rfl (hb hby d2003_1) rfl rfl ?_
    show Steps p.tables e below (s₁.setTop (mkF m 2 #[.val (.ref a1), .val (.ref a2), .unset] [(.ref a2), (.ref a1)])) _
    refine Jvm.RoadKit.acmp (g := (mkF m 2 #[.val (.ref a1), .val (.ref a2), .unset] [(.ref a2), (.ref a1)])) X0 hx rfl rfl rfl (pc0 := 2) (pc' := 7) (same := false) rfl (hb hby d2003_2) rfl (decide_eq_false fun q => nq1 (Value.ref.inj q)) (by decide) (by decide) ?_
    show Steps p.tables e below (s₁.setTop (mkF m 7 #[.val (.ref a1), .val (.ref a2), .unset] [])) _
    refine XS.aloadN X0.here hx rfl (hb hby d2003_7) rfl rfl ?_
    show Steps p.tables e below (s₁.setTop (mkF m 8 #[.val (.ref a1), .val (.ref a2), .unset] [(.ref a2)])) _
    refine st2 _ ?_
    show Steps p.tables e below (T2.setTop (mkF m 11 #[.val (.ref a1), .val (.ref a2), .unset] [(.int (1 : Int32))])) _
    refine XS.ifNo X2.here hx rfl (hb hby d2003_11) rfl ((if0 _ _).trans (feq (by decide : ¬ ((1 : Int32) = (0 : Int32)))).1) ?_
    show Steps p.tables e below (T2.setTop (mkF m 14 #[.val (.ref a1), .val (.ref a2), .unset] [])) _
    refine XS.aloadN X2.here hx rfl (hb hby d2003_14) rfl rfl ?_
    show Steps p.tables e below (T2.setTop (mkF m 15 #[.val (.ref a1), .val (.ref a2), .unset] [(.ref a2)])) _
    refine st3 _ ?_
    show Steps p.tables e below (T3.setTop (mkF m 18 #[.val (.ref a1), .val (.ref a2), .unset] [(.ref a2)])) _
    refine XS.astoreN X3.here hx rfl (hb hby d2003_18) rfl rfl (l' := #[.val (.ref a1), .val (.ref a2), .val (.ref a2)]) rfl ?_
    show Steps p.tables e below (T3.setTop (mkF m 19 #[.val (.ref a1), .val (.ref a2), .val (.ref a2)] [])) _
    refine st4 _ ?_
    exact kt
  by_cases hc6 : w_COMPACT_STRINGS = (0 : Int32)
  · obtain ⟨T7, X7, e7, st7⟩ := getF X4 hx hZ hown (host := "") (Or.inl (hw _ (List.mem_of_getElem? (i := 46) rfl))) Via.refl e4 F_value_a1 (g := (mkF m 37 #[.val (.ref a1), .val (.ref a2), .val (.ref a2)] [(.ref a1)])) rfl rfl (hb hby d2003_37)
    obtain ⟨T8, X8, e8, st8⟩ := getF X7 hx hZ hown (host := "") (Or.inl (hw _ (List.mem_of_getElem? (i := 46) rfl))) Via.refl e7 F_value_a2 (g := (mkF m 41 #[.val (.ref a1), .val (.ref a2), .val (.ref a2)] [(.ref a2), (.ref c1)])) rfl rfl (hb hby d2003_41)
    obtain ⟨_, _, ⟨T9, L9, k9, n9⟩, -, X9, ⟨Lc9, hQ9, l9, y9, z9⟩, st9⟩ := Jvm.LawKit.callS X8 hx (y := (⟨"java/lang/StringLatin1", "equals", "([B[B)Z"⟩ : MethodName)) hown (mvT hZ (hw _ (List.mem_of_getElem? (i := 47) rfl))) (mvT hZ (hw _ (List.mem_of_getElem? (i := 48) rfl))) (mvT hZ (hw _ (List.mem_of_getElem? (i := 49) rfl))) (mvT hZ (hw _ (List.mem_of_getElem? (i := 50) rfl))) (by decide) (backOf (W := 0) (rm4 l Z a0 hw [] c1 c2 k_c1 (45 : Int32) k_c2 (47 : Int32) h0 n0 Z0 V_c1 V_c2) hZ (hw _ (List.mem_of_getElem? (i := 50) rfl)) (hw _ (List.mem_of_getElem? (i := 49) rfl)) (by decide) (by decide)) (g := (mkF m 44 #[.val (.ref a1), .val (.ref a2), .val (.ref a2)] [(.ref c2), (.ref c1)])) rfl (by rw [hml]; rfl) (argsL := [(.ref c1), (.ref c2)]) (rest := []) (lenOf pd_2003_3 rfl) rfl (by show 2 * 0 + _ ≤ _; exact Nat.le_of_eq rfl) (hb hby d2003_44) (fun _ _ => ⟨rfl, e8, (by decide : 0 + 0 ≤ _), (by decide : 0 + 0 ≤ _)⟩)
    dsimp only [Pt.U, Pt.locs, Pt.cells, Pt.slots] at X9 l9 y9 z9 st9 hQ9
    subst l9 y9 z9
    obtain ⟨rfl, N9q, e9⟩ := hQ9
    rw [show (F4 (45 : Int32) (47 : Int32)) = (0 : Int32) from by first | decide | (unfold F4; repeat' split) <;> first | rfl | simp_all] at st9
    have N9 := Fr.app N0 N9q
    obtain ⟨fs, hr, hrun, hended, hW, hsame⟩ := X9.leave (v := some (.int (0 : Int32))) (fun h => by rw [Bd.returns] at h; cases h)
    refine ⟨_, _, pre5 _ ?_, hrun, hended, _, _, rfl, ?_, ⟨_, rfl⟩, hW, hsame.mono (by decide) (by decide)⟩
    · show Steps p.tables e below (T4.setTop (mkF m 22 #[.val (.ref a1), .val (.ref a2), .val (.ref a2)] [(.int w_COMPACT_STRINGS)])) _
      refine XS.ifYes X4.here hx rfl (pc0 := 22) (pc' := 36) rfl (hb hby d2003_22) rfl ((if0 _ _).trans (teq hc6).1) (by decide) (by decide) ?_
      show Steps p.tables e below (T4.setTop (mkF m 36 #[.val (.ref a1), .val (.ref a2), .val (.ref a2)] [])) _
      refine XS.aloadN X4.here hx rfl (hb hby d2003_36) rfl rfl ?_
      show Steps p.tables e below (T4.setTop (mkF m 37 #[.val (.ref a1), .val (.ref a2), .val (.ref a2)] [(.ref a1)])) _
      refine st7 _ ?_
      show Steps p.tables e below (T7.setTop (mkF m 40 #[.val (.ref a1), .val (.ref a2), .val (.ref a2)] [(.ref c1)])) _
      refine XS.aloadN X7.here hx rfl (hb hby d2003_40) rfl rfl ?_
      show Steps p.tables e below (T7.setTop (mkF m 41 #[.val (.ref a1), .val (.ref a2), .val (.ref a2)] [(.ref a2), (.ref c1)])) _
      refine st8 _ ?_
      show Steps p.tables e below (T8.setTop (mkF m 44 #[.val (.ref a1), .val (.ref a2), .val (.ref a2)] [(.ref c2), (.ref c1)])) _
      refine st9 _ ?_
      show Steps p.tables e below (T9.setTop (mkF m 47 #[.val (.ref a1), .val (.ref a2), .val (.ref a2)] [(.int (0 : Int32))])) _
      refine XS.ifYes X9.here hx rfl (pc0 := 47) (pc' := 54) rfl (hb hby d2003_47) rfl ((if0 _ _).trans (teq (rfl : (0 : Int32) = (0 : Int32))).1) (by decide) (by decide) ?_
      show Steps p.tables e below (T9.setTop (mkF m 54 #[.val (.ref a1), .val (.ref a2), .val (.ref a2)] [])) _
      refine XS.iconst X9.here hx rfl (hb hby d2003_54) ?_
      show Steps p.tables e below (T9.setTop (mkF m 55 #[.val (.ref a1), .val (.ref a2), .val (.ref a2)] [(.int (0 : Int32))])) _
      exact retN X9 hx (t := .boolean) Bd.returns (by simp) (hb hby d2003_55) hr
    · show Q2003 Z a1 a2 c1 k_c1 c2 k_c2 w_COMPACT_STRINGS h0 n0 _ T9.heap _
      rw [e9]
      refine ⟨?_, N9, rfl⟩
      show (some (.int (0 : Int32)) : Option Value) = some (.int (F2003 w_COMPACT_STRINGS))
      rw [F2003, if_pos hc6]
  · obtain ⟨T10, X10, e10, st10⟩ := getF X4 hx hZ hown (host := "") (Or.inl (hw _ (List.mem_of_getElem? (i := 45) rfl))) Via.refl e4 F_coder_a1 (g := (mkF m 26 #[.val (.ref a1), .val (.ref a2), .val (.ref a2)] [(.ref a1)])) rfl rfl (hb hby d2003_26)
    obtain ⟨T11, X11, e11, st11⟩ := getF X10 hx hZ hown (host := "") (Or.inl (hw _ (List.mem_of_getElem? (i := 45) rfl))) Via.refl e10 F_coder_a2 (g := (mkF m 30 #[.val (.ref a1), .val (.ref a2), .val (.ref a2)] [(.ref a2), (.int (0 : Int32))])) rfl rfl (hb hby d2003_30)
    obtain ⟨T12, X12, e12, st12⟩ := getF X11 hx hZ hown (host := "") (Or.inl (hw _ (List.mem_of_getElem? (i := 46) rfl))) Via.refl e11 F_value_a1 (g := (mkF m 37 #[.val (.ref a1), .val (.ref a2), .val (.ref a2)] [(.ref a1)])) rfl rfl (hb hby d2003_37)
    obtain ⟨T13, X13, e13, st13⟩ := getF X12 hx hZ hown (host := "") (Or.inl (hw _ (List.mem_of_getElem? (i := 46) rfl))) Via.refl e12 F_value_a2 (g := (mkF m 41 #[.val (.ref a1), .val (.ref a2), .val (.ref a2)] [(.ref a2), (.ref c1)])) rfl rfl (hb hby d2003_41)
    obtain ⟨_, _, ⟨T14, L14, k14, n14⟩, -, X14, ⟨Lc14, hQ14, l14, y14, z14⟩, st14⟩ := Jvm.LawKit.callS X13 hx (y := (⟨"java/lang/StringLatin1", "equals", "([B[B)Z"⟩ : MethodName)) hown (mvT hZ (hw _ (List.mem_of_getElem? (i := 47) rfl))) (mvT hZ (hw _ (List.mem_of_getElem? (i := 48) rfl))) (mvT hZ (hw _ (List.mem_of_getElem? (i := 49) rfl))) (mvT hZ (hw _ (List.mem_of_getElem? (i := 50) rfl))) (by decide) (backOf (W := 0) (rm4 l Z a0 hw [] c1 c2 k_c1 (45 : Int32) k_c2 (47 : Int32) h0 n0 Z0 V_c1 V_c2) hZ (hw _ (List.mem_of_getElem? (i := 50) rfl)) (hw _ (List.mem_of_getElem? (i := 49) rfl)) (by decide) (by decide)) (g := (mkF m 44 #[.val (.ref a1), .val (.ref a2), .val (.ref a2)] [(.ref c2), (.ref c1)])) rfl (by rw [hml]; rfl) (argsL := [(.ref c1), (.ref c2)]) (rest := []) (lenOf pd_2003_3 rfl) rfl (by show 2 * 0 + _ ≤ _; exact Nat.le_of_eq rfl) (hb hby d2003_44) (fun _ _ => ⟨rfl, e13, (by decide : 0 + 0 ≤ _), (by decide : 0 + 0 ≤ _)⟩)
    dsimp only [Pt.U, Pt.locs, Pt.cells, Pt.slots] at X14 l14 y14 z14 st14 hQ14
    subst l14 y14 z14
    obtain ⟨rfl, N14q, e14⟩ := hQ14
    rw [show (F4 (45 : Int32) (47 : Int32)) = (0 : Int32) from by first | decide | (unfold F4; repeat' split) <;> first | rfl | simp_all] at st14
    have N14 := Fr.app N0 N14q
    obtain ⟨fs, hr, hrun, hended, hW, hsame⟩ := X14.leave (v := some (.int (0 : Int32))) (fun h => by rw [Bd.returns] at h; cases h)
    refine ⟨_, _, pre5 _ ?_, hrun, hended, _, _, rfl, ?_, ⟨_, rfl⟩, hW, hsame.mono (by decide) (by decide)⟩
    · show Steps p.tables e below (T4.setTop (mkF m 22 #[.val (.ref a1), .val (.ref a2), .val (.ref a2)] [(.int w_COMPACT_STRINGS)])) _
      refine XS.ifNo X4.here hx rfl (hb hby d2003_22) rfl ((if0 _ _).trans (feq hc6).1) ?_
      show Steps p.tables e below (T4.setTop (mkF m 25 #[.val (.ref a1), .val (.ref a2), .val (.ref a2)] [])) _
      refine XS.aloadN X4.here hx rfl (hb hby d2003_25) rfl rfl ?_
      show Steps p.tables e below (T4.setTop (mkF m 26 #[.val (.ref a1), .val (.ref a2), .val (.ref a2)] [(.ref a1)])) _
      refine st10 _ ?_
      show Steps p.tables e below (T10.setTop (mkF m 29 #[.val (.ref a1), .val (.ref a2), .val (.ref a2)] [(.int (0 : Int32))])) _
      refine XS.aloadN X10.here hx rfl (hb hby d2003_29) rfl rfl ?_
      show Steps p.tables e below (T10.setTop (mkF m 30 #[.val (.ref a1), .val (.ref a2), .val (.ref a2)] [(.ref a2), (.int (0 : Int32))])) _
      refine st11 _ ?_
      show Steps p.tables e below (T11.setTop (mkF m 33 #[.val (.ref a1), .val (.ref a2), .val (.ref a2)] [(.int (0 : Int32)), (.int (0 : Int32))])) _
      refine XS.icmpNo X11.here hx rfl (hb hby d2003_33) rfl (teq (rfl : (0 : Int32) = (0 : Int32))).2 ?_
      show Steps p.tables e below (T11.setTop (mkF m 36 #[.val (.ref a1), .val (.ref a2), .val (.ref a2)] [])) _
      refine XS.aloadN X11.here hx rfl (hb hby d2003_36) rfl rfl ?_
      show Steps p.tables e below (T11.setTop (mkF m 37 #[.val (.ref a1), .val (.ref a2), .val (.ref a2)] [(.ref a1)])) _
      refine st12 _ ?_
      show Steps p.tables e below (T12.setTop (mkF m 40 #[.val (.ref a1), .val (.ref a2), .val (.ref a2)] [(.ref c1)])) _
      refine XS.aloadN X12.here hx rfl (hb hby d2003_40) rfl rfl ?_
      show Steps p.tables e below (T12.setTop (mkF m 41 #[.val (.ref a1), .val (.ref a2), .val (.ref a2)] [(.ref a2), (.ref c1)])) _
      refine st13 _ ?_
      show Steps p.tables e below (T13.setTop (mkF m 44 #[.val (.ref a1), .val (.ref a2), .val (.ref a2)] [(.ref c2), (.ref c1)])) _
      refine st14 _ ?_
      show Steps p.tables e below (T14.setTop (mkF m 47 #[.val (.ref a1), .val (.ref a2), .val (.ref a2)] [(.int (0 : Int32))])) _
      refine XS.ifYes X14.here hx rfl (pc0 := 47) (pc' := 54) rfl (hb hby d2003_47) rfl ((if0 _ _).trans (teq (rfl : (0 : Int32) = (0 : Int32))).1) (by decide) (by decide) ?_
      show Steps p.tables e below (T14.setTop (mkF m 54 #[.val (.ref a1), .val (.ref a2), .val (.ref a2)] [])) _
      refine XS.iconst X14.here hx rfl (hb hby d2003_54) ?_
      show Steps p.tables e below (T14.setTop (mkF m 55 #[.val (.ref a1), .val (.ref a2), .val (.ref a2)] [(.int (0 : Int32))])) _
      exact retN X14 hx (t := .boolean) Bd.returns (by simp) (hb hby d2003_55) hr
    · show Q2003 Z a1 a2 c1 k_c1 c2 k_c2 w_COMPACT_STRINGS h0 n0 _ T14.heap _
      rw [e14]
      refine ⟨?_, N14, rfl⟩
      show (some (.int (0 : Int32)) : Option Value) = some (.int (F2003 w_COMPACT_STRINGS))
      rw [F2003, if_neg hc6]
theorem d3003_0 : decode jdk_42_method_66_code 0 = .ok (.aload_n 0, 1) := by decide +kernel
theorem d3003_1 : decode jdk_42_method_66_code 1 = .ok (.aload_n 1, 1) := by decide +kernel
theorem d3003_2 : decode jdk_42_method_66_code 2 = .ok (.if_acmp .ne 5, 3) := by decide +kernel
theorem d3003_7 : decode jdk_42_method_66_code 7 = .ok (.aload_n 1, 1) := by decide +kernel
theorem d3003_8 : decode jdk_42_method_66_code 8 = .ok (.instanceof 10, 3) := by decide +kernel
theorem d3003_11 : decode jdk_42_method_66_code 11 = .ok (.ifCond .eq 43, 3) := by decide +kernel
theorem d3003_14 : decode jdk_42_method_66_code 14 = .ok (.aload_n 1, 1) := by decide +kernel
theorem d3003_15 : decode jdk_42_method_66_code 15 = .ok (.checkcast 10, 3) := by decide +kernel
theorem d3003_18 : decode jdk_42_method_66_code 18 = .ok (.astore_n 2, 1) := by decide +kernel
theorem d3003_19 : decode jdk_42_method_66_code 19 = .ok (.getstatic 38, 3) := by decide +kernel
theorem d3003_22 : decode jdk_42_method_66_code 22 = .ok (.ifCond .eq 14, 3) := by decide +kernel
theorem d3003_25 : decode jdk_42_method_66_code 25 = .ok (.aload_n 0, 1) := by decide +kernel
theorem d3003_26 : decode jdk_42_method_66_code 26 = .ok (.getfield 15, 3) := by decide +kernel
theorem d3003_29 : decode jdk_42_method_66_code 29 = .ok (.aload_n 2, 1) := by decide +kernel
theorem d3003_30 : decode jdk_42_method_66_code 30 = .ok (.getfield 15, 3) := by decide +kernel
theorem d3003_33 : decode jdk_42_method_66_code 33 = .ok (.if_icmp .ne 21, 3) := by decide +kernel
theorem d3003_36 : decode jdk_42_method_66_code 36 = .ok (.aload_n 0, 1) := by decide +kernel
theorem d3003_37 : decode jdk_42_method_66_code 37 = .ok (.getfield 9, 3) := by decide +kernel
theorem d3003_40 : decode jdk_42_method_66_code 40 = .ok (.aload_n 2, 1) := by decide +kernel
theorem d3003_41 : decode jdk_42_method_66_code 41 = .ok (.getfield 9, 3) := by decide +kernel
theorem d3003_44 : decode jdk_42_method_66_code 44 = .ok (.invokestatic 541, 3) := by decide +kernel
theorem d3003_47 : decode jdk_42_method_66_code 47 = .ok (.ifCond .eq 7, 3) := by decide +kernel
theorem d3003_54 : decode jdk_42_method_66_code 54 = .ok (.iconst 0, 1) := by decide +kernel
theorem d3003_55 : decode jdk_42_method_66_code 55 = .ok (.ireturn, 1) := by decide +kernel
theorem pn_3003 : plainName "java/lang/String" = true := by first | (simp [plainName, overriddenIn]; done) | decide +kernel
theorem pd_3003_3 : parseMethodDescriptor "([B[B)Z" = some ⟨[(.array .byte), (.array .byte)], some .boolean⟩ := by decide +kernel
theorem ef_3003 (m : MethodId) (a1 : Addr) (a2 : Addr) : entryFrame m #[(.ref a1), (.ref a2)] 3 = mkF m 0 #[.val (.ref a1), .val (.ref a2), .unset] [] := by first | (simp [entryFrame, mkF, argsToLocals, Value.category]; done) | rfl
def F3003 (w_COMPACT_STRINGS : Int32) : Int32 := (if w_COMPACT_STRINGS = (0 : Int32) then (0 : Int32) else (0 : Int32))
def Q3003 (Z : State) (a1 : Addr) (a2 : Addr) (c1 : Addr) (k_c1 : ClassId) (c2 : Addr) (k_c2 : ClassId) (w_COMPACT_STRINGS : Int32) (h0 : Heap) (n0 : Nat) (v : Option Value) (h : Heap) (L : List Loc) : Prop := v = some (.int (F3003 w_COMPACT_STRINGS)) ∧ Fr n0 L ∧ h = h0
set_option maxRecDepth 65536 in
set_option maxHeartbeats 40000000 in
theorem rm3003 (l : Launch) (Z : State) (a0 : Array Value) (hw : ∀ d ∈ tables_1, d.before a0 Z = true) (ws : List Jvm.Cond) (a1 : Addr) (a2 : Addr) (c1 : Addr) (k_c1 : ClassId) (c2 : Addr) (k_c2 : ClassId) (w_COMPACT_STRINGS : Int32) (h0 : Heap) (n0 : Nat) (Z0 : n0 ≤ h0.size) (E_a1 : Exa Z h0 a1 "java/lang/String") (F_coder_a1 : Fld Z h0 a1 "java/lang/String" "coder" "B" (.int (0 : Int32))) (F_value_a1 : Fld Z h0 a1 "java/lang/String" "value" "[B" (.ref c1)) (V_c1 : Arv Z h0 c1 k_c1 .byte (1 : Int32) [(.int (45 : Int32))] (.int (0 : Int32))) (E_a2 : Exa Z h0 a2 "java/lang/String") (F_coder_a2 : Fld Z h0 a2 "java/lang/String" "coder" "B" (.int (0 : Int32))) (F_value_a2 : Fld Z h0 a2 "java/lang/String" "value" "[B" (.ref c2)) (V_c2 : Arv Z h0 c2 k_c2 .byte (1 : Int32) [(.int (37 : Int32))] (.int (0 : Int32))) (S_COMPACT_STRINGS : Sta Z Z.heap "java/lang/String" "COMPACT_STRINGS" "Z" (.int w_COMPACT_STRINGS)) (X00 : Old Z n0 h0) :
    MetFree l (⟨"java/lang/String", "equals", "(Ljava/lang/Object;)Z"⟩ : MethodName) (head1 (Jvm.Cond.code (⟨"java/lang/String", "equals", "(Ljava/lang/Object;)Z"⟩ : MethodName) jdk_42_method_66_code 3 (some .boolean) :: ws) ({ frames := 1, cells := 0, slots := 0, locals := 14 } : Room)) (fun a U => a = #[(.ref a1), (.ref a2)] ∧ Z.Warmed39 U.vm ∧ U.heap = h0) (fun _ _ _ _ _ => True) (fun _ U o U' => ∃ v L, o = .returned v ∧ Q3003 Z a1 a2 c1 k_c1 c2 k_c2 w_COMPACT_STRINGS h0 n0 v U'.heap L ∧ FrameEnd U o U' L ({ frames := 1, cells := 0, slots := 0, locals := 14 } : Room).cells ({ frames := 1, cells := 0, slots := 0, locals := 14 } : Room).slots) := by
  refine MetFree.of_bodySF (plainFor_of_name pn_3003) hisR ?_
  intro p e s m args below meth c s₁ Bd hml0 hP hK
  obtain ⟨rfl, hZ, hh⟩ := hP
  skip
  skip
  skip
  skip
  skip
  skip
  have hx := Bd.exec
  have hby := Bd.bytes
  have hml : c.maxLocals = 3 := hml0
  have hown : s.vm.findClass "java/lang/String" = some m.cls := findClass_of_methodNamed Bd.named
  have hnm := (name_of_methodNamed Bd.named Bd.method).1
  have X0 : Stand p l e ({ frames := 1, cells := 0, slots := 0, locals := 14 } : Room) s m #[(.ref a1), (.ref a2)] below meth c s₁ [] 0 0 := Stand.of_body Bd
  have e0 : s₁.heap = h0 := by rw [← hh, Bd.state]; rfl
  have N0 := Fr.nil n0
  have pre0 : ∀ t, Steps p.tables e below (s₁.setTop (mkF m 0 #[.val (.ref a1), .val (.ref a2), .unset] [])) t → Steps p.tables e below (s₁.setTop (entryFrame m #[(.ref a1), (.ref a2)] 3)) t := fun t k => castTop (ef_3003 m a1 a2) k
  have nq1 : a1 ≠ a2 := own_sne F_value_a1 F_value_a2 V_c1 V_c2 (by decide)
  obtain ⟨T2, X2, e2, st2⟩ := instY X0 hx hZ hown (hw _ (List.mem_of_getElem? (i := 42) rfl)) e0 (Ins.self E_a2) (g := (mkF m 8 #[.val (.ref a1), .val (.ref a2), .unset] [(.ref a2)])) rfl rfl (hb hby d3003_8)
  obtain ⟨T3, X3, e3, st3⟩ := castY X2 hx hZ hown (hw _ (List.mem_of_getElem? (i := 42) rfl)) e2 (Ins.self E_a2) (g := (mkF m 15 #[.val (.ref a1), .val (.ref a2), .unset] [(.ref a2)])) rfl rfl (hb hby d3003_15)
  obtain ⟨T4, X4, e4, st4⟩ := getS2 X3 hx hZ hown (host := "") (Or.inl (hw _ (List.mem_of_getElem? (i := 44) rfl))) Via.refl e3 (S_COMPACT_STRINGS.ext X00.2) (g := (mkF m 19 #[.val (.ref a1), .val (.ref a2), .val (.ref a2)] [])) rfl (hb hby d3003_19)
  have pre5 : ∀ t, Steps p.tables e below (T4.setTop (mkF m 22 #[.val (.ref a1), .val (.ref a2), .val (.ref a2)] [(.int w_COMPACT_STRINGS)])) t → Steps p.tables e below (s₁.setTop (entryFrame m #[(.ref a1), (.ref a2)] 3)) t := fun t kt => by
    refine pre0 t ?_
    show Steps p.tables e below (s₁.setTop (mkF m 0 #[.val (.ref a1), .val (.ref a2), .unset] [])) _
    refine XS.aloadN X0.here hx rfl (hb hby d3003_0) rfl rfl ?_
    show Steps p.tables e below (s₁.setTop (mkF m 1 #[.val (.ref a1), .val (.ref a2), .unset] [(.ref a1)])) _
    refine XS.aloadN X0.here hx rfl (hb hby d3003_1) rfl rfl ?_
    show Steps p.tables e below (s₁.setTop (mkF m 2 #[.val (.ref a1), .val (.ref a2), .unset] [(.ref a2), (.ref a1)])) _
    refine Jvm.RoadKit.acmp (g := (mkF m 2 #[.val (.ref a1), .val (.ref a2), .unset] [(.ref a2), (.ref a1)])) X0 hx rfl rfl rfl (pc0 := 2) (pc' := 7) (same := false) rfl (hb hby d3003_2) rfl (decide_eq_false fun q => nq1 (Value.ref.inj q)) (by decide) (by decide) ?_
    show Steps p.tables e below (s₁.setTop (mkF m 7 #[.val (.ref a1), .val (.ref a2), .unset] [])) _
    refine XS.aloadN X0.here hx rfl (hb hby d3003_7) rfl rfl ?_
    show Steps p.tables e below (s₁.setTop (mkF m 8 #[.val (.ref a1), .val (.ref a2), .unset] [(.ref a2)])) _
    refine st2 _ ?_
    show Steps p.tables e below (T2.setTop (mkF m 11 #[.val (.ref a1), .val (.ref a2), .unset] [(.int (1 : Int32))])) _
    refine XS.ifNo X2.here hx rfl (hb hby d3003_11) rfl ((if0 _ _).trans (feq (by decide : ¬ ((1 : Int32) = (0 : Int32)))).1) ?_
    show Steps p.tables e below (T2.setTop (mkF m 14 #[.val (.ref a1), .val (.ref a2), .unset] [])) _
    refine XS.aloadN X2.here hx rfl (hb hby d3003_14) rfl rfl ?_
    show Steps p.tables e below (T2.setTop (mkF m 15 #[.val (.ref a1), .val (.ref a2), .unset] [(.ref a2)])) _
    refine st3 _ ?_
    show Steps p.tables e below (T3.setTop (mkF m 18 #[.val (.ref a1), .val (.ref a2), .unset] [(.ref a2)])) _
    refine XS.astoreN X3.here hx rfl (hb hby d3003_18) rfl rfl (l' := #[.val (.ref a1), .val (.ref a2), .val (.ref a2)]) rfl ?_
    show Steps p.tables e below (T3.setTop (mkF m 19 #[.val (.ref a1), .val (.ref a2), .val (.ref a2)] [])) _
    refine st4 _ ?_
    exact kt
  by_cases hc6 : w_COMPACT_STRINGS = (0 : Int32)
  · obtain ⟨T7, X7, e7, st7⟩ := getF X4 hx hZ hown (host := "") (Or.inl (hw _ (List.mem_of_getElem? (i := 46) rfl))) Via.refl e4 F_value_a1 (g := (mkF m 37 #[.val (.ref a1), .val (.ref a2), .val (.ref a2)] [(.ref a1)])) rfl rfl (hb hby d3003_37)
    obtain ⟨T8, X8, e8, st8⟩ := getF X7 hx hZ hown (host := "") (Or.inl (hw _ (List.mem_of_getElem? (i := 46) rfl))) Via.refl e7 F_value_a2 (g := (mkF m 41 #[.val (.ref a1), .val (.ref a2), .val (.ref a2)] [(.ref a2), (.ref c1)])) rfl rfl (hb hby d3003_41)
    obtain ⟨_, _, ⟨T9, L9, k9, n9⟩, -, X9, ⟨Lc9, hQ9, l9, y9, z9⟩, st9⟩ := Jvm.LawKit.callS X8 hx (y := (⟨"java/lang/StringLatin1", "equals", "([B[B)Z"⟩ : MethodName)) hown (mvT hZ (hw _ (List.mem_of_getElem? (i := 47) rfl))) (mvT hZ (hw _ (List.mem_of_getElem? (i := 48) rfl))) (mvT hZ (hw _ (List.mem_of_getElem? (i := 49) rfl))) (mvT hZ (hw _ (List.mem_of_getElem? (i := 50) rfl))) (by decide) (backOf (W := 0) (rm4 l Z a0 hw [] c1 c2 k_c1 (45 : Int32) k_c2 (37 : Int32) h0 n0 Z0 V_c1 V_c2) hZ (hw _ (List.mem_of_getElem? (i := 50) rfl)) (hw _ (List.mem_of_getElem? (i := 49) rfl)) (by decide) (by decide)) (g := (mkF m 44 #[.val (.ref a1), .val (.ref a2), .val (.ref a2)] [(.ref c2), (.ref c1)])) rfl (by rw [hml]; rfl) (argsL := [(.ref c1), (.ref c2)]) (rest := []) (lenOf pd_3003_3 rfl) rfl (by show 2 * 0 + _ ≤ _; exact Nat.le_of_eq rfl) (hb hby d3003_44) (fun _ _ => ⟨rfl, e8, (by decide : 0 + 0 ≤ _), (by decide : 0 + 0 ≤ _)⟩)
    dsimp only [Pt.U, Pt.locs, Pt.cells, Pt.slots] at X9 l9 y9 z9 st9 hQ9
    subst l9 y9 z9
    obtain ⟨rfl, N9q, e9⟩ := hQ9
    rw [show (F4 (45 : Int32) (37 : Int32)) = (0 : Int32) from by first | decide | (unfold F4; repeat' split) <;> first | rfl | simp_all] at st9
    have N9 := Fr.app N0 N9q
    obtain ⟨fs, hr, hrun, hended, hW, hsame⟩ := X9.leave (v := some (.int (0 : Int32))) (fun h => by rw [Bd.returns] at h; cases h)
    refine ⟨_, _, pre5 _ ?_, hrun, hended, _, _, rfl, ?_, ⟨_, rfl⟩, hW, hsame.mono (by decide) (by decide)⟩
    · show Steps p.tables e below (T4.setTop (mkF m 22 #[.val (.ref a1), .val (.ref a2), .val (.ref a2)] [(.int w_COMPACT_STRINGS)])) _
      refine XS.ifYes X4.here hx rfl (pc0 := 22) (pc' := 36) rfl (hb hby d3003_22) rfl ((if0 _ _).trans (teq hc6).1) (by decide) (by decide) ?_
      show Steps p.tables e below (T4.setTop (mkF m 36 #[.val (.ref a1), .val (.ref a2), .val (.ref a2)] [])) _
      refine XS.aloadN X4.here hx rfl (hb hby d3003_36) rfl rfl ?_
      show Steps p.tables e below (T4.setTop (mkF m 37 #[.val (.ref a1), .val (.ref a2), .val (.ref a2)] [(.ref a1)])) _
      refine st7 _ ?_
      show Steps p.tables e below (T7.setTop (mkF m 40 #[.val (.ref a1), .val (.ref a2), .val (.ref a2)] [(.ref c1)])) _
      refine XS.aloadN X7.here hx rfl (hb hby d3003_40) rfl rfl ?_
      show Steps p.tables e below (T7.setTop (mkF m 41 #[.val (.ref a1), .val (.ref a2), .val (.ref a2)] [(.ref a2), (.ref c1)])) _
      refine st8 _ ?_
      show Steps p.tables e below (T8.setTop (mkF m 44 #[.val (.ref a1), .val (.ref a2), .val (.ref a2)] [(.ref c2), (.ref c1)])) _
      refine st9 _ ?_
      show Steps p.tables e below (T9.setTop (mkF m 47 #[.val (.ref a1), .val (.ref a2), .val (.ref a2)] [(.int (0 : Int32))])) _
      refine XS.ifYes X9.here hx rfl (pc0 := 47) (pc' := 54) rfl (hb hby d3003_47) rfl ((if0 _ _).trans (teq (rfl : (0 : Int32) = (0 : Int32))).1) (by decide) (by decide) ?_
      show Steps p.tables e below (T9.setTop (mkF m 54 #[.val (.ref a1), .val (.ref a2), .val (.ref a2)] [])) _
      refine XS.iconst X9.here hx rfl (hb hby d3003_54) ?_
      show Steps p.tables e below (T9.setTop (mkF m 55 #[.val (.ref a1), .val (.ref a2), .val (.ref a2)] [(.int (0 : Int32))])) _
      exact retN X9 hx (t := .boolean) Bd.returns (by simp) (hb hby d3003_55) hr
    · show Q3003 Z a1 a2 c1 k_c1 c2 k_c2 w_COMPACT_STRINGS h0 n0 _ T9.heap _
      rw [e9]
      refine ⟨?_, N9, rfl⟩
      show (some (.int (0 : Int32)) : Option Value) = some (.int (F3003 w_COMPACT_STRINGS))
      rw [F3003, if_pos hc6]
  · obtain ⟨T10, X10, e10, st10⟩ := getF X4 hx hZ hown (host := "") (Or.inl (hw _ (List.mem_of_getElem? (i := 45) rfl))) Via.refl e4 F_coder_a1 (g := (mkF m 26 #[.val (.ref a1), .val (.ref a2), .val (.ref a2)] [(.ref a1)])) rfl rfl (hb hby d3003_26)
    obtain ⟨T11, X11, e11, st11⟩ := getF X10 hx hZ hown (host := "") (Or.inl (hw _ (List.mem_of_getElem? (i := 45) rfl))) Via.refl e10 F_coder_a2 (g := (mkF m 30 #[.val (.ref a1), .val (.ref a2), .val (.ref a2)] [(.ref a2), (.int (0 : Int32))])) rfl rfl (hb hby d3003_30)
    obtain ⟨T12, X12, e12, st12⟩ := getF X11 hx hZ hown (host := "") (Or.inl (hw _ (List.mem_of_getElem? (i := 46) rfl))) Via.refl e11 F_value_a1 (g := (mkF m 37 #[.val (.ref a1), .val (.ref a2), .val (.ref a2)] [(.ref a1)])) rfl rfl (hb hby d3003_37)
    obtain ⟨T13, X13, e13, st13⟩ := getF X12 hx hZ hown (host := "") (Or.inl (hw _ (List.mem_of_getElem? (i := 46) rfl))) Via.refl e12 F_value_a2 (g := (mkF m 41 #[.val (.ref a1), .val (.ref a2), .val (.ref a2)] [(.ref a2), (.ref c1)])) rfl rfl (hb hby d3003_41)
    obtain ⟨_, _, ⟨T14, L14, k14, n14⟩, -, X14, ⟨Lc14, hQ14, l14, y14, z14⟩, st14⟩ := Jvm.LawKit.callS X13 hx (y := (⟨"java/lang/StringLatin1", "equals", "([B[B)Z"⟩ : MethodName)) hown (mvT hZ (hw _ (List.mem_of_getElem? (i := 47) rfl))) (mvT hZ (hw _ (List.mem_of_getElem? (i := 48) rfl))) (mvT hZ (hw _ (List.mem_of_getElem? (i := 49) rfl))) (mvT hZ (hw _ (List.mem_of_getElem? (i := 50) rfl))) (by decide) (backOf (W := 0) (rm4 l Z a0 hw [] c1 c2 k_c1 (45 : Int32) k_c2 (37 : Int32) h0 n0 Z0 V_c1 V_c2) hZ (hw _ (List.mem_of_getElem? (i := 50) rfl)) (hw _ (List.mem_of_getElem? (i := 49) rfl)) (by decide) (by decide)) (g := (mkF m 44 #[.val (.ref a1), .val (.ref a2), .val (.ref a2)] [(.ref c2), (.ref c1)])) rfl (by rw [hml]; rfl) (argsL := [(.ref c1), (.ref c2)]) (rest := []) (lenOf pd_3003_3 rfl) rfl (by show 2 * 0 + _ ≤ _; exact Nat.le_of_eq rfl) (hb hby d3003_44) (fun _ _ => ⟨rfl, e13, (by decide : 0 + 0 ≤ _), (by decide : 0 + 0 ≤ _)⟩)
    dsimp only [Pt.U, Pt.locs, Pt.cells, Pt.slots] at X14 l14 y14 z14 st14 hQ14
    subst l14 y14 z14
    obtain ⟨rfl, N14q, e14⟩ := hQ14
    rw [show (F4 (45 : Int32) (37 : Int32)) = (0 : Int32) from by first | decide | (unfold F4; repeat' split) <;> first | rfl | simp_all] at st14
    have N14 := Fr.app N0 N14q
    obtain ⟨fs, hr, hrun, hended, hW, hsame⟩ := X14.leave (v := some (.int (0 : Int32))) (fun h => by rw [Bd.returns] at h; cases h)
    refine ⟨_, _, pre5 _ ?_, hrun, hended, _, _, rfl, ?_, ⟨_, rfl⟩, hW, hsame.mono (by decide) (by decide)⟩
    · show Steps p.tables e below (T4.setTop (mkF m 22 #[.val (.ref a1), .val (.ref a2), .val (.ref a2)] [(.int w_COMPACT_STRINGS)])) _
      refine XS.ifNo X4.here hx rfl (hb hby d3003_22) rfl ((if0 _ _).trans (feq hc6).1) ?_
      show Steps p.tables e below (T4.setTop (mkF m 25 #[.val (.ref a1), .val (.ref a2), .val (.ref a2)] [])) _
      refine XS.aloadN X4.here hx rfl (hb hby d3003_25) rfl rfl ?_
      show Steps p.tables e below (T4.setTop (mkF m 26 #[.val (.ref a1), .val (.ref a2), .val (.ref a2)] [(.ref a1)])) _
      refine st10 _ ?_
      show Steps p.tables e below (T10.setTop (mkF m 29 #[.val (.ref a1), .val (.ref a2), .val (.ref a2)] [(.int (0 : Int32))])) _
      refine XS.aloadN X10.here hx rfl (hb hby d3003_29) rfl rfl ?_
      show Steps p.tables e below (T10.setTop (mkF m 30 #[.val (.ref a1), .val (.ref a2), .val (.ref a2)] [(.ref a2), (.int (0 : Int32))])) _
      refine st11 _ ?_
      show Steps p.tables e below (T11.setTop (mkF m 33 #[.val (.ref a1), .val (.ref a2), .val (.ref a2)] [(.int (0 : Int32)), (.int (0 : Int32))])) _
      refine XS.icmpNo X11.here hx rfl (hb hby d3003_33) rfl (teq (rfl : (0 : Int32) = (0 : Int32))).2 ?_
      show Steps p.tables e below (T11.setTop (mkF m 36 #[.val (.ref a1), .val (.ref a2), .val (.ref a2)] [])) _
      refine XS.aloadN X11.here hx rfl (hb hby d3003_36) rfl rfl ?_
      show Steps p.tables e below (T11.setTop (mkF m 37 #[.val (.ref a1), .val (.ref a2), .val (.ref a2)] [(.ref a1)])) _
      refine st12 _ ?_
      show Steps p.tables e below (T12.setTop (mkF m 40 #[.val (.ref a1), .val (.ref a2), .val (.ref a2)] [(.ref c1)])) _
      refine XS.aloadN X12.here hx rfl (hb hby d3003_40) rfl rfl ?_
      show Steps p.tables e below (T12.setTop (mkF m 41 #[.val (.ref a1), .val (.ref a2), .val (.ref a2)] [(.ref a2), (.ref c1)])) _
      refine st13 _ ?_
      show Steps p.tables e below (T13.setTop (mkF m 44 #[.val (.ref a1), .val (.ref a2), .val (.ref a2)] [(.ref c2), (.ref c1)])) _
      refine st14 _ ?_
      show Steps p.tables e below (T14.setTop (mkF m 47 #[.val (.ref a1), .val (.ref a2), .val (.ref a2)] [(.int (0 : Int32))])) _
      refine XS.ifYes X14.here hx rfl (pc0 := 47) (pc' := 54) rfl (hb hby d3003_47) rfl ((if0 _ _).trans (teq (rfl : (0 : Int32) = (0 : Int32))).1) (by decide) (by decide) ?_
      show Steps p.tables e below (T14.setTop (mkF m 54 #[.val (.ref a1), .val (.ref a2), .val (.ref a2)] [])) _
      refine XS.iconst X14.here hx rfl (hb hby d3003_54) ?_
      show Steps p.tables e below (T14.setTop (mkF m 55 #[.val (.ref a1), .val (.ref a2), .val (.ref a2)] [(.int (0 : Int32))])) _
      exact retN X14 hx (t := .boolean) Bd.returns (by simp) (hb hby d3003_55) hr
    · show Q3003 Z a1 a2 c1 k_c1 c2 k_c2 w_COMPACT_STRINGS h0 n0 _ T14.heap _
      rw [e14]
      refine ⟨?_, N14, rfl⟩
      show (some (.int (0 : Int32)) : Option Value) = some (.int (F3003 w_COMPACT_STRINGS))
      rw [F3003, if_neg hc6]
theorem d4003_0 : decode jdk_42_method_66_code 0 = .ok (.aload_n 0, 1) := by decide +kernel
theorem d4003_1 : decode jdk_42_method_66_code 1 = .ok (.aload_n 1, 1) := by decide +kernel
theorem d4003_2 : decode jdk_42_method_66_code 2 = .ok (.if_acmp .ne 5, 3) := by decide +kernel
theorem d4003_7 : decode jdk_42_method_66_code 7 = .ok (.aload_n 1, 1) := by decide +kernel
theorem d4003_8 : decode jdk_42_method_66_code 8 = .ok (.instanceof 10, 3) := by decide +kernel
theorem d4003_11 : decode jdk_42_method_66_code 11 = .ok (.ifCond .eq 43, 3) := by decide +kernel
theorem d4003_14 : decode jdk_42_method_66_code 14 = .ok (.aload_n 1, 1) := by decide +kernel
theorem d4003_15 : decode jdk_42_method_66_code 15 = .ok (.checkcast 10, 3) := by decide +kernel
theorem d4003_18 : decode jdk_42_method_66_code 18 = .ok (.astore_n 2, 1) := by decide +kernel
theorem d4003_19 : decode jdk_42_method_66_code 19 = .ok (.getstatic 38, 3) := by decide +kernel
theorem d4003_22 : decode jdk_42_method_66_code 22 = .ok (.ifCond .eq 14, 3) := by decide +kernel
theorem d4003_25 : decode jdk_42_method_66_code 25 = .ok (.aload_n 0, 1) := by decide +kernel
theorem d4003_26 : decode jdk_42_method_66_code 26 = .ok (.getfield 15, 3) := by decide +kernel
theorem d4003_29 : decode jdk_42_method_66_code 29 = .ok (.aload_n 2, 1) := by decide +kernel
theorem d4003_30 : decode jdk_42_method_66_code 30 = .ok (.getfield 15, 3) := by decide +kernel
theorem d4003_33 : decode jdk_42_method_66_code 33 = .ok (.if_icmp .ne 21, 3) := by decide +kernel
theorem d4003_36 : decode jdk_42_method_66_code 36 = .ok (.aload_n 0, 1) := by decide +kernel
theorem d4003_37 : decode jdk_42_method_66_code 37 = .ok (.getfield 9, 3) := by decide +kernel
theorem d4003_40 : decode jdk_42_method_66_code 40 = .ok (.aload_n 2, 1) := by decide +kernel
theorem d4003_41 : decode jdk_42_method_66_code 41 = .ok (.getfield 9, 3) := by decide +kernel
theorem d4003_44 : decode jdk_42_method_66_code 44 = .ok (.invokestatic 541, 3) := by decide +kernel
theorem d4003_47 : decode jdk_42_method_66_code 47 = .ok (.ifCond .eq 7, 3) := by decide +kernel
theorem d4003_54 : decode jdk_42_method_66_code 54 = .ok (.iconst 0, 1) := by decide +kernel
theorem d4003_55 : decode jdk_42_method_66_code 55 = .ok (.ireturn, 1) := by decide +kernel
theorem pn_4003 : plainName "java/lang/String" = true := by first | (simp [plainName, overriddenIn]; done) | decide +kernel
theorem pd_4003_3 : parseMethodDescriptor "([B[B)Z" = some ⟨[(.array .byte), (.array .byte)], some .boolean⟩ := by decide +kernel
theorem ef_4003 (m : MethodId) (a1 : Addr) (a2 : Addr) : entryFrame m #[(.ref a1), (.ref a2)] 3 = mkF m 0 #[.val (.ref a1), .val (.ref a2), .unset] [] := by first | (simp [entryFrame, mkF, argsToLocals, Value.category]; done) | rfl
def F4003 (w_COMPACT_STRINGS : Int32) : Int32 := (if w_COMPACT_STRINGS = (0 : Int32) then (0 : Int32) else (0 : Int32))
def Q4003 (Z : State) (a1 : Addr) (a2 : Addr) (c1 : Addr) (k_c1 : ClassId) (c2 : Addr) (k_c2 : ClassId) (w_COMPACT_STRINGS : Int32) (h0 : Heap) (n0 : Nat) (v : Option Value) (h : Heap) (L : List Loc) : Prop := v = some (.int (F4003 w_COMPACT_STRINGS)) ∧ Fr n0 L ∧ h = h0
set_option maxRecDepth 65536 in
set_option maxHeartbeats 40000000 in
theorem rm4003 (l : Launch) (Z : State) (a0 : Array Value) (hw : ∀ d ∈ tables_1, d.before a0 Z = true) (ws : List Jvm.Cond) (a1 : Addr) (a2 : Addr) (c1 : Addr) (k_c1 : ClassId) (c2 : Addr) (k_c2 : ClassId) (w_COMPACT_STRINGS : Int32) (h0 : Heap) (n0 : Nat) (Z0 : n0 ≤ h0.size) (E_a1 : Exa Z h0 a1 "java/lang/String") (F_coder_a1 : Fld Z h0 a1 "java/lang/String" "coder" "B" (.int (0 : Int32))) (F_value_a1 : Fld Z h0 a1 "java/lang/String" "value" "[B" (.ref c1)) (V_c1 : Arv Z h0 c1 k_c1 .byte (1 : Int32) [(.int (42 : Int32))] (.int (0 : Int32))) (E_a2 : Exa Z h0 a2 "java/lang/String") (F_coder_a2 : Fld Z h0 a2 "java/lang/String" "coder" "B" (.int (0 : Int32))) (F_value_a2 : Fld Z h0 a2 "java/lang/String" "value" "[B" (.ref c2)) (V_c2 : Arv Z h0 c2 k_c2 .byte (1 : Int32) [(.int (47 : Int32))] (.int (0 : Int32))) (S_COMPACT_STRINGS : Sta Z Z.heap "java/lang/String" "COMPACT_STRINGS" "Z" (.int w_COMPACT_STRINGS)) (X00 : Old Z n0 h0) :
    MetFree l (⟨"java/lang/String", "equals", "(Ljava/lang/Object;)Z"⟩ : MethodName) (head1 (Jvm.Cond.code (⟨"java/lang/String", "equals", "(Ljava/lang/Object;)Z"⟩ : MethodName) jdk_42_method_66_code 3 (some .boolean) :: ws) ({ frames := 1, cells := 0, slots := 0, locals := 14 } : Room)) (fun a U => a = #[(.ref a1), (.ref a2)] ∧ Z.Warmed39 U.vm ∧ U.heap = h0) (fun _ _ _ _ _ => True) (fun _ U o U' => ∃ v L, o = .returned v ∧ Q4003 Z a1 a2 c1 k_c1 c2 k_c2 w_COMPACT_STRINGS h0 n0 v U'.heap L ∧ FrameEnd U o U' L ({ frames := 1, cells := 0, slots := 0, locals := 14 } : Room).cells ({ frames := 1, cells := 0, slots := 0, locals := 14 } : Room).slots) := by
  refine MetFree.of_bodySF (plainFor_of_name pn_4003) hisR ?_
  intro p e s m args below meth c s₁ Bd hml0 hP hK
  obtain ⟨rfl, hZ, hh⟩ := hP
  skip
  skip
  skip
  skip
  skip
  skip
  have hx := Bd.exec
  have hby := Bd.bytes
  have hml : c.maxLocals = 3 := hml0
  have hown : s.vm.findClass "java/lang/String" = some m.cls := findClass_of_methodNamed Bd.named
  have hnm := (name_of_methodNamed Bd.named Bd.method).1
  have X0 : Stand p l e ({ frames := 1, cells := 0, slots := 0, locals := 14 } : Room) s m #[(.ref a1), (.ref a2)] below meth c s₁ [] 0 0 := Stand.of_body Bd
  have e0 : s₁.heap = h0 := by rw [← hh, Bd.state]; rfl
  have N0 := Fr.nil n0
  have pre0 : ∀ t, Steps p.tables e below (s₁.setTop (mkF m 0 #[.val (.ref a1), .val (.ref a2), .unset] [])) t → Steps p.tables e below (s₁.setTop (entryFrame m #[(.ref a1), (.ref a2)] 3)) t := fun t k => castTop (ef_4003 m a1 a2) k
  have nq1 : a1 ≠ a2 := own_sne F_value_a1 F_value_a2 V_c1 V_c2 (by decide)
  obtain ⟨T2, X2, e2, st2⟩ := instY X0 hx hZ hown (hw _ (List.mem_of_getElem? (i := 42) rfl)) e0 (Ins.self E_a2) (g := (mkF m 8 #[.val (.ref a1), .val (.ref a2), .unset] [(.ref a2)])) rfl rfl (hb hby d4003_8)
  obtain ⟨T3, X3, e3, st3⟩ := castY X2 hx hZ hown (hw _ (List.mem_of_getElem? (i := 42) rfl)) e2 (Ins.self E_a2) (g := (mkF m 15 #[.val (.ref a1), .val (.ref a2), .unset] [(.ref a2)])) rfl rfl (hb hby d4003_15)
  obtain ⟨T4, X4, e4, st4⟩ := getS2 X3 hx hZ hown (host := "") (Or.inl (hw _ (List.mem_of_getElem? (i := 44) rfl))) Via.refl e3 (S_COMPACT_STRINGS.ext X00.2) (g := (mkF m 19 #[.val (.ref a1), .val (.ref a2), .val (.ref a2)] [])) rfl (hb hby d4003_19)
  have pre5 : ∀ t, Steps p.tables e below (T4.setTop (mkF m 22 #[.val (.ref a1), .val (.ref a2), .val (.ref a2)] [(.int w_COMPACT_STRINGS)])) t → Steps p.tables e below (s₁.setTop (entryFrame m #[(.ref a1), (.ref a2)] 3)) t := fun t kt => by
    refine pre0 t ?_
    show Steps p.tables e below (s₁.setTop (mkF m 0 #[.val (.ref a1), .val (.ref a2), .unset] [])) _
    refine XS.aloadN X0.here hx rfl (hb hby d4003_0) rfl rfl ?_
    show Steps p.tables e below (s₁.setTop (mkF m 1 #[.val (.ref a1), .val (.ref a2), .unset] [(.ref a1)])) _
    refine XS.aloadN X0.here hx rfl (hb hby d4003_1) rfl rfl ?_
    show Steps p.tables e below (s₁.setTop (mkF m 2 #[.val (.ref a1), .val (.ref a2), .unset] [(.ref a2), (.ref a1)])) _
    refine Jvm.RoadKit.acmp (g := (mkF m 2 #[.val (.ref a1), .val (.ref a2), .unset] [(.ref a2), (.ref a1)])) X0 hx rfl rfl rfl (pc0 := 2) (pc' := 7) (same := false) rfl (hb hby d4003_2) rfl (decide_eq_false fun q => nq1 (Value.ref.inj q)) (by decide) (by decide) ?_
    show Steps p.tables e below (s₁.setTop (mkF m 7 #[.val (.ref a1), .val (.ref a2), .unset] [])) _
    refine XS.aloadN X0.here hx rfl (hb hby d4003_7) rfl rfl ?_
    show Steps p.tables e below (s₁.setTop (mkF m 8 #[.val (.ref a1), .val (.ref a2), .unset] [(.ref a2)])) _
    refine st2 _ ?_
    show Steps p.tables e below (T2.setTop (mkF m 11 #[.val (.ref a1), .val (.ref a2), .unset] [(.int (1 : Int32))])) _
    refine XS.ifNo X2.here hx rfl (hb hby d4003_11) rfl ((if0 _ _).trans (feq (by decide : ¬ ((1 : Int32) = (0 : Int32)))).1) ?_
    show Steps p.tables e below (T2.setTop (mkF m 14 #[.val (.ref a1), .val (.ref a2), .unset] [])) _
    refine XS.aloadN X2.here hx rfl (hb hby d4003_14) rfl rfl ?_
    show Steps p.tables e below (T2.setTop (mkF m 15 #[.val (.ref a1), .val (.ref a2), .unset] [(.ref a2)])) _
    refine st3 _ ?_
    show Steps p.tables e below (T3.setTop (mkF m 18 #[.val (.ref a1), .val (.ref a2), .unset] [(.ref a2)])) _
    refine XS.astoreN X3.here hx rfl (hb hby d4003_18) rfl rfl (l' := #[.val (.ref a1), .val (.ref a2), .val (.ref a2)]) rfl ?_
    show Steps p.tables e below (T3.setTop (mkF m 19 #[.val (.ref a1), .val (.ref a2), .val (.ref a2)] [])) _
    refine st4 _ ?_
    exact kt
  by_cases hc6 : w_COMPACT_STRINGS = (0 : Int32)
  · obtain ⟨T7, X7, e7, st7⟩ := getF X4 hx hZ hown (host := "") (Or.inl (hw _ (List.mem_of_getElem? (i := 46) rfl))) Via.refl e4 F_value_a1 (g := (mkF m 37 #[.val (.ref a1), .val (.ref a2), .val (.ref a2)] [(.ref a1)])) rfl rfl (hb hby d4003_37)
    obtain ⟨T8, X8, e8, st8⟩ := getF X7 hx hZ hown (host := "") (Or.inl (hw _ (List.mem_of_getElem? (i := 46) rfl))) Via.refl e7 F_value_a2 (g := (mkF m 41 #[.val (.ref a1), .val (.ref a2), .val (.ref a2)] [(.ref a2), (.ref c1)])) rfl rfl (hb hby d4003_41)
    obtain ⟨_, _, ⟨T9, L9, k9, n9⟩, -, X9, ⟨Lc9, hQ9, l9, y9, z9⟩, st9⟩ := Jvm.LawKit.callS X8 hx (y := (⟨"java/lang/StringLatin1", "equals", "([B[B)Z"⟩ : MethodName)) hown (mvT hZ (hw _ (List.mem_of_getElem? (i := 47) rfl))) (mvT hZ (hw _ (List.mem_of_getElem? (i := 48) rfl))) (mvT hZ (hw _ (List.mem_of_getElem? (i := 49) rfl))) (mvT hZ (hw _ (List.mem_of_getElem? (i := 50) rfl))) (by decide) (backOf (W := 0) (rm4 l Z a0 hw [] c1 c2 k_c1 (42 : Int32) k_c2 (47 : Int32) h0 n0 Z0 V_c1 V_c2) hZ (hw _ (List.mem_of_getElem? (i := 50) rfl)) (hw _ (List.mem_of_getElem? (i := 49) rfl)) (by decide) (by decide)) (g := (mkF m 44 #[.val (.ref a1), .val (.ref a2), .val (.ref a2)] [(.ref c2), (.ref c1)])) rfl (by rw [hml]; rfl) (argsL := [(.ref c1), (.ref c2)]) (rest := []) (lenOf pd_4003_3 rfl) rfl (by show 2 * 0 + _ ≤ _; exact Nat.le_of_eq rfl) (hb hby d4003_44) (fun _ _ => ⟨rfl, e8, (by decide : 0 + 0 ≤ _), (by decide : 0 + 0 ≤ _)⟩)
    dsimp only [Pt.U, Pt.locs, Pt.cells, Pt.slots] at X9 l9 y9 z9 st9 hQ9
    subst l9 y9 z9
    obtain ⟨rfl, N9q, e9⟩ := hQ9
    rw [show (F4 (42 : Int32) (47 : Int32)) = (0 : Int32) from by first | decide | (unfold F4; repeat' split) <;> first | rfl | simp_all] at st9
    have N9 := Fr.app N0 N9q
    obtain ⟨fs, hr, hrun, hended, hW, hsame⟩ := X9.leave (v := some (.int (0 : Int32))) (fun h => by rw [Bd.returns] at h; cases h)
    refine ⟨_, _, pre5 _ ?_, hrun, hended, _, _, rfl, ?_, ⟨_, rfl⟩, hW, hsame.mono (by decide) (by decide)⟩
    · show Steps p.tables e below (T4.setTop (mkF m 22 #[.val (.ref a1), .val (.ref a2), .val (.ref a2)] [(.int w_COMPACT_STRINGS)])) _
      refine XS.ifYes X4.here hx rfl (pc0 := 22) (pc' := 36) rfl (hb hby d4003_22) rfl ((if0 _ _).trans (teq hc6).1) (by decide) (by decide) ?_
      show Steps p.tables e below (T4.setTop (mkF m 36 #[.val (.ref a1), .val (.ref a2), .val (.ref a2)] [])) _
      refine XS.aloadN X4.here hx rfl (hb hby d4003_36) rfl rfl ?_
      show Steps p.tables e below (T4.setTop (mkF m 37 #[.val (.ref a1), .val (.ref a2), .val (.ref a2)] [(.ref a1)])) _
      refine st7 _ ?_
      show Steps p.tables e below (T7.setTop (mkF m 40 #[.val (.ref a1), .val (.ref a2), .val (.ref a2)] [(.ref c1)])) _
      refine XS.aloadN X7.here hx rfl (hb hby d4003_40) rfl rfl ?_
      show Steps p.tables e below (T7.setTop (mkF m 41 #[.val (.ref a1), .val (.ref a2), .val (.ref a2)] [(.ref a2), (.ref c1)])) _
      refine st8 _ ?_
      show Steps p.tables e below (T8.setTop (mkF m 44 #[.val (.ref a1), .val (.ref a2), .val (.ref a2)] [(.ref c2), (.ref c1)])) _
      refine st9 _ ?_
      show Steps p.tables e below (T9.setTop (mkF m 47 #[.val (.ref a1), .val (.ref a2), .val (.ref a2)] [(.int (0 : Int32))])) _
      refine XS.ifYes X9.here hx rfl (pc0 := 47) (pc' := 54) rfl (hb hby d4003_47) rfl ((if0 _ _).trans (teq (rfl : (0 : Int32) = (0 : Int32))).1) (by decide) (by decide) ?_
      show Steps p.tables e below (T9.setTop (mkF m 54 #[.val (.ref a1), .val (.ref a2), .val (.ref a2)] [])) _
      refine XS.iconst X9.here hx rfl (hb hby d4003_54) ?_
      show Steps p.tables e below (T9.setTop (mkF m 55 #[.val (.ref a1), .val (.ref a2), .val (.ref a2)] [(.int (0 : Int32))])) _
      exact retN X9 hx (t := .boolean) Bd.returns (by simp) (hb hby d4003_55) hr
    · show Q4003 Z a1 a2 c1 k_c1 c2 k_c2 w_COMPACT_STRINGS h0 n0 _ T9.heap _
      rw [e9]
      refine ⟨?_, N9, rfl⟩
      show (some (.int (0 : Int32)) : Option Value) = some (.int (F4003 w_COMPACT_STRINGS))
      rw [F4003, if_pos hc6]
  · obtain ⟨T10, X10, e10, st10⟩ := getF X4 hx hZ hown (host := "") (Or.inl (hw _ (List.mem_of_getElem? (i := 45) rfl))) Via.refl e4 F_coder_a1 (g := (mkF m 26 #[.val (.ref a1), .val (.ref a2), .val (.ref a2)] [(.ref a1)])) rfl rfl (hb hby d4003_26)
    obtain ⟨T11, X11, e11, st11⟩ := getF X10 hx hZ hown (host := "") (Or.inl (hw _ (List.mem_of_getElem? (i := 45) rfl))) Via.refl e10 F_coder_a2 (g := (mkF m 30 #[.val (.ref a1), .val (.ref a2), .val (.ref a2)] [(.ref a2), (.int (0 : Int32))])) rfl rfl (hb hby d4003_30)
    obtain ⟨T12, X12, e12, st12⟩ := getF X11 hx hZ hown (host := "") (Or.inl (hw _ (List.mem_of_getElem? (i := 46) rfl))) Via.refl e11 F_value_a1 (g := (mkF m 37 #[.val (.ref a1), .val (.ref a2), .val (.ref a2)] [(.ref a1)])) rfl rfl (hb hby d4003_37)
    obtain ⟨T13, X13, e13, st13⟩ := getF X12 hx hZ hown (host := "") (Or.inl (hw _ (List.mem_of_getElem? (i := 46) rfl))) Via.refl e12 F_value_a2 (g := (mkF m 41 #[.val (.ref a1), .val (.ref a2), .val (.ref a2)] [(.ref a2), (.ref c1)])) rfl rfl (hb hby d4003_41)
    obtain ⟨_, _, ⟨T14, L14, k14, n14⟩, -, X14, ⟨Lc14, hQ14, l14, y14, z14⟩, st14⟩ := Jvm.LawKit.callS X13 hx (y := (⟨"java/lang/StringLatin1", "equals", "([B[B)Z"⟩ : MethodName)) hown (mvT hZ (hw _ (List.mem_of_getElem? (i := 47) rfl))) (mvT hZ (hw _ (List.mem_of_getElem? (i := 48) rfl))) (mvT hZ (hw _ (List.mem_of_getElem? (i := 49) rfl))) (mvT hZ (hw _ (List.mem_of_getElem? (i := 50) rfl))) (by decide) (backOf (W := 0) (rm4 l Z a0 hw [] c1 c2 k_c1 (42 : Int32) k_c2 (47 : Int32) h0 n0 Z0 V_c1 V_c2) hZ (hw _ (List.mem_of_getElem? (i := 50) rfl)) (hw _ (List.mem_of_getElem? (i := 49) rfl)) (by decide) (by decide)) (g := (mkF m 44 #[.val (.ref a1), .val (.ref a2), .val (.ref a2)] [(.ref c2), (.ref c1)])) rfl (by rw [hml]; rfl) (argsL := [(.ref c1), (.ref c2)]) (rest := []) (lenOf pd_4003_3 rfl) rfl (by show 2 * 0 + _ ≤ _; exact Nat.le_of_eq rfl) (hb hby d4003_44) (fun _ _ => ⟨rfl, e13, (by decide : 0 + 0 ≤ _), (by decide : 0 + 0 ≤ _)⟩)
    dsimp only [Pt.U, Pt.locs, Pt.cells, Pt.slots] at X14 l14 y14 z14 st14 hQ14
    subst l14 y14 z14
    obtain ⟨rfl, N14q, e14⟩ := hQ14
    rw [show (F4 (42 : Int32) (47 : Int32)) = (0 : Int32) from by first | decide | (unfold F4; repeat' split) <;> first | rfl | simp_all] at st14
    have N14 := Fr.app N0 N14q
    obtain ⟨fs, hr, hrun, hended, hW, hsame⟩ := X14.leave (v := some (.int (0 : Int32))) (fun h => by rw [Bd.returns] at h; cases h)
    refine ⟨_, _, pre5 _ ?_, hrun, hended, _, _, rfl, ?_, ⟨_, rfl⟩, hW, hsame.mono (by decide) (by decide)⟩
    · show Steps p.tables e below (T4.setTop (mkF m 22 #[.val (.ref a1), .val (.ref a2), .val (.ref a2)] [(.int w_COMPACT_STRINGS)])) _
      refine XS.ifNo X4.here hx rfl (hb hby d4003_22) rfl ((if0 _ _).trans (feq hc6).1) ?_
      show Steps p.tables e below (T4.setTop (mkF m 25 #[.val (.ref a1), .val (.ref a2), .val (.ref a2)] [])) _
      refine XS.aloadN X4.here hx rfl (hb hby d4003_25) rfl rfl ?_
      show Steps p.tables e below (T4.setTop (mkF m 26 #[.val (.ref a1), .val (.ref a2), .val (.ref a2)] [(.ref a1)])) _
      refine st10 _ ?_
      show Steps p.tables e below (T10.setTop (mkF m 29 #[.val (.ref a1), .val (.ref a2), .val (.ref a2)] [(.int (0 : Int32))])) _
      refine XS.aloadN X10.here hx rfl (hb hby d4003_29) rfl rfl ?_
      show Steps p.tables e below (T10.setTop (mkF m 30 #[.val (.ref a1), .val (.ref a2), .val (.ref a2)] [(.ref a2), (.int (0 : Int32))])) _
      refine st11 _ ?_
      show Steps p.tables e below (T11.setTop (mkF m 33 #[.val (.ref a1), .val (.ref a2), .val (.ref a2)] [(.int (0 : Int32)), (.int (0 : Int32))])) _
      refine XS.icmpNo X11.here hx rfl (hb hby d4003_33) rfl (teq (rfl : (0 : Int32) = (0 : Int32))).2 ?_
      show Steps p.tables e below (T11.setTop (mkF m 36 #[.val (.ref a1), .val (.ref a2), .val (.ref a2)] [])) _
      refine XS.aloadN X11.here hx rfl (hb hby d4003_36) rfl rfl ?_
      show Steps p.tables e below (T11.setTop (mkF m 37 #[.val (.ref a1), .val (.ref a2), .val (.ref a2)] [(.ref a1)])) _
      refine st12 _ ?_
      show Steps p.tables e below (T12.setTop (mkF m 40 #[.val (.ref a1), .val (.ref a2), .val (.ref a2)] [(.ref c1)])) _
      refine XS.aloadN X12.here hx rfl (hb hby d4003_40) rfl rfl ?_
      show Steps p.tables e below (T12.setTop (mkF m 41 #[.val (.ref a1), .val (.ref a2), .val (.ref a2)] [(.ref a2), (.ref c1)])) _
      refine st13 _ ?_
      show Steps p.tables e below (T13.setTop (mkF m 44 #[.val (.ref a1), .val (.ref a2), .val (.ref a2)] [(.ref c2), (.ref c1)])) _
      refine st14 _ ?_
      show Steps p.tables e below (T14.setTop (mkF m 47 #[.val (.ref a1), .val (.ref a2), .val (.ref a2)] [(.int (0 : Int32))])) _
      refine XS.ifYes X14.here hx rfl (pc0 := 47) (pc' := 54) rfl (hb hby d4003_47) rfl ((if0 _ _).trans (teq (rfl : (0 : Int32) = (0 : Int32))).1) (by decide) (by decide) ?_
      show Steps p.tables e below (T14.setTop (mkF m 54 #[.val (.ref a1), .val (.ref a2), .val (.ref a2)] [])) _
      refine XS.iconst X14.here hx rfl (hb hby d4003_54) ?_
      show Steps p.tables e below (T14.setTop (mkF m 55 #[.val (.ref a1), .val (.ref a2), .val (.ref a2)] [(.int (0 : Int32))])) _
      exact retN X14 hx (t := .boolean) Bd.returns (by simp) (hb hby d4003_55) hr
    · show Q4003 Z a1 a2 c1 k_c1 c2 k_c2 w_COMPACT_STRINGS h0 n0 _ T14.heap _
      rw [e14]
      refine ⟨?_, N14, rfl⟩
      show (some (.int (0 : Int32)) : Option Value) = some (.int (F4003 w_COMPACT_STRINGS))
      rw [F4003, if_neg hc6]
theorem d5003_0 : decode jdk_42_method_66_code 0 = .ok (.aload_n 0, 1) := by decide +kernel
theorem d5003_1 : decode jdk_42_method_66_code 1 = .ok (.aload_n 1, 1) := by decide +kernel
theorem d5003_2 : decode jdk_42_method_66_code 2 = .ok (.if_acmp .ne 5, 3) := by decide +kernel
theorem d5003_7 : decode jdk_42_method_66_code 7 = .ok (.aload_n 1, 1) := by decide +kernel
theorem d5003_8 : decode jdk_42_method_66_code 8 = .ok (.instanceof 10, 3) := by decide +kernel
theorem d5003_11 : decode jdk_42_method_66_code 11 = .ok (.ifCond .eq 43, 3) := by decide +kernel
theorem d5003_14 : decode jdk_42_method_66_code 14 = .ok (.aload_n 1, 1) := by decide +kernel
theorem d5003_15 : decode jdk_42_method_66_code 15 = .ok (.checkcast 10, 3) := by decide +kernel
theorem d5003_18 : decode jdk_42_method_66_code 18 = .ok (.astore_n 2, 1) := by decide +kernel
theorem d5003_19 : decode jdk_42_method_66_code 19 = .ok (.getstatic 38, 3) := by decide +kernel
theorem d5003_22 : decode jdk_42_method_66_code 22 = .ok (.ifCond .eq 14, 3) := by decide +kernel
theorem d5003_25 : decode jdk_42_method_66_code 25 = .ok (.aload_n 0, 1) := by decide +kernel
theorem d5003_26 : decode jdk_42_method_66_code 26 = .ok (.getfield 15, 3) := by decide +kernel
theorem d5003_29 : decode jdk_42_method_66_code 29 = .ok (.aload_n 2, 1) := by decide +kernel
theorem d5003_30 : decode jdk_42_method_66_code 30 = .ok (.getfield 15, 3) := by decide +kernel
theorem d5003_33 : decode jdk_42_method_66_code 33 = .ok (.if_icmp .ne 21, 3) := by decide +kernel
theorem d5003_36 : decode jdk_42_method_66_code 36 = .ok (.aload_n 0, 1) := by decide +kernel
theorem d5003_37 : decode jdk_42_method_66_code 37 = .ok (.getfield 9, 3) := by decide +kernel
theorem d5003_40 : decode jdk_42_method_66_code 40 = .ok (.aload_n 2, 1) := by decide +kernel
theorem d5003_41 : decode jdk_42_method_66_code 41 = .ok (.getfield 9, 3) := by decide +kernel
theorem d5003_44 : decode jdk_42_method_66_code 44 = .ok (.invokestatic 541, 3) := by decide +kernel
theorem d5003_47 : decode jdk_42_method_66_code 47 = .ok (.ifCond .eq 7, 3) := by decide +kernel
theorem d5003_54 : decode jdk_42_method_66_code 54 = .ok (.iconst 0, 1) := by decide +kernel
theorem d5003_55 : decode jdk_42_method_66_code 55 = .ok (.ireturn, 1) := by decide +kernel
theorem pn_5003 : plainName "java/lang/String" = true := by first | (simp [plainName, overriddenIn]; done) | decide +kernel
theorem pd_5003_3 : parseMethodDescriptor "([B[B)Z" = some ⟨[(.array .byte), (.array .byte)], some .boolean⟩ := by decide +kernel
theorem ef_5003 (m : MethodId) (a1 : Addr) (a2 : Addr) : entryFrame m #[(.ref a1), (.ref a2)] 3 = mkF m 0 #[.val (.ref a1), .val (.ref a2), .unset] [] := by first | (simp [entryFrame, mkF, argsToLocals, Value.category]; done) | rfl
def F5003 (w_COMPACT_STRINGS : Int32) : Int32 := (if w_COMPACT_STRINGS = (0 : Int32) then (0 : Int32) else (0 : Int32))
def Q5003 (Z : State) (a1 : Addr) (a2 : Addr) (c1 : Addr) (k_c1 : ClassId) (c2 : Addr) (k_c2 : ClassId) (w_COMPACT_STRINGS : Int32) (h0 : Heap) (n0 : Nat) (v : Option Value) (h : Heap) (L : List Loc) : Prop := v = some (.int (F5003 w_COMPACT_STRINGS)) ∧ Fr n0 L ∧ h = h0
set_option maxRecDepth 65536 in
set_option maxHeartbeats 40000000 in
theorem rm5003 (l : Launch) (Z : State) (a0 : Array Value) (hw : ∀ d ∈ tables_1, d.before a0 Z = true) (ws : List Jvm.Cond) (a1 : Addr) (a2 : Addr) (c1 : Addr) (k_c1 : ClassId) (c2 : Addr) (k_c2 : ClassId) (w_COMPACT_STRINGS : Int32) (h0 : Heap) (n0 : Nat) (Z0 : n0 ≤ h0.size) (E_a1 : Exa Z h0 a1 "java/lang/String") (F_coder_a1 : Fld Z h0 a1 "java/lang/String" "coder" "B" (.int (0 : Int32))) (F_value_a1 : Fld Z h0 a1 "java/lang/String" "value" "[B" (.ref c1)) (V_c1 : Arv Z h0 c1 k_c1 .byte (1 : Int32) [(.int (42 : Int32))] (.int (0 : Int32))) (E_a2 : Exa Z h0 a2 "java/lang/String") (F_coder_a2 : Fld Z h0 a2 "java/lang/String" "coder" "B" (.int (0 : Int32))) (F_value_a2 : Fld Z h0 a2 "java/lang/String" "value" "[B" (.ref c2)) (V_c2 : Arv Z h0 c2 k_c2 .byte (1 : Int32) [(.int (37 : Int32))] (.int (0 : Int32))) (S_COMPACT_STRINGS : Sta Z Z.heap "java/lang/String" "COMPACT_STRINGS" "Z" (.int w_COMPACT_STRINGS)) (X00 : Old Z n0 h0) :
    MetFree l (⟨"java/lang/String", "equals", "(Ljava/lang/Object;)Z"⟩ : MethodName) (head1 (Jvm.Cond.code (⟨"java/lang/String", "equals", "(Ljava/lang/Object;)Z"⟩ : MethodName) jdk_42_method_66_code 3 (some .boolean) :: ws) ({ frames := 1, cells := 0, slots := 0, locals := 14 } : Room)) (fun a U => a = #[(.ref a1), (.ref a2)] ∧ Z.Warmed39 U.vm ∧ U.heap = h0) (fun _ _ _ _ _ => True) (fun _ U o U' => ∃ v L, o = .returned v ∧ Q5003 Z a1 a2 c1 k_c1 c2 k_c2 w_COMPACT_STRINGS h0 n0 v U'.heap L ∧ FrameEnd U o U' L ({ frames := 1, cells := 0, slots := 0, locals := 14 } : Room).cells ({ frames := 1, cells := 0, slots := 0, locals := 14 } : Room).slots) := by
  refine MetFree.of_bodySF (plainFor_of_name pn_5003) hisR ?_
  intro p e s m args below meth c s₁ Bd hml0 hP hK
  obtain ⟨rfl, hZ, hh⟩ := hP
  skip
  skip
  skip
  skip
  skip
  skip
  have hx := Bd.exec
  have hby := Bd.bytes
  have hml : c.maxLocals = 3 := hml0
  have hown : s.vm.findClass "java/lang/String" = some m.cls := findClass_of_methodNamed Bd.named
  have hnm := (name_of_methodNamed Bd.named Bd.method).1
  have X0 : Stand p l e ({ frames := 1, cells := 0, slots := 0, locals := 14 } : Room) s m #[(.ref a1), (.ref a2)] below meth c s₁ [] 0 0 := Stand.of_body Bd
  have e0 : s₁.heap = h0 := by rw [← hh, Bd.state]; rfl
  have N0 := Fr.nil n0
  have pre0 : ∀ t, Steps p.tables e below (s₁.setTop (mkF m 0 #[.val (.ref a1), .val (.ref a2), .unset] [])) t → Steps p.tables e below (s₁.setTop (entryFrame m #[(.ref a1), (.ref a2)] 3)) t := fun t k => castTop (ef_5003 m a1 a2) k
  have nq1 : a1 ≠ a2 := own_sne F_value_a1 F_value_a2 V_c1 V_c2 (by decide)
  obtain ⟨T2, X2, e2, st2⟩ := instY X0 hx hZ hown (hw _ (List.mem_of_getElem? (i := 42) rfl)) e0 (Ins.self E_a2) (g := (mkF m 8 #[.val (.ref a1), .val (.ref a2), .unset] [(.ref a2)])) rfl rfl (hb hby d5003_8)
  obtain ⟨T3, X3, e3, st3⟩ := castY X2 hx hZ hown (hw _ (List.mem_of_getElem? (i := 42) rfl)) e2 (Ins.self E_a2) (g := (mkF m 15 #[.val (.ref a1), .val (.ref a2), .unset] [(.ref a2)])) rfl rfl (hb hby d5003_15)
  obtain ⟨T4, X4, e4, st4⟩ := getS2 X3 hx hZ hown (host := "") (Or.inl (hw _ (List.mem_of_getElem? (i := 44) rfl))) Via.refl e3 (S_COMPACT_STRINGS.ext X00.2) (g := (mkF m 19 #[.val (.ref a1), .val (.ref a2), .val (.ref a2)] [])) rfl (hb hby d5003_19)
  have pre5 : ∀ t, Steps p.tables e below (T4.setTop (mkF m 22 #[.val (.ref a1), .val (.ref a2), .val (.ref a2)] [(.int w_COMPACT_STRINGS)])) t → Steps p.tables e below (s₁.setTop (entryFrame m #[(.ref a1), (.ref a2)] 3)) t := fun t kt => by
    refine pre0 t ?_
    show Steps p.tables e below (s₁.setTop (mkF m 0 #[.val (.ref a1), .val (.ref a2), .unset] [])) _
    refine XS.aloadN X0.here hx rfl (hb hby d5003_0) rfl rfl ?_
    show Steps p.tables e below (s₁.setTop (mkF m 1 #[.val (.ref a1), .val (.ref a2), .unset] [(.ref a1)])) _
    refine XS.aloadN X0.here hx rfl (hb hby d5003_1) rfl rfl ?_
    show Steps p.tables e below (s₁.setTop (mkF m 2 #[.val (.ref a1), .val (.ref a2), .unset] [(.ref a2), (.ref a1)])) _
    refine Jvm.RoadKit.acmp (g := (mkF m 2 #[.val (.ref a1), .val (.ref a2), .unset] [(.ref a2), (.ref a1)])) X0 hx rfl rfl rfl (pc0 := 2) (pc' := 7) (same := false) rfl (hb hby d5003_2) rfl (decide_eq_false fun q => nq1 (Value.ref.inj q)) (by decide) (by decide) ?_
    show Steps p.tables e below (s₁.setTop (mkF m 7 #[.val (.ref a1), .val (.ref a2), .unset] [])) _
    refine XS.aloadN X0.here hx rfl (hb hby d5003_7) rfl rfl ?_
    show Steps p.tables e below (s₁.setTop (mkF m 8 #[.val (.ref a1), .val (.ref a2), .unset] [(.ref a2)])) _
    refine st2 _ ?_
    show Steps p.tables e below (T2.setTop (mkF m 11 #[.val (.ref a1), .val (.ref a2), .unset] [(.int (1 : Int32))])) _
    refine XS.ifNo X2.here hx rfl (hb hby d5003_11) rfl ((if0 _ _).trans (feq (by decide : ¬ ((1 : Int32) = (0 : Int32)))).1) ?_
    show Steps p.tables e below (T2.setTop (mkF m 14 #[.val (.ref a1), .val (.ref a2), .unset] [])) _
    refine XS.aloadN X2.here hx rfl (hb hby d5003_14) rfl rfl ?_
    show Steps p.tables e below (T2.setTop (mkF m 15 #[.val (.ref a1), .val (.ref a2), .unset] [(.ref a2)])) _
    refine st3 _ ?_
    show Steps p.tables e below (T3.setTop (mkF m 18 #[.val (.ref a1), .val (.ref a2), .unset] [(.ref a2)])) _
    refine XS.astoreN X3.here hx rfl (hb hby d5003_18) rfl rfl (l' := #[.val (.ref a1), .val (.ref a2), .val (.ref a2)]) rfl ?_
    show Steps p.tables e below (T3.setTop (mkF m 19 #[.val (.ref a1), .val (.ref a2), .val (.ref a2)] [])) _
    refine st4 _ ?_
    exact kt
  by_cases hc6 : w_COMPACT_STRINGS = (0 : Int32)
  · obtain ⟨T7, X7, e7, st7⟩ := getF X4 hx hZ hown (host := "") (Or.inl (hw _ (List.mem_of_getElem? (i := 46) rfl))) Via.refl e4 F_value_a1 (g := (mkF m 37 #[.val (.ref a1), .val (.ref a2), .val (.ref a2)] [(.ref a1)])) rfl rfl (hb hby d5003_37)
    obtain ⟨T8, X8, e8, st8⟩ := getF X7 hx hZ hown (host := "") (Or.inl (hw _ (List.mem_of_getElem? (i := 46) rfl))) Via.refl e7 F_value_a2 (g := (mkF m 41 #[.val (.ref a1), .val (.ref a2), .val (.ref a2)] [(.ref a2), (.ref c1)])) rfl rfl (hb hby d5003_41)
    obtain ⟨_, _, ⟨T9, L9, k9, n9⟩, -, X9, ⟨Lc9, hQ9, l9, y9, z9⟩, st9⟩ := Jvm.LawKit.callS X8 hx (y := (⟨"java/lang/StringLatin1", "equals", "([B[B)Z"⟩ : MethodName)) hown (mvT hZ (hw _ (List.mem_of_getElem? (i := 47) rfl))) (mvT hZ (hw _ (List.mem_of_getElem? (i := 48) rfl))) (mvT hZ (hw _ (List.mem_of_getElem? (i := 49) rfl))) (mvT hZ (hw _ (List.mem_of_getElem? (i := 50) rfl))) (by decide) (backOf (W := 0) (rm4 l Z a0 hw [] c1 c2 k_c1 (42 : Int32) k_c2 (37 : Int32) h0 n0 Z0 V_c1 V_c2) hZ (hw _ (List.mem_of_getElem? (i := 50) rfl)) (hw _ (List.mem_of_getElem? (i := 49) rfl)) (by decide) (by decide)) (g := (mkF m 44 #[.val (.ref a1), .val (.ref a2), .val (.ref a2)] [(.ref c2), (.ref c1)])) rfl (by rw [hml]; rfl) (argsL := [(.ref c1), (.ref c2)]) (rest := []) (lenOf pd_5003_3 rfl) rfl (by show 2 * 0 + _ ≤ _; exact Nat.le_of_eq rfl) (hb hby d5003_44) (fun _ _ => ⟨rfl, e8, (by decide : 0 + 0 ≤ _), (by decide : 0 + 0 ≤ _)⟩)
    dsimp only [Pt.U, Pt.locs, Pt.cells, Pt.slots] at X9 l9 y9 z9 st9 hQ9
    subst l9 y9 z9
    obtain ⟨rfl, N9q, e9⟩ := hQ9
    rw [show (F4 (42 : Int32) (37 : Int32)) = (0 : Int32) from by first | decide | (unfold F4; repeat' split) <;> first | rfl | simp_all] at st9
    have N9 := Fr.app N0 N9q
    obtain ⟨fs, hr, hrun, hended, hW, hsame⟩ := X9.leave (v := some (.int (0 : Int32))) (fun h => by rw [Bd.returns] at h; cases h)
    refine ⟨_, _, pre5 _ ?_, hrun, hended, _, _, rfl, ?_, ⟨_, rfl⟩, hW, hsame.mono (by decide) (by decide)⟩
    · show Steps p.tables e below (T4.setTop (mkF m 22 #[.val (.ref a1), .val (.ref a2), .val (.ref a2)] [(.int w_COMPACT_STRINGS)])) _
      refine XS.ifYes X4.here hx rfl (pc0 := 22) (pc' := 36) rfl (hb hby d5003_22) rfl ((if0 _ _).trans (teq hc6).1) (by decide) (by decide) ?_
      show Steps p.tables e below (T4.setTop (mkF m 36 #[.val (.ref a1), .val (.ref a2), .val (.ref a2)] [])) _
      refine XS.aloadN X4.here hx rfl (hb hby d5003_36) rfl rfl ?_
      show Steps p.tables e below (T4.setTop (mkF m 37 #[.val (.ref a1), .val (.ref a2), .val (.ref a2)] [(.ref a1)])) _
      refine st7 _ ?_
      show Steps p.tables e below (T7.setTop (mkF m 40 #[.val (.ref a1), .val (.ref a2), .val (.ref a2)] [(.ref c1)])) _
      refine XS.aloadN X7.here hx rfl (hb hby d5003_40) rfl rfl ?_
      show Steps p.tables e below (T7.setTop (mkF m 41 #[.val (.ref a1), .val (.ref a2), .val (.ref a2)] [(.ref a2), (.ref c1)])) _
      refine st8 _ ?_
      show Steps p.tables e below (T8.setTop (mkF m 44 #[.val (.ref a1), .val (.ref a2), .val (.ref a2)] [(.ref c2), (.ref c1)])) _
      refine st9 _ ?_
      show Steps p.tables e below (T9.setTop (mkF m 47 #[.val (.ref a1), .val (.ref a2), .val (.ref a2)] [(.int (0 : Int32))])) _
      refine XS.ifYes X9.here hx rfl (pc0 := 47) (pc' := 54) rfl (hb hby d5003_47) rfl ((if0 _ _).trans (teq (rfl : (0 : Int32) = (0 : Int32))).1) (by decide) (by decide) ?_
      show Steps p.tables e below (T9.setTop (mkF m 54 #[.val (.ref a1), .val (.ref a2), .val (.ref a2)] [])) _
      refine XS.iconst X9.here hx rfl (hb hby d5003_54) ?_
      show Steps p.tables e below (T9.setTop (mkF m 55 #[.val (.ref a1), .val (.ref a2), .val (.ref a2)] [(.int (0 : Int32))])) _
      exact retN X9 hx (t := .boolean) Bd.returns (by simp) (hb hby d5003_55) hr
    · show Q5003 Z a1 a2 c1 k_c1 c2 k_c2 w_COMPACT_STRINGS h0 n0 _ T9.heap _
      rw [e9]
      refine ⟨?_, N9, rfl⟩
      show (some (.int (0 : Int32)) : Option Value) = some (.int (F5003 w_COMPACT_STRINGS))
      rw [F5003, if_pos hc6]
  · obtain ⟨T10, X10, e10, st10⟩ := getF X4 hx hZ hown (host := "") (Or.inl (hw _ (List.mem_of_getElem? (i := 45) rfl))) Via.refl e4 F_coder_a1 (g := (mkF m 26 #[.val (.ref a1), .val (.ref a2), .val (.ref a2)] [(.ref a1)])) rfl rfl (hb hby d5003_26)
    obtain ⟨T11, X11, e11, st11⟩ := getF X10 hx hZ hown (host := "") (Or.inl (hw _ (List.mem_of_getElem? (i := 45) rfl))) Via.refl e10 F_coder_a2 (g := (mkF m 30 #[.val (.ref a1), .val (.ref a2), .val (.ref a2)] [(.ref a2), (.int (0 : Int32))])) rfl rfl (hb hby d5003_30)
    obtain ⟨T12, X12, e12, st12⟩ := getF X11 hx hZ hown (host := "") (Or.inl (hw _ (List.mem_of_getElem? (i := 46) rfl))) Via.refl e11 F_value_a1 (g := (mkF m 37 #[.val (.ref a1), .val (.ref a2), .val (.ref a2)] [(.ref a1)])) rfl rfl (hb hby d5003_37)
    obtain ⟨T13, X13, e13, st13⟩ := getF X12 hx hZ hown (host := "") (Or.inl (hw _ (List.mem_of_getElem? (i := 46) rfl))) Via.refl e12 F_value_a2 (g := (mkF m 41 #[.val (.ref a1), .val (.ref a2), .val (.ref a2)] [(.ref a2), (.ref c1)])) rfl rfl (hb hby d5003_41)
    obtain ⟨_, _, ⟨T14, L14, k14, n14⟩, -, X14, ⟨Lc14, hQ14, l14, y14, z14⟩, st14⟩ := Jvm.LawKit.callS X13 hx (y := (⟨"java/lang/StringLatin1", "equals", "([B[B)Z"⟩ : MethodName)) hown (mvT hZ (hw _ (List.mem_of_getElem? (i := 47) rfl))) (mvT hZ (hw _ (List.mem_of_getElem? (i := 48) rfl))) (mvT hZ (hw _ (List.mem_of_getElem? (i := 49) rfl))) (mvT hZ (hw _ (List.mem_of_getElem? (i := 50) rfl))) (by decide) (backOf (W := 0) (rm4 l Z a0 hw [] c1 c2 k_c1 (42 : Int32) k_c2 (37 : Int32) h0 n0 Z0 V_c1 V_c2) hZ (hw _ (List.mem_of_getElem? (i := 50) rfl)) (hw _ (List.mem_of_getElem? (i := 49) rfl)) (by decide) (by decide)) (g := (mkF m 44 #[.val (.ref a1), .val (.ref a2), .val (.ref a2)] [(.ref c2), (.ref c1)])) rfl (by rw [hml]; rfl) (argsL := [(.ref c1), (.ref c2)]) (rest := []) (lenOf pd_5003_3 rfl) rfl (by show 2 * 0 + _ ≤ _; exact Nat.le_of_eq rfl) (hb hby d5003_44) (fun _ _ => ⟨rfl, e13, (by decide : 0 + 0 ≤ _), (by decide : 0 + 0 ≤ _)⟩)
    dsimp only [Pt.U, Pt.locs, Pt.cells, Pt.slots] at X14 l14 y14 z14 st14 hQ14
    subst l14 y14 z14
    obtain ⟨rfl, N14q, e14⟩ := hQ14
    rw [show (F4 (42 : Int32) (37 : Int32)) = (0 : Int32) from by first | decide | (unfold F4; repeat' split) <;> first | rfl | simp_all] at st14
    have N14 := Fr.app N0 N14q
    obtain ⟨fs, hr, hrun, hended, hW, hsame⟩ := X14.leave (v := some (.int (0 : Int32))) (fun h => by rw [Bd.returns] at h; cases h)
    refine ⟨_, _, pre5 _ ?_, hrun, hended, _, _, rfl, ?_, ⟨_, rfl⟩, hW, hsame.mono (by decide) (by decide)⟩
    · show Steps p.tables e below (T4.setTop (mkF m 22 #[.val (.ref a1), .val (.ref a2), .val (.ref a2)] [(.int w_COMPACT_STRINGS)])) _
      refine XS.ifNo X4.here hx rfl (hb hby d5003_22) rfl ((if0 _ _).trans (feq hc6).1) ?_
      show Steps p.tables e below (T4.setTop (mkF m 25 #[.val (.ref a1), .val (.ref a2), .val (.ref a2)] [])) _
      refine XS.aloadN X4.here hx rfl (hb hby d5003_25) rfl rfl ?_
      show Steps p.tables e below (T4.setTop (mkF m 26 #[.val (.ref a1), .val (.ref a2), .val (.ref a2)] [(.ref a1)])) _
      refine st10 _ ?_
      show Steps p.tables e below (T10.setTop (mkF m 29 #[.val (.ref a1), .val (.ref a2), .val (.ref a2)] [(.int (0 : Int32))])) _
      refine XS.aloadN X10.here hx rfl (hb hby d5003_29) rfl rfl ?_
      show Steps p.tables e below (T10.setTop (mkF m 30 #[.val (.ref a1), .val (.ref a2), .val (.ref a2)] [(.ref a2), (.int (0 : Int32))])) _
      refine st11 _ ?_
      show Steps p.tables e below (T11.setTop (mkF m 33 #[.val (.ref a1), .val (.ref a2), .val (.ref a2)] [(.int (0 : Int32)), (.int (0 : Int32))])) _
      refine XS.icmpNo X11.here hx rfl (hb hby d5003_33) rfl (teq (rfl : (0 : Int32) = (0 : Int32))).2 ?_
      show Steps p.tables e below (T11.setTop (mkF m 36 #[.val (.ref a1), .val (.ref a2), .val (.ref a2)] [])) _
      refine XS.aloadN X11.here hx rfl (hb hby d5003_36) rfl rfl ?_
      show Steps p.tables e below (T11.setTop (mkF m 37 #[.val (.ref a1), .val (.ref a2), .val (.ref a2)] [(.ref a1)])) _
      refine st12 _ ?_
      show Steps p.tables e below (T12.setTop (mkF m 40 #[.val (.ref a1), .val (.ref a2), .val (.ref a2)] [(.ref c1)])) _
      refine XS.aloadN X12.here hx rfl (hb hby d5003_40) rfl rfl ?_
      show Steps p.tables e below (T12.setTop (mkF m 41 #[.val (.ref a1), .val (.ref a2), .val (.ref a2)] [(.ref a2), (.ref c1)])) _
      refine st13 _ ?_
      show Steps p.tables e below (T13.setTop (mkF m 44 #[.val (.ref a1), .val (.ref a2), .val (.ref a2)] [(.ref c2), (.ref c1)])) _
      refine st14 _ ?_
      show Steps p.tables e below (T14.setTop (mkF m 47 #[.val (.ref a1), .val (.ref a2), .val (.ref a2)] [(.int (0 : Int32))])) _
      refine XS.ifYes X14.here hx rfl (pc0 := 47) (pc' := 54) rfl (hb hby d5003_47) rfl ((if0 _ _).trans (teq (rfl : (0 : Int32) = (0 : Int32))).1) (by decide) (by decide) ?_
      show Steps p.tables e below (T14.setTop (mkF m 54 #[.val (.ref a1), .val (.ref a2), .val (.ref a2)] [])) _
      refine XS.iconst X14.here hx rfl (hb hby d5003_54) ?_
      show Steps p.tables e below (T14.setTop (mkF m 55 #[.val (.ref a1), .val (.ref a2), .val (.ref a2)] [(.int (0 : Int32))])) _
      exact retN X14 hx (t := .boolean) Bd.returns (by simp) (hb hby d5003_55) hr
    · show Q5003 Z a1 a2 c1 k_c1 c2 k_c2 w_COMPACT_STRINGS h0 n0 _ T14.heap _
      rw [e14]
      refine ⟨?_, N14, rfl⟩
      show (some (.int (0 : Int32)) : Option Value) = some (.int (F5003 w_COMPACT_STRINGS))
      rw [F5003, if_neg hc6]
theorem d6003_0 : decode jdk_42_method_66_code 0 = .ok (.aload_n 0, 1) := by decide +kernel
theorem d6003_1 : decode jdk_42_method_66_code 1 = .ok (.aload_n 1, 1) := by decide +kernel
theorem d6003_2 : decode jdk_42_method_66_code 2 = .ok (.if_acmp .ne 5, 3) := by decide +kernel
theorem d6003_5 : decode jdk_42_method_66_code 5 = .ok (.iconst 1, 1) := by decide +kernel
theorem d6003_6 : decode jdk_42_method_66_code 6 = .ok (.ireturn, 1) := by decide +kernel
theorem d6003_7 : decode jdk_42_method_66_code 7 = .ok (.aload_n 1, 1) := by decide +kernel
theorem d6003_8 : decode jdk_42_method_66_code 8 = .ok (.instanceof 10, 3) := by decide +kernel
theorem d6003_11 : decode jdk_42_method_66_code 11 = .ok (.ifCond .eq 43, 3) := by decide +kernel
theorem d6003_14 : decode jdk_42_method_66_code 14 = .ok (.aload_n 1, 1) := by decide +kernel
theorem d6003_15 : decode jdk_42_method_66_code 15 = .ok (.checkcast 10, 3) := by decide +kernel
theorem d6003_18 : decode jdk_42_method_66_code 18 = .ok (.astore_n 2, 1) := by decide +kernel
theorem d6003_19 : decode jdk_42_method_66_code 19 = .ok (.getstatic 38, 3) := by decide +kernel
theorem d6003_22 : decode jdk_42_method_66_code 22 = .ok (.ifCond .eq 14, 3) := by decide +kernel
theorem d6003_25 : decode jdk_42_method_66_code 25 = .ok (.aload_n 0, 1) := by decide +kernel
theorem d6003_26 : decode jdk_42_method_66_code 26 = .ok (.getfield 15, 3) := by decide +kernel
theorem d6003_29 : decode jdk_42_method_66_code 29 = .ok (.aload_n 2, 1) := by decide +kernel
theorem d6003_30 : decode jdk_42_method_66_code 30 = .ok (.getfield 15, 3) := by decide +kernel
theorem d6003_33 : decode jdk_42_method_66_code 33 = .ok (.if_icmp .ne 21, 3) := by decide +kernel
theorem d6003_36 : decode jdk_42_method_66_code 36 = .ok (.aload_n 0, 1) := by decide +kernel
theorem d6003_37 : decode jdk_42_method_66_code 37 = .ok (.getfield 9, 3) := by decide +kernel
theorem d6003_40 : decode jdk_42_method_66_code 40 = .ok (.aload_n 2, 1) := by decide +kernel
theorem d6003_41 : decode jdk_42_method_66_code 41 = .ok (.getfield 9, 3) := by decide +kernel
theorem d6003_44 : decode jdk_42_method_66_code 44 = .ok (.invokestatic 541, 3) := by decide +kernel
theorem d6003_47 : decode jdk_42_method_66_code 47 = .ok (.ifCond .eq 7, 3) := by decide +kernel
theorem d6003_50 : decode jdk_42_method_66_code 50 = .ok (.iconst 1, 1) := by decide +kernel
theorem d6003_51 : decode jdk_42_method_66_code 51 = .ok (.goto 4, 3) := by decide +kernel
theorem d6003_55 : decode jdk_42_method_66_code 55 = .ok (.ireturn, 1) := by decide +kernel
theorem pn_6003 : plainName "java/lang/String" = true := by first | (simp [plainName, overriddenIn]; done) | decide +kernel
theorem pd_6003_3 : parseMethodDescriptor "([B[B)Z" = some ⟨[(.array .byte), (.array .byte)], some .boolean⟩ := by decide +kernel
theorem ef_6003 (m : MethodId) (a1 : Addr) (a2 : Addr) : entryFrame m #[(.ref a1), (.ref a2)] 3 = mkF m 0 #[.val (.ref a1), .val (.ref a2), .unset] [] := by first | (simp [entryFrame, mkF, argsToLocals, Value.category]; done) | rfl
def F6003 (a1 : Addr) (a2 : Addr) (w_COMPACT_STRINGS : Int32) : Int32 := (if a1 = a2 then (1 : Int32) else (if w_COMPACT_STRINGS = (0 : Int32) then (1 : Int32) else (1 : Int32)))
def Q6003 (Z : State) (a1 : Addr) (a2 : Addr) (c1 : Addr) (k_c1 : ClassId) (c2 : Addr) (k_c2 : ClassId) (w_COMPACT_STRINGS : Int32) (h0 : Heap) (n0 : Nat) (v : Option Value) (h : Heap) (L : List Loc) : Prop := v = some (.int (F6003 a1 a2 w_COMPACT_STRINGS)) ∧ Fr n0 L ∧ h = h0
set_option maxRecDepth 65536 in
set_option maxHeartbeats 40000000 in
theorem rm6003 (l : Launch) (Z : State) (a0 : Array Value) (hw : ∀ d ∈ tables_1, d.before a0 Z = true) (ws : List Jvm.Cond) (a1 : Addr) (a2 : Addr) (c1 : Addr) (k_c1 : ClassId) (c2 : Addr) (k_c2 : ClassId) (w_COMPACT_STRINGS : Int32) (h0 : Heap) (n0 : Nat) (Z0 : n0 ≤ h0.size) (E_a1 : Exa Z h0 a1 "java/lang/String") (F_coder_a1 : Fld Z h0 a1 "java/lang/String" "coder" "B" (.int (0 : Int32))) (F_value_a1 : Fld Z h0 a1 "java/lang/String" "value" "[B" (.ref c1)) (V_c1 : Arv Z h0 c1 k_c1 .byte (1 : Int32) [(.int (47 : Int32))] (.int (0 : Int32))) (E_a2 : Exa Z h0 a2 "java/lang/String") (F_coder_a2 : Fld Z h0 a2 "java/lang/String" "coder" "B" (.int (0 : Int32))) (F_value_a2 : Fld Z h0 a2 "java/lang/String" "value" "[B" (.ref c2)) (V_c2 : Arv Z h0 c2 k_c2 .byte (1 : Int32) [(.int (47 : Int32))] (.int (0 : Int32))) (S_COMPACT_STRINGS : Sta Z Z.heap "java/lang/String" "COMPACT_STRINGS" "Z" (.int w_COMPACT_STRINGS)) (X00 : Old Z n0 h0) :
    MetFree l (⟨"java/lang/String", "equals", "(Ljava/lang/Object;)Z"⟩ : MethodName) (head1 (Jvm.Cond.code (⟨"java/lang/String", "equals", "(Ljava/lang/Object;)Z"⟩ : MethodName) jdk_42_method_66_code 3 (some .boolean) :: ws) ({ frames := 1, cells := 0, slots := 0, locals := 14 } : Room)) (fun a U => a = #[(.ref a1), (.ref a2)] ∧ Z.Warmed39 U.vm ∧ U.heap = h0) (fun _ _ _ _ _ => True) (fun _ U o U' => ∃ v L, o = .returned v ∧ Q6003 Z a1 a2 c1 k_c1 c2 k_c2 w_COMPACT_STRINGS h0 n0 v U'.heap L ∧ FrameEnd U o U' L ({ frames := 1, cells := 0, slots := 0, locals := 14 } : Room).cells ({ frames := 1, cells := 0, slots := 0, locals := 14 } : Room).slots) := by
  refine MetFree.of_bodySF (plainFor_of_name pn_6003) hisR ?_
  intro p e s m args below meth c s₁ Bd hml0 hP hK
  obtain ⟨rfl, hZ, hh⟩ := hP
  skip
  skip
  skip
  skip
  skip
  skip
  have hx := Bd.exec
  have hby := Bd.bytes
  have hml : c.maxLocals = 3 := hml0
  have hown : s.vm.findClass "java/lang/String" = some m.cls := findClass_of_methodNamed Bd.named
  have hnm := (name_of_methodNamed Bd.named Bd.method).1
  have X0 : Stand p l e ({ frames := 1, cells := 0, slots := 0, locals := 14 } : Room) s m #[(.ref a1), (.ref a2)] below meth c s₁ [] 0 0 := Stand.of_body Bd
  have e0 : s₁.heap = h0 := by rw [← hh, Bd.state]; rfl
  have N0 := Fr.nil n0
  have pre0 : ∀ t, Steps p.tables e below (s₁.setTop (mkF m 0 #[.val (.ref a1), .val (.ref a2), .unset] [])) t → Steps p.tables e below (s₁.setTop (entryFrame m #[(.ref a1), (.ref a2)] 3)) t := fun t k => castTop (ef_6003 m a1 a2) k
  have pre1 : ∀ t, Steps p.tables e below (s₁.setTop (mkF m 2 #[.val (.ref a1), .val (.ref a2), .unset] [(.ref a2), (.ref a1)])) t → Steps p.tables e below (s₁.setTop (entryFrame m #[(.ref a1), (.ref a2)] 3)) t := fun t kt => by
    refine pre0 t ?_
    show Steps p.tables e below (s₁.setTop (mkF m 0 #[.val (.ref a1), .val (.ref a2), .unset] [])) _
    refine XS.aloadN X0.here hx rfl (hb hby d6003_0) rfl rfl ?_
    show Steps p.tables e below (s₁.setTop (mkF m 1 #[.val (.ref a1), .val (.ref a2), .unset] [(.ref a1)])) _
    refine XS.aloadN X0.here hx rfl (hb hby d6003_1) rfl rfl ?_
    exact kt
  by_cases hc2 : a1 = a2
  · obtain ⟨fs, hr, hrun, hended, hW, hsame⟩ := X0.leave (v := some (.int (1 : Int32))) (fun h => by rw [Bd.returns] at h; cases h)
    refine ⟨_, _, pre1 _ ?_, hrun, hended, _, _, rfl, ?_, ⟨_, rfl⟩, hW, hsame.mono (by decide) (by decide)⟩
    · show Steps p.tables e below (s₁.setTop (mkF m 2 #[.val (.ref a1), .val (.ref a2), .unset] [(.ref a2), (.ref a1)])) _
      refine Jvm.RoadKit.acmp (g := (mkF m 2 #[.val (.ref a1), .val (.ref a2), .unset] [(.ref a2), (.ref a1)])) X0 hx rfl rfl rfl (pc0 := 2) (pc' := 5) (same := true) rfl (hb hby d6003_2) rfl (decide_eq_true (congrArg Value.ref hc2)) (by decide) (by decide) ?_
      show Steps p.tables e below (s₁.setTop (mkF m 5 #[.val (.ref a1), .val (.ref a2), .unset] [])) _
      refine XS.iconst X0.here hx rfl (hb hby d6003_5) ?_
      show Steps p.tables e below (s₁.setTop (mkF m 6 #[.val (.ref a1), .val (.ref a2), .unset] [(.int (1 : Int32))])) _
      exact retN X0 hx (t := .boolean) Bd.returns (by simp) (hb hby d6003_6) hr
    · show Q6003 Z a1 a2 c1 k_c1 c2 k_c2 w_COMPACT_STRINGS h0 n0 _ s₁.heap _
      rw [e0]
      refine ⟨?_, N0, rfl⟩
      show (some (.int (1 : Int32)) : Option Value) = some (.int (F6003 a1 a2 w_COMPACT_STRINGS))
      rw [F6003, if_pos hc2]
  · obtain ⟨T3, X3, e3, st3⟩ := instY X0 hx hZ hown (hw _ (List.mem_of_getElem? (i := 42) rfl)) e0 (Ins.self E_a2) (g := (mkF m 8 #[.val (.ref a1), .val (.ref a2), .unset] [(.ref a2)])) rfl rfl (hb hby d6003_8)
    obtain ⟨T4, X4, e4, st4⟩ := castY X3 hx hZ hown (hw _ (List.mem_of_getElem? (i := 42) rfl)) e3 (Ins.self E_a2) (g := (mkF m 15 #[.val (.ref a1), .val (.ref a2), .unset] [(.ref a2)])) rfl rfl (hb hby d6003_15)
    obtain ⟨T5, X5, e5, st5⟩ := getS2 X4 hx hZ hown (host := "") (Or.inl (hw _ (List.mem_of_getElem? (i := 44) rfl))) Via.refl e4 (S_COMPACT_STRINGS.ext X00.2) (g := (mkF m 19 #[.val (.ref a1), .val (.ref a2), .val (.ref a2)] [])) rfl (hb hby d6003_19)
    have pre6 : ∀ t, Steps p.tables e below (T5.setTop (mkF m 22 #[.val (.ref a1), .val (.ref a2), .val (.ref a2)] [(.int w_COMPACT_STRINGS)])) t → Steps p.tables e below (s₁.setTop (entryFrame m #[(.ref a1), (.ref a2)] 3)) t := fun t kt => by
      refine pre1 t ?_
      show Steps p.tables e below (s₁.setTop (mkF m 2 #[.val (.ref a1), .val (.ref a2), .unset] [(.ref a2), (.ref a1)])) _
      refine Jvm.RoadKit.acmp (g := (mkF m 2 #[.val (.ref a1), .val (.ref a2), .unset] [(.ref a2), (.ref a1)])) X0 hx rfl rfl rfl (pc0 := 2) (pc' := 7) (same := false) rfl (hb hby d6003_2) rfl (decide_eq_false fun q => hc2 (Value.ref.inj q)) (by decide) (by decide) ?_
      show Steps p.tables e below (s₁.setTop (mkF m 7 #[.val (.ref a1), .val (.ref a2), .unset] [])) _
      refine XS.aloadN X0.here hx rfl (hb hby d6003_7) rfl rfl ?_
      show Steps p.tables e below (s₁.setTop (mkF m 8 #[.val (.ref a1), .val (.ref a2), .unset] [(.ref a2)])) _
      refine st3 _ ?_
      show Steps p.tables e below (T3.setTop (mkF m 11 #[.val (.ref a1), .val (.ref a2), .unset] [(.int (1 : Int32))])) _
      refine XS.ifNo X3.here hx rfl (hb hby d6003_11) rfl ((if0 _ _).trans (feq (by decide : ¬ ((1 : Int32) = (0 : Int32)))).1) ?_
      show Steps p.tables e below (T3.setTop (mkF m 14 #[.val (.ref a1), .val (.ref a2), .unset] [])) _
      refine XS.aloadN X3.here hx rfl (hb hby d6003_14) rfl rfl ?_
      show Steps p.tables e below (T3.setTop (mkF m 15 #[.val (.ref a1), .val (.ref a2), .unset] [(.ref a2)])) _
      refine st4 _ ?_
      show Steps p.tables e below (T4.setTop (mkF m 18 #[.val (.ref a1), .val (.ref a2), .unset] [(.ref a2)])) _
      refine XS.astoreN X4.here hx rfl (hb hby d6003_18) rfl rfl (l' := #[.val (.ref a1), .val (.ref a2), .val (.ref a2)]) rfl ?_
      show Steps p.tables e below (T4.setTop (mkF m 19 #[.val (.ref a1), .val (.ref a2), .val (.ref a2)] [])) _
      refine st5 _ ?_
      exact kt
    by_cases hc7 : w_COMPACT_STRINGS = (0 : Int32)
    · obtain ⟨T8, X8, e8, st8⟩ := getF X5 hx hZ hown (host := "") (Or.inl (hw _ (List.mem_of_getElem? (i := 46) rfl))) Via.refl e5 F_value_a1 (g := (mkF m 37 #[.val (.ref a1), .val (.ref a2), .val (.ref a2)] [(.ref a1)])) rfl rfl (hb hby d6003_37)
      obtain ⟨T9, X9, e9, st9⟩ := getF X8 hx hZ hown (host := "") (Or.inl (hw _ (List.mem_of_getElem? (i := 46) rfl))) Via.refl e8 F_value_a2 (g := (mkF m 41 #[.val (.ref a1), .val (.ref a2), .val (.ref a2)] [(.ref a2), (.ref c1)])) rfl rfl (hb hby d6003_41)
      obtain ⟨_, _, ⟨T10, L10, k10, n10⟩, -, X10, ⟨Lc10, hQ10, l10, y10, z10⟩, st10⟩ := Jvm.LawKit.callS X9 hx (y := (⟨"java/lang/StringLatin1", "equals", "([B[B)Z"⟩ : MethodName)) hown (mvT hZ (hw _ (List.mem_of_getElem? (i := 47) rfl))) (mvT hZ (hw _ (List.mem_of_getElem? (i := 48) rfl))) (mvT hZ (hw _ (List.mem_of_getElem? (i := 49) rfl))) (mvT hZ (hw _ (List.mem_of_getElem? (i := 50) rfl))) (by decide) (backOf (W := 0) (rm4 l Z a0 hw [] c1 c2 k_c1 (47 : Int32) k_c2 (47 : Int32) h0 n0 Z0 V_c1 V_c2) hZ (hw _ (List.mem_of_getElem? (i := 50) rfl)) (hw _ (List.mem_of_getElem? (i := 49) rfl)) (by decide) (by decide)) (g := (mkF m 44 #[.val (.ref a1), .val (.ref a2), .val (.ref a2)] [(.ref c2), (.ref c1)])) rfl (by rw [hml]; rfl) (argsL := [(.ref c1), (.ref c2)]) (rest := []) (lenOf pd_6003_3 rfl) rfl (by show 2 * 0 + _ ≤ _; exact Nat.le_of_eq rfl) (hb hby d6003_44) (fun _ _ => ⟨rfl, e9, (by decide : 0 + 0 ≤ _), (by decide : 0 + 0 ≤ _)⟩)
      dsimp only [Pt.U, Pt.locs, Pt.cells, Pt.slots] at X10 l10 y10 z10 st10 hQ10
      subst l10 y10 z10
      obtain ⟨rfl, N10q, e10⟩ := hQ10
      rw [show (F4 (47 : Int32) (47 : Int32)) = (1 : Int32) from by first | decide | (unfold F4; repeat' split) <;> first | rfl | simp_all] at st10
      have N10 := Fr.app N0 N10q
      obtain ⟨fs, hr, hrun, hended, hW, hsame⟩ := X10.leave (v := some (.int (1 : Int32))) (fun h => by rw [Bd.returns] at h; cases h)
      refine ⟨_, _, pre6 _ ?_, hrun, hended, _, _, rfl, ?_, ⟨_, rfl⟩, hW, hsame.mono (by decide) (by decide)⟩
      · show Steps p.tables e below (T5.setTop (mkF m 22 #[.val (.ref a1), .val (.ref a2), .val (.ref a2)] [(.int w_COMPACT_STRINGS)])) _
        refine XS.ifYes X5.here hx rfl (pc0 := 22) (pc' := 36) rfl (hb hby d6003_22) rfl ((if0 _ _).trans (teq hc7).1) (by decide) (by decide) ?_
        show Steps p.tables e below (T5.setTop (mkF m 36 #[.val (.ref a1), .val (.ref a2), .val (.ref a2)] [])) _
        refine XS.aloadN X5.here hx rfl (hb hby d6003_36) rfl rfl ?_
        show Steps p.tables e below (T5.setTop (mkF m 37 #[.val (.ref a1), .val (.ref a2), .val (.ref a2)] [(.ref a1)])) _
        refine st8 _ ?_
        show Steps p.tables e below (T8.setTop (mkF m 40 #[.val (.ref a1), .val (.ref a2), .val (.ref a2)] [(.ref c1)])) _
        refine XS.aloadN X8.here hx rfl (hb hby d6003_40) rfl rfl ?_
        show Steps p.tables e below (T8.setTop (mkF m 41 #[.val (.ref a1), .val (.ref a2), .val (.ref a2)] [(.ref a2), (.ref c1)])) _
        refine st9 _ ?_
        show Steps p.tables e below (T9.setTop (mkF m 44 #[.val (.ref a1), .val (.ref a2), .val (.ref a2)] [(.ref c2), (.ref c1)])) _
        refine st10 _ ?_
        show Steps p.tables e below (T10.setTop (mkF m 47 #[.val (.ref a1), .val (.ref a2), .val (.ref a2)] [(.int (1 : Int32))])) _
        refine XS.ifNo X10.here hx rfl (hb hby d6003_47) rfl ((if0 _ _).trans (feq (by decide : ¬ ((1 : Int32) = (0 : Int32)))).1) ?_
        show Steps p.tables e below (T10.setTop (mkF m 50 #[.val (.ref a1), .val (.ref a2), .val (.ref a2)] [])) _
        refine XS.iconst X10.here hx rfl (hb hby d6003_50) ?_
        show Steps p.tables e below (T10.setTop (mkF m 51 #[.val (.ref a1), .val (.ref a2), .val (.ref a2)] [(.int (1 : Int32))])) _
        refine XS.goto X10.here hx rfl (pc0 := 51) (pc' := 55) rfl (hb hby d6003_51) (by decide) (by decide) ?_
        show Steps p.tables e below (T10.setTop (mkF m 55 #[.val (.ref a1), .val (.ref a2), .val (.ref a2)] [(.int (1 : Int32))])) _
        exact retN X10 hx (t := .boolean) Bd.returns (by simp) (hb hby d6003_55) hr
      · show Q6003 Z a1 a2 c1 k_c1 c2 k_c2 w_COMPACT_STRINGS h0 n0 _ T10.heap _
        rw [e10]
        refine ⟨?_, N10, rfl⟩
        show (some (.int (1 : Int32)) : Option Value) = some (.int (F6003 a1 a2 w_COMPACT_STRINGS))
        rw [F6003, if_neg hc2, if_pos hc7]
    · obtain ⟨T11, X11, e11, st11⟩ := getF X5 hx hZ hown (host := "") (Or.inl (hw _ (List.mem_of_getElem? (i := 45) rfl))) Via.refl e5 F_coder_a1 (g := (mkF m 26 #[.val (.ref a1), .val (.ref a2), .val (.ref a2)] [(.ref a1)])) rfl rfl (hb hby d6003_26)
      obtain ⟨T12, X12, e12, st12⟩ := getF X11 hx hZ hown (host := "") (Or.inl (hw _ (List.mem_of_getElem? (i := 45) rfl))) Via.refl e11 F_coder_a2 (g := (mkF m 30 #[.val (.ref a1), .val (.ref a2), .val (.ref a2)] [(.ref a2), (.int (0 : Int32))])) rfl rfl (hb hby d6003_30)
      obtain ⟨T13, X13, e13, st13⟩ := getF X12 hx hZ hown (host := "") (Or.inl (hw _ (List.mem_of_getElem? (i := 46) rfl))) Via.refl e12 F_value_a1 (g := (mkF m 37 #[.val (.ref a1), .val (.ref a2), .val (.ref a2)] [(.ref a1)])) rfl rfl (hb hby d6003_37)
      obtain ⟨T14, X14, e14, st14⟩ := getF X13 hx hZ hown (host := "") (Or.inl (hw _ (List.mem_of_getElem? (i := 46) rfl))) Via.refl e13 F_value_a2 (g := (mkF m 41 #[.val (.ref a1), .val (.ref a2), .val (.ref a2)] [(.ref a2), (.ref c1)])) rfl rfl (hb hby d6003_41)
      obtain ⟨_, _, ⟨T15, L15, k15, n15⟩, -, X15, ⟨Lc15, hQ15, l15, y15, z15⟩, st15⟩ := Jvm.LawKit.callS X14 hx (y := (⟨"java/lang/StringLatin1", "equals", "([B[B)Z"⟩ : MethodName)) hown (mvT hZ (hw _ (List.mem_of_getElem? (i := 47) rfl))) (mvT hZ (hw _ (List.mem_of_getElem? (i := 48) rfl))) (mvT hZ (hw _ (List.mem_of_getElem? (i := 49) rfl))) (mvT hZ (hw _ (List.mem_of_getElem? (i := 50) rfl))) (by decide) (backOf (W := 0) (rm4 l Z a0 hw [] c1 c2 k_c1 (47 : Int32) k_c2 (47 : Int32) h0 n0 Z0 V_c1 V_c2) hZ (hw _ (List.mem_of_getElem? (i := 50) rfl)) (hw _ (List.mem_of_getElem? (i := 49) rfl)) (by decide) (by decide)) (g := (mkF m 44 #[.val (.ref a1), .val (.ref a2), .val (.ref a2)] [(.ref c2), (.ref c1)])) rfl (by rw [hml]; rfl) (argsL := [(.ref c1), (.ref c2)]) (rest := []) (lenOf pd_6003_3 rfl) rfl (by show 2 * 0 + _ ≤ _; exact Nat.le_of_eq rfl) (hb hby d6003_44) (fun _ _ => ⟨rfl, e14, (by decide : 0 + 0 ≤ _), (by decide : 0 + 0 ≤ _)⟩)
      dsimp only [Pt.U, Pt.locs, Pt.cells, Pt.slots] at X15 l15 y15 z15 st15 hQ15
      subst l15 y15 z15
      obtain ⟨rfl, N15q, e15⟩ := hQ15
      rw [show (F4 (47 : Int32) (47 : Int32)) = (1 : Int32) from by first | decide | (unfold F4; repeat' split) <;> first | rfl | simp_all] at st15
      have N15 := Fr.app N0 N15q
      obtain ⟨fs, hr, hrun, hended, hW, hsame⟩ := X15.leave (v := some (.int (1 : Int32))) (fun h => by rw [Bd.returns] at h; cases h)
      refine ⟨_, _, pre6 _ ?_, hrun, hended, _, _, rfl, ?_, ⟨_, rfl⟩, hW, hsame.mono (by decide) (by decide)⟩
      · show Steps p.tables e below (T5.setTop (mkF m 22 #[.val (.ref a1), .val (.ref a2), .val (.ref a2)] [(.int w_COMPACT_STRINGS)])) _
        refine XS.ifNo X5.here hx rfl (hb hby d6003_22) rfl ((if0 _ _).trans (feq hc7).1) ?_
        show Steps p.tables e below (T5.setTop (mkF m 25 #[.val (.ref a1), .val (.ref a2), .val (.ref a2)] [])) _
        refine XS.aloadN X5.here hx rfl (hb hby d6003_25) rfl rfl ?_
        show Steps p.tables e below (T5.setTop (mkF m 26 #[.val (.ref a1), .val (.ref a2), .val (.ref a2)] [(.ref a1)])) _
        refine st11 _ ?_
        show Steps p.tables e below (T11.setTop (mkF m 29 #[.val (.ref a1), .val (.ref a2), .val (.ref a2)] [(.int (0 : Int32))])) _
        refine XS.aloadN X11.here hx rfl (hb hby d6003_29) rfl rfl ?_
        show Steps p.tables e below (T11.setTop (mkF m 30 #[.val (.ref a1), .val (.ref a2), .val (.ref a2)] [(.ref a2), (.int (0 : Int32))])) _
        refine st12 _ ?_
        show Steps p.tables e below (T12.setTop (mkF m 33 #[.val (.ref a1), .val (.ref a2), .val (.ref a2)] [(.int (0 : Int32)), (.int (0 : Int32))])) _
        refine XS.icmpNo X12.here hx rfl (hb hby d6003_33) rfl (teq (rfl : (0 : Int32) = (0 : Int32))).2 ?_
        show Steps p.tables e below (T12.setTop (mkF m 36 #[.val (.ref a1), .val (.ref a2), .val (.ref a2)] [])) _
        refine XS.aloadN X12.here hx rfl (hb hby d6003_36) rfl rfl ?_
        show Steps p.tables e below (T12.setTop (mkF m 37 #[.val (.ref a1), .val (.ref a2), .val (.ref a2)] [(.ref a1)])) _
        refine st13 _ ?_
        show Steps p.tables e below (T13.setTop (mkF m 40 #[.val (.ref a1), .val (.ref a2), .val (.ref a2)] [(.ref c1)])) _
        refine XS.aloadN X13.here hx rfl (hb hby d6003_40) rfl rfl ?_
        show Steps p.tables e below (T13.setTop (mkF m 41 #[.val (.ref a1), .val (.ref a2), .val (.ref a2)] [(.ref a2), (.ref c1)])) _
        refine st14 _ ?_
        show Steps p.tables e below (T14.setTop (mkF m 44 #[.val (.ref a1), .val (.ref a2), .val (.ref a2)] [(.ref c2), (.ref c1)])) _
        refine st15 _ ?_
        show Steps p.tables e below (T15.setTop (mkF m 47 #[.val (.ref a1), .val (.ref a2), .val (.ref a2)] [(.int (1 : Int32))])) _
        refine XS.ifNo X15.here hx rfl (hb hby d6003_47) rfl ((if0 _ _).trans (feq (by decide : ¬ ((1 : Int32) = (0 : Int32)))).1) ?_
        show Steps p.tables e below (T15.setTop (mkF m 50 #[.val (.ref a1), .val (.ref a2), .val (.ref a2)] [])) _
        refine XS.iconst X15.here hx rfl (hb hby d6003_50) ?_
        show Steps p.tables e below (T15.setTop (mkF m 51 #[.val (.ref a1), .val (.ref a2), .val (.ref a2)] [(.int (1 : Int32))])) _
        refine XS.goto X15.here hx rfl (pc0 := 51) (pc' := 55) rfl (hb hby d6003_51) (by decide) (by decide) ?_
        show Steps p.tables e below (T15.setTop (mkF m 55 #[.val (.ref a1), .val (.ref a2), .val (.ref a2)] [(.int (1 : Int32))])) _
        exact retN X15 hx (t := .boolean) Bd.returns (by simp) (hb hby d6003_55) hr
      · show Q6003 Z a1 a2 c1 k_c1 c2 k_c2 w_COMPACT_STRINGS h0 n0 _ T15.heap _
        rw [e15]
        refine ⟨?_, N15, rfl⟩
        show (some (.int (1 : Int32)) : Option Value) = some (.int (F6003 a1 a2 w_COMPACT_STRINGS))
        rw [F6003, if_neg hc2, if_neg hc7]
theorem d7003_0 : decode jdk_42_method_66_code 0 = .ok (.aload_n 0, 1) := by decide +kernel
theorem d7003_1 : decode jdk_42_method_66_code 1 = .ok (.aload_n 1, 1) := by decide +kernel
theorem d7003_2 : decode jdk_42_method_66_code 2 = .ok (.if_acmp .ne 5, 3) := by decide +kernel
theorem d7003_7 : decode jdk_42_method_66_code 7 = .ok (.aload_n 1, 1) := by decide +kernel
theorem d7003_8 : decode jdk_42_method_66_code 8 = .ok (.instanceof 10, 3) := by decide +kernel
theorem d7003_11 : decode jdk_42_method_66_code 11 = .ok (.ifCond .eq 43, 3) := by decide +kernel
theorem d7003_14 : decode jdk_42_method_66_code 14 = .ok (.aload_n 1, 1) := by decide +kernel
theorem d7003_15 : decode jdk_42_method_66_code 15 = .ok (.checkcast 10, 3) := by decide +kernel
theorem d7003_18 : decode jdk_42_method_66_code 18 = .ok (.astore_n 2, 1) := by decide +kernel
theorem d7003_19 : decode jdk_42_method_66_code 19 = .ok (.getstatic 38, 3) := by decide +kernel
theorem d7003_22 : decode jdk_42_method_66_code 22 = .ok (.ifCond .eq 14, 3) := by decide +kernel
theorem d7003_25 : decode jdk_42_method_66_code 25 = .ok (.aload_n 0, 1) := by decide +kernel
theorem d7003_26 : decode jdk_42_method_66_code 26 = .ok (.getfield 15, 3) := by decide +kernel
theorem d7003_29 : decode jdk_42_method_66_code 29 = .ok (.aload_n 2, 1) := by decide +kernel
theorem d7003_30 : decode jdk_42_method_66_code 30 = .ok (.getfield 15, 3) := by decide +kernel
theorem d7003_33 : decode jdk_42_method_66_code 33 = .ok (.if_icmp .ne 21, 3) := by decide +kernel
theorem d7003_36 : decode jdk_42_method_66_code 36 = .ok (.aload_n 0, 1) := by decide +kernel
theorem d7003_37 : decode jdk_42_method_66_code 37 = .ok (.getfield 9, 3) := by decide +kernel
theorem d7003_40 : decode jdk_42_method_66_code 40 = .ok (.aload_n 2, 1) := by decide +kernel
theorem d7003_41 : decode jdk_42_method_66_code 41 = .ok (.getfield 9, 3) := by decide +kernel
theorem d7003_44 : decode jdk_42_method_66_code 44 = .ok (.invokestatic 541, 3) := by decide +kernel
theorem d7003_47 : decode jdk_42_method_66_code 47 = .ok (.ifCond .eq 7, 3) := by decide +kernel
theorem d7003_54 : decode jdk_42_method_66_code 54 = .ok (.iconst 0, 1) := by decide +kernel
theorem d7003_55 : decode jdk_42_method_66_code 55 = .ok (.ireturn, 1) := by decide +kernel
theorem pn_7003 : plainName "java/lang/String" = true := by first | (simp [plainName, overriddenIn]; done) | decide +kernel
theorem pd_7003_3 : parseMethodDescriptor "([B[B)Z" = some ⟨[(.array .byte), (.array .byte)], some .boolean⟩ := by decide +kernel
theorem ef_7003 (m : MethodId) (a1 : Addr) (a2 : Addr) : entryFrame m #[(.ref a1), (.ref a2)] 3 = mkF m 0 #[.val (.ref a1), .val (.ref a2), .unset] [] := by first | (simp [entryFrame, mkF, argsToLocals, Value.category]; done) | rfl
def F7003 (w_COMPACT_STRINGS : Int32) : Int32 := (if w_COMPACT_STRINGS = (0 : Int32) then (0 : Int32) else (0 : Int32))
def Q7003 (Z : State) (a1 : Addr) (a2 : Addr) (c1 : Addr) (k_c1 : ClassId) (c2 : Addr) (k_c2 : ClassId) (w_COMPACT_STRINGS : Int32) (h0 : Heap) (n0 : Nat) (v : Option Value) (h : Heap) (L : List Loc) : Prop := v = some (.int (F7003 w_COMPACT_STRINGS)) ∧ Fr n0 L ∧ h = h0
set_option maxRecDepth 65536 in
set_option maxHeartbeats 40000000 in
theorem rm7003 (l : Launch) (Z : State) (a0 : Array Value) (hw : ∀ d ∈ tables_1, d.before a0 Z = true) (ws : List Jvm.Cond) (a1 : Addr) (a2 : Addr) (c1 : Addr) (k_c1 : ClassId) (c2 : Addr) (k_c2 : ClassId) (w_COMPACT_STRINGS : Int32) (h0 : Heap) (n0 : Nat) (Z0 : n0 ≤ h0.size) (E_a1 : Exa Z h0 a1 "java/lang/String") (F_coder_a1 : Fld Z h0 a1 "java/lang/String" "coder" "B" (.int (0 : Int32))) (F_value_a1 : Fld Z h0 a1 "java/lang/String" "value" "[B" (.ref c1)) (V_c1 : Arv Z h0 c1 k_c1 .byte (1 : Int32) [(.int (37 : Int32))] (.int (0 : Int32))) (E_a2 : Exa Z h0 a2 "java/lang/String") (F_coder_a2 : Fld Z h0 a2 "java/lang/String" "coder" "B" (.int (0 : Int32))) (F_value_a2 : Fld Z h0 a2 "java/lang/String" "value" "[B" (.ref c2)) (V_c2 : Arv Z h0 c2 k_c2 .byte (1 : Int32) [(.int (47 : Int32))] (.int (0 : Int32))) (S_COMPACT_STRINGS : Sta Z Z.heap "java/lang/String" "COMPACT_STRINGS" "Z" (.int w_COMPACT_STRINGS)) (X00 : Old Z n0 h0) :
    MetFree l (⟨"java/lang/String", "equals", "(Ljava/lang/Object;)Z"⟩ : MethodName) (head1 (Jvm.Cond.code (⟨"java/lang/String", "equals", "(Ljava/lang/Object;)Z"⟩ : MethodName) jdk_42_method_66_code 3 (some .boolean) :: ws) ({ frames := 1, cells := 0, slots := 0, locals := 14 } : Room)) (fun a U => a = #[(.ref a1), (.ref a2)] ∧ Z.Warmed39 U.vm ∧ U.heap = h0) (fun _ _ _ _ _ => True) (fun _ U o U' => ∃ v L, o = .returned v ∧ Q7003 Z a1 a2 c1 k_c1 c2 k_c2 w_COMPACT_STRINGS h0 n0 v U'.heap L ∧ FrameEnd U o U' L ({ frames := 1, cells := 0, slots := 0, locals := 14 } : Room).cells ({ frames := 1, cells := 0, slots := 0, locals := 14 } : Room).slots) := by
  refine MetFree.of_bodySF (plainFor_of_name pn_7003) hisR ?_
  intro p e s m args below meth c s₁ Bd hml0 hP hK
  obtain ⟨rfl, hZ, hh⟩ := hP
  skip
  skip
  skip
  skip
  skip
  skip
  have hx := Bd.exec
  have hby := Bd.bytes
  have hml : c.maxLocals = 3 := hml0
  have hown : s.vm.findClass "java/lang/String" = some m.cls := findClass_of_methodNamed Bd.named
  have hnm := (name_of_methodNamed Bd.named Bd.method).1
  have X0 : Stand p l e ({ frames := 1, cells := 0, slots := 0, locals := 14 } : Room) s m #[(.ref a1), (.ref a2)] below meth c s₁ [] 0 0 := Stand.of_body Bd
  have e0 : s₁.heap = h0 := by rw [← hh, Bd.state]; rfl
  have N0 := Fr.nil n0
  have pre0 : ∀ t, Steps p.tables e below (s₁.setTop (mkF m 0 #[.val (.ref a1), .val (.ref a2), .unset] [])) t → Steps p.tables e below (s₁.setTop (entryFrame m #[(.ref a1), (.ref a2)] 3)) t := fun t k => castTop (ef_7003 m a1 a2) k
  have nq1 : a1 ≠ a2 := own_sne F_value_a1 F_value_a2 V_c1 V_c2 (by decide)
  obtain ⟨T2, X2, e2, st2⟩ := instY X0 hx hZ hown (hw _ (List.mem_of_getElem? (i := 42) rfl)) e0 (Ins.self E_a2) (g := (mkF m 8 #[.val (.ref a1), .val (.ref a2), .unset] [(.ref a2)])) rfl rfl (hb hby d7003_8)
  obtain ⟨T3, X3, e3, st3⟩ := castY X2 hx hZ hown (hw _ (List.mem_of_getElem? (i := 42) rfl)) e2 (Ins.self E_a2) (g := (mkF m 15 #[.val (.ref a1), .val (.ref a2), .unset] [(.ref a2)])) rfl rfl (hb hby d7003_15)
  obtain ⟨T4, X4, e4, st4⟩ := getS2 X3 hx hZ hown (host := "") (Or.inl (hw _ (List.mem_of_getElem? (i := 44) rfl))) Via.refl e3 (S_COMPACT_STRINGS.ext X00.2) (g := (mkF m 19 #[.val (.ref a1), .val (.ref a2), .val (.ref a2)] [])) rfl (hb hby d7003_19)
  have pre5 : ∀ t, Steps p.tables e below (T4.setTop (mkF m 22 #[.val (.ref a1), .val (.ref a2), .val (.ref a2)] [(.int w_COMPACT_STRINGS)])) t → Steps p.tables e below (s₁.setTop (entryFrame m #[(.ref a1), (.ref a2)] 3)) t := fun t kt => by
    refine pre0 t ?_
    show Steps p.tables e below (s₁.setTop (mkF m 0 #[.val (.ref a1), .val (.ref a2), .unset] [])) _
    refine XS.aloadN X0.here hx rfl (hb hby d7003_0) rfl rfl ?_
    show Steps p.tables e below (s₁.setTop (mkF m 1 #[.val (.ref a1), .val (.ref a2), .unset] [(.ref a1)])) _
    refine XS.aloadN X0.here hx rfl (hb hby d7003_1) rfl rfl ?_
    show Steps p.tables e below (s₁.setTop (mkF m 2 #[.val (.ref a1), .val (.ref a2), .unset] [(.ref a2), (.ref a1)])) _
    refine Jvm.RoadKit.acmp (g := (mkF m 2 #[.val (.ref a1), .val (.ref a2), .unset] [(.ref a2), (.ref a1)])) X0 hx rfl rfl rfl (pc0 := 2) (pc' := 7) (same := false) rfl (hb hby d7003_2) rfl (decide_eq_false fun q => nq1 (Value.ref.inj q)) (by decide) (by decide) ?_
    show Steps p.tables e below (s₁.setTop (mkF m 7 #[.val (.ref a1), .val (.ref a2), .unset] [])) _
    refine XS.aloadN X0.here hx rfl (hb hby d7003_7) rfl rfl ?_
    show Steps p.tables e below (s₁.setTop (mkF m 8 #[.val (.ref a1), .val (.ref a2), .unset] [(.ref a2)])) _
    refine st2 _ ?_
    show Steps p.tables e below (T2.setTop (mkF m 11 #[.val (.ref a1), .val (.ref a2), .unset] [(.int (1 : Int32))])) _
    refine XS.ifNo X2.here hx rfl (hb hby d7003_11) rfl ((if0 _ _).trans (feq (by decide : ¬ ((1 : Int32) = (0 : Int32)))).1) ?_
    show Steps p.tables e below (T2.setTop (mkF m 14 #[.val (.ref a1), .val (.ref a2), .unset] [])) _
    refine XS.aloadN X2.here hx rfl (hb hby d7003_14) rfl rfl ?_
    show Steps p.tables e below (T2.setTop (mkF m 15 #[.val (.ref a1), .val (.ref a2), .unset] [(.ref a2)])) _
    refine st3 _ ?_
    show Steps p.tables e below (T3.setTop (mkF m 18 #[.val (.ref a1), .val (.ref a2), .unset] [(.ref a2)])) _
    refine XS.astoreN X3.here hx rfl (hb hby d7003_18) rfl rfl (l' := #[.val (.ref a1), .val (.ref a2), .val (.ref a2)]) rfl ?_
    show Steps p.tables e below (T3.setTop (mkF m 19 #[.val (.ref a1), .val (.ref a2), .val (.ref a2)] [])) _
    refine st4 _ ?_
    exact kt
  by_cases hc6 : w_COMPACT_STRINGS = (0 : Int32)
  · obtain ⟨T7, X7, e7, st7⟩ := getF X4 hx hZ hown (host := "") (Or.inl (hw _ (List.mem_of_getElem? (i := 46) rfl))) Via.refl e4 F_value_a1 (g := (mkF m 37 #[.val (.ref a1), .val (.ref a2), .val (.ref a2)] [(.ref a1)])) rfl rfl (hb hby d7003_37)
    obtain ⟨T8, X8, e8, st8⟩ := getF X7 hx hZ hown (host := "") (Or.inl (hw _ (List.mem_of_getElem? (i := 46) rfl))) Via.refl e7 F_value_a2 (g := (mkF m 41 #[.val (.ref a1), .val (.ref a2), .val (.ref a2)] [(.ref a2), (.ref c1)])) rfl rfl (hb hby d7003_41)
    obtain ⟨_, _, ⟨T9, L9, k9, n9⟩, -, X9, ⟨Lc9, hQ9, l9, y9, z9⟩, st9⟩ := Jvm.LawKit.callS X8 hx (y := (⟨"java/lang/StringLatin1", "equals", "([B[B)Z"⟩ : MethodName)) hown (mvT hZ (hw _ (List.mem_of_getElem? (i := 47) rfl))) (mvT hZ (hw _ (List.mem_of_getElem? (i := 48) rfl))) (mvT hZ (hw _ (List.mem_of_getElem? (i := 49) rfl))) (mvT hZ (hw _ (List.mem_of_getElem? (i := 50) rfl))) (by decide) (backOf (W := 0) (rm4 l Z a0 hw [] c1 c2 k_c1 (37 : Int32) k_c2 (47 : Int32) h0 n0 Z0 V_c1 V_c2) hZ (hw _ (List.mem_of_getElem? (i := 50) rfl)) (hw _ (List.mem_of_getElem? (i := 49) rfl)) (by decide) (by decide)) (g := (mkF m 44 #[.val (.ref a1), .val (.ref a2), .val (.ref a2)] [(.ref c2), (.ref c1)])) rfl (by rw [hml]; rfl) (argsL := [(.ref c1), (.ref c2)]) (rest := []) (lenOf pd_7003_3 rfl) rfl (by show 2 * 0 + _ ≤ _; exact Nat.le_of_eq rfl) (hb hby d7003_44) (fun _ _ => ⟨rfl, e8, (by decide : 0 + 0 ≤ _), (by decide : 0 + 0 ≤ _)⟩)
    dsimp only [Pt.U, Pt.locs, Pt.cells, Pt.slots] at X9 l9 y9 z9 st9 hQ9
    subst l9 y9 z9
    obtain ⟨rfl, N9q, e9⟩ := hQ9
    rw [show (F4 (37 : Int32) (47 : Int32)) = (0 : Int32) from by first | decide | (unfold F4; repeat' split) <;> first | rfl | simp_all] at st9
    have N9 := Fr.app N0 N9q
    obtain ⟨fs, hr, hrun, hended, hW, hsame⟩ := X9.leave (v := some (.int (0 : Int32))) (fun h => by rw [Bd.returns] at h; cases h)
    refine ⟨_, _, pre5 _ ?_, hrun, hended, _, _, rfl, ?_, ⟨_, rfl⟩, hW, hsame.mono (by decide) (by decide)⟩
    · show Steps p.tables e below (T4.setTop (mkF m 22 #[.val (.ref a1), .val (.ref a2), .val (.ref a2)] [(.int w_COMPACT_STRINGS)])) _
      refine XS.ifYes X4.here hx rfl (pc0 := 22) (pc' := 36) rfl (hb hby d7003_22) rfl ((if0 _ _).trans (teq hc6).1) (by decide) (by decide) ?_
      show Steps p.tables e below (T4.setTop (mkF m 36 #[.val (.ref a1), .val (.ref a2), .val (.ref a2)] [])) _
      refine XS.aloadN X4.here hx rfl (hb hby d7003_36) rfl rfl ?_
      show Steps p.tables e below (T4.setTop (mkF m 37 #[.val (.ref a1), .val (.ref a2), .val (.ref a2)] [(.ref a1)])) _
      refine st7 _ ?_
      show Steps p.tables e below (T7.setTop (mkF m 40 #[.val (.ref a1), .val (.ref a2), .val (.ref a2)] [(.ref c1)])) _
      refine XS.aloadN X7.here hx rfl (hb hby d7003_40) rfl rfl ?_
      show Steps p.tables e below (T7.setTop (mkF m 41 #[.val (.ref a1), .val (.ref a2), .val (.ref a2)] [(.ref a2), (.ref c1)])) _
      refine st8 _ ?_
      show Steps p.tables e below (T8.setTop (mkF m 44 #[.val (.ref a1), .val (.ref a2), .val (.ref a2)] [(.ref c2), (.ref c1)])) _
      refine st9 _ ?_
      show Steps p.tables e below (T9.setTop (mkF m 47 #[.val (.ref a1), .val (.ref a2), .val (.ref a2)] [(.int (0 : Int32))])) _
      refine XS.ifYes X9.here hx rfl (pc0 := 47) (pc' := 54) rfl (hb hby d7003_47) rfl ((if0 _ _).trans (teq (rfl : (0 : Int32) = (0 : Int32))).1) (by decide) (by decide) ?_
      show Steps p.tables e below (T9.setTop (mkF m 54 #[.val (.ref a1), .val (.ref a2), .val (.ref a2)] [])) _
      refine XS.iconst X9.here hx rfl (hb hby d7003_54) ?_
      show Steps p.tables e below (T9.setTop (mkF m 55 #[.val (.ref a1), .val (.ref a2), .val (.ref a2)] [(.int (0 : Int32))])) _
      exact retN X9 hx (t := .boolean) Bd.returns (by simp) (hb hby d7003_55) hr
    · show Q7003 Z a1 a2 c1 k_c1 c2 k_c2 w_COMPACT_STRINGS h0 n0 _ T9.heap _
      rw [e9]
      refine ⟨?_, N9, rfl⟩
      show (some (.int (0 : Int32)) : Option Value) = some (.int (F7003 w_COMPACT_STRINGS))
      rw [F7003, if_pos hc6]
  · obtain ⟨T10, X10, e10, st10⟩ := getF X4 hx hZ hown (host := "") (Or.inl (hw _ (List.mem_of_getElem? (i := 45) rfl))) Via.refl e4 F_coder_a1 (g := (mkF m 26 #[.val (.ref a1), .val (.ref a2), .val (.ref a2)] [(.ref a1)])) rfl rfl (hb hby d7003_26)
    obtain ⟨T11, X11, e11, st11⟩ := getF X10 hx hZ hown (host := "") (Or.inl (hw _ (List.mem_of_getElem? (i := 45) rfl))) Via.refl e10 F_coder_a2 (g := (mkF m 30 #[.val (.ref a1), .val (.ref a2), .val (.ref a2)] [(.ref a2), (.int (0 : Int32))])) rfl rfl (hb hby d7003_30)
    obtain ⟨T12, X12, e12, st12⟩ := getF X11 hx hZ hown (host := "") (Or.inl (hw _ (List.mem_of_getElem? (i := 46) rfl))) Via.refl e11 F_value_a1 (g := (mkF m 37 #[.val (.ref a1), .val (.ref a2), .val (.ref a2)] [(.ref a1)])) rfl rfl (hb hby d7003_37)
    obtain ⟨T13, X13, e13, st13⟩ := getF X12 hx hZ hown (host := "") (Or.inl (hw _ (List.mem_of_getElem? (i := 46) rfl))) Via.refl e12 F_value_a2 (g := (mkF m 41 #[.val (.ref a1), .val (.ref a2), .val (.ref a2)] [(.ref a2), (.ref c1)])) rfl rfl (hb hby d7003_41)
    obtain ⟨_, _, ⟨T14, L14, k14, n14⟩, -, X14, ⟨Lc14, hQ14, l14, y14, z14⟩, st14⟩ := Jvm.LawKit.callS X13 hx (y := (⟨"java/lang/StringLatin1", "equals", "([B[B)Z"⟩ : MethodName)) hown (mvT hZ (hw _ (List.mem_of_getElem? (i := 47) rfl))) (mvT hZ (hw _ (List.mem_of_getElem? (i := 48) rfl))) (mvT hZ (hw _ (List.mem_of_getElem? (i := 49) rfl))) (mvT hZ (hw _ (List.mem_of_getElem? (i := 50) rfl))) (by decide) (backOf (W := 0) (rm4 l Z a0 hw [] c1 c2 k_c1 (37 : Int32) k_c2 (47 : Int32) h0 n0 Z0 V_c1 V_c2) hZ (hw _ (List.mem_of_getElem? (i := 50) rfl)) (hw _ (List.mem_of_getElem? (i := 49) rfl)) (by decide) (by decide)) (g := (mkF m 44 #[.val (.ref a1), .val (.ref a2), .val (.ref a2)] [(.ref c2), (.ref c1)])) rfl (by rw [hml]; rfl) (argsL := [(.ref c1), (.ref c2)]) (rest := []) (lenOf pd_7003_3 rfl) rfl (by show 2 * 0 + _ ≤ _; exact Nat.le_of_eq rfl) (hb hby d7003_44) (fun _ _ => ⟨rfl, e13, (by decide : 0 + 0 ≤ _), (by decide : 0 + 0 ≤ _)⟩)
    dsimp only [Pt.U, Pt.locs, Pt.cells, Pt.slots] at X14 l14 y14 z14 st14 hQ14
    subst l14 y14 z14
    obtain ⟨rfl, N14q, e14⟩ := hQ14
    rw [show (F4 (37 : Int32) (47 : Int32)) = (0 : Int32) from by first | decide | (unfold F4; repeat' split) <;> first | rfl | simp_all] at st14
    have N14 := Fr.app N0 N14q
    obtain ⟨fs, hr, hrun, hended, hW, hsame⟩ := X14.leave (v := some (.int (0 : Int32))) (fun h => by rw [Bd.returns] at h; cases h)
    refine ⟨_, _, pre5 _ ?_, hrun, hended, _, _, rfl, ?_, ⟨_, rfl⟩, hW, hsame.mono (by decide) (by decide)⟩
    · show Steps p.tables e below (T4.setTop (mkF m 22 #[.val (.ref a1), .val (.ref a2), .val (.ref a2)] [(.int w_COMPACT_STRINGS)])) _
      refine XS.ifNo X4.here hx rfl (hb hby d7003_22) rfl ((if0 _ _).trans (feq hc6).1) ?_
      show Steps p.tables e below (T4.setTop (mkF m 25 #[.val (.ref a1), .val (.ref a2), .val (.ref a2)] [])) _
      refine XS.aloadN X4.here hx rfl (hb hby d7003_25) rfl rfl ?_
      show Steps p.tables e below (T4.setTop (mkF m 26 #[.val (.ref a1), .val (.ref a2), .val (.ref a2)] [(.ref a1)])) _
      refine st10 _ ?_
      show Steps p.tables e below (T10.setTop (mkF m 29 #[.val (.ref a1), .val (.ref a2), .val (.ref a2)] [(.int (0 : Int32))])) _
      refine XS.aloadN X10.here hx rfl (hb hby d7003_29) rfl rfl ?_
      show Steps p.tables e below (T10.setTop (mkF m 30 #[.val (.ref a1), .val (.ref a2), .val (.ref a2)] [(.ref a2), (.int (0 : Int32))])) _
      refine st11 _ ?_
      show Steps p.tables e below (T11.setTop (mkF m 33 #[.val (.ref a1), .val (.ref a2), .val (.ref a2)] [(.int (0 : Int32)), (.int (0 : Int32))])) _
      refine XS.icmpNo X11.here hx rfl (hb hby d7003_33) rfl (teq (rfl : (0 : Int32) = (0 : Int32))).2 ?_
      show Steps p.tables e below (T11.setTop (mkF m 36 #[.val (.ref a1), .val (.ref a2), .val (.ref a2)] [])) _
      refine XS.aloadN X11.here hx rfl (hb hby d7003_36) rfl rfl ?_
      show Steps p.tables e below (T11.setTop (mkF m 37 #[.val (.ref a1), .val (.ref a2), .val (.ref a2)] [(.ref a1)])) _
      refine st12 _ ?_
      show Steps p.tables e below (T12.setTop (mkF m 40 #[.val (.ref a1), .val (.ref a2), .val (.ref a2)] [(.ref c1)])) _
      refine XS.aloadN X12.here hx rfl (hb hby d7003_40) rfl rfl ?_
      show Steps p.tables e below (T12.setTop (mkF m 41 #[.val (.ref a1), .val (.ref a2), .val (.ref a2)] [(.ref a2), (.ref c1)])) _
      refine st13 _ ?_
      show Steps p.tables e below (T13.setTop (mkF m 44 #[.val (.ref a1), .val (.ref a2), .val (.ref a2)] [(.ref c2), (.ref c1)])) _
      refine st14 _ ?_
      show Steps p.tables e below (T14.setTop (mkF m 47 #[.val (.ref a1), .val (.ref a2), .val (.ref a2)] [(.int (0 : Int32))])) _
      refine XS.ifYes X14.here hx rfl (pc0 := 47) (pc' := 54) rfl (hb hby d7003_47) rfl ((if0 _ _).trans (teq (rfl : (0 : Int32) = (0 : Int32))).1) (by decide) (by decide) ?_
      show Steps p.tables e below (T14.setTop (mkF m 54 #[.val (.ref a1), .val (.ref a2), .val (.ref a2)] [])) _
      refine XS.iconst X14.here hx rfl (hb hby d7003_54) ?_
      show Steps p.tables e below (T14.setTop (mkF m 55 #[.val (.ref a1), .val (.ref a2), .val (.ref a2)] [(.int (0 : Int32))])) _
      exact retN X14 hx (t := .boolean) Bd.returns (by simp) (hb hby d7003_55) hr
    · show Q7003 Z a1 a2 c1 k_c1 c2 k_c2 w_COMPACT_STRINGS h0 n0 _ T14.heap _
      rw [e14]
      refine ⟨?_, N14, rfl⟩
      show (some (.int (0 : Int32)) : Option Value) = some (.int (F7003 w_COMPACT_STRINGS))
      rw [F7003, if_neg hc6]
theorem d8003_0 : decode jdk_42_method_66_code 0 = .ok (.aload_n 0, 1) := by decide +kernel
theorem d8003_1 : decode jdk_42_method_66_code 1 = .ok (.aload_n 1, 1) := by decide +kernel
theorem d8003_2 : decode jdk_42_method_66_code 2 = .ok (.if_acmp .ne 5, 3) := by decide +kernel
theorem d8003_5 : decode jdk_42_method_66_code 5 = .ok (.iconst 1, 1) := by decide +kernel
theorem d8003_6 : decode jdk_42_method_66_code 6 = .ok (.ireturn, 1) := by decide +kernel
theorem d8003_7 : decode jdk_42_method_66_code 7 = .ok (.aload_n 1, 1) := by decide +kernel
theorem d8003_8 : decode jdk_42_method_66_code 8 = .ok (.instanceof 10, 3) := by decide +kernel
theorem d8003_11 : decode jdk_42_method_66_code 11 = .ok (.ifCond .eq 43, 3) := by decide +kernel
theorem d8003_14 : decode jdk_42_method_66_code 14 = .ok (.aload_n 1, 1) := by decide +kernel
theorem d8003_15 : decode jdk_42_method_66_code 15 = .ok (.checkcast 10, 3) := by decide +kernel
theorem d8003_18 : decode jdk_42_method_66_code 18 = .ok (.astore_n 2, 1) := by decide +kernel
theorem d8003_19 : decode jdk_42_method_66_code 19 = .ok (.getstatic 38, 3) := by decide +kernel
theorem d8003_22 : decode jdk_42_method_66_code 22 = .ok (.ifCond .eq 14, 3) := by decide +kernel
theorem d8003_25 : decode jdk_42_method_66_code 25 = .ok (.aload_n 0, 1) := by decide +kernel
theorem d8003_26 : decode jdk_42_method_66_code 26 = .ok (.getfield 15, 3) := by decide +kernel
theorem d8003_29 : decode jdk_42_method_66_code 29 = .ok (.aload_n 2, 1) := by decide +kernel
theorem d8003_30 : decode jdk_42_method_66_code 30 = .ok (.getfield 15, 3) := by decide +kernel
theorem d8003_33 : decode jdk_42_method_66_code 33 = .ok (.if_icmp .ne 21, 3) := by decide +kernel
theorem d8003_36 : decode jdk_42_method_66_code 36 = .ok (.aload_n 0, 1) := by decide +kernel
theorem d8003_37 : decode jdk_42_method_66_code 37 = .ok (.getfield 9, 3) := by decide +kernel
theorem d8003_40 : decode jdk_42_method_66_code 40 = .ok (.aload_n 2, 1) := by decide +kernel
theorem d8003_41 : decode jdk_42_method_66_code 41 = .ok (.getfield 9, 3) := by decide +kernel
theorem d8003_44 : decode jdk_42_method_66_code 44 = .ok (.invokestatic 541, 3) := by decide +kernel
theorem d8003_47 : decode jdk_42_method_66_code 47 = .ok (.ifCond .eq 7, 3) := by decide +kernel
theorem d8003_50 : decode jdk_42_method_66_code 50 = .ok (.iconst 1, 1) := by decide +kernel
theorem d8003_51 : decode jdk_42_method_66_code 51 = .ok (.goto 4, 3) := by decide +kernel
theorem d8003_55 : decode jdk_42_method_66_code 55 = .ok (.ireturn, 1) := by decide +kernel
theorem pn_8003 : plainName "java/lang/String" = true := by first | (simp [plainName, overriddenIn]; done) | decide +kernel
theorem pd_8003_3 : parseMethodDescriptor "([B[B)Z" = some ⟨[(.array .byte), (.array .byte)], some .boolean⟩ := by decide +kernel
theorem ef_8003 (m : MethodId) (a1 : Addr) (a2 : Addr) : entryFrame m #[(.ref a1), (.ref a2)] 3 = mkF m 0 #[.val (.ref a1), .val (.ref a2), .unset] [] := by first | (simp [entryFrame, mkF, argsToLocals, Value.category]; done) | rfl
def F8003 (a1 : Addr) (a2 : Addr) (w_COMPACT_STRINGS : Int32) : Int32 := (if a1 = a2 then (1 : Int32) else (if w_COMPACT_STRINGS = (0 : Int32) then (1 : Int32) else (1 : Int32)))
def Q8003 (Z : State) (a1 : Addr) (a2 : Addr) (c1 : Addr) (k_c1 : ClassId) (c2 : Addr) (k_c2 : ClassId) (w_COMPACT_STRINGS : Int32) (h0 : Heap) (n0 : Nat) (v : Option Value) (h : Heap) (L : List Loc) : Prop := v = some (.int (F8003 a1 a2 w_COMPACT_STRINGS)) ∧ Fr n0 L ∧ h = h0
set_option maxRecDepth 65536 in
set_option maxHeartbeats 40000000 in
theorem rm8003 (l : Launch) (Z : State) (a0 : Array Value) (hw : ∀ d ∈ tables_1, d.before a0 Z = true) (ws : List Jvm.Cond) (a1 : Addr) (a2 : Addr) (c1 : Addr) (k_c1 : ClassId) (c2 : Addr) (k_c2 : ClassId) (w_COMPACT_STRINGS : Int32) (h0 : Heap) (n0 : Nat) (Z0 : n0 ≤ h0.size) (E_a1 : Exa Z h0 a1 "java/lang/String") (F_coder_a1 : Fld Z h0 a1 "java/lang/String" "coder" "B" (.int (0 : Int32))) (F_value_a1 : Fld Z h0 a1 "java/lang/String" "value" "[B" (.ref c1)) (V_c1 : Arv Z h0 c1 k_c1 .byte (1 : Int32) [(.int (37 : Int32))] (.int (0 : Int32))) (E_a2 : Exa Z h0 a2 "java/lang/String") (F_coder_a2 : Fld Z h0 a2 "java/lang/String" "coder" "B" (.int (0 : Int32))) (F_value_a2 : Fld Z h0 a2 "java/lang/String" "value" "[B" (.ref c2)) (V_c2 : Arv Z h0 c2 k_c2 .byte (1 : Int32) [(.int (37 : Int32))] (.int (0 : Int32))) (S_COMPACT_STRINGS : Sta Z Z.heap "java/lang/String" "COMPACT_STRINGS" "Z" (.int w_COMPACT_STRINGS)) (X00 : Old Z n0 h0) :
    MetFree l (⟨"java/lang/String", "equals", "(Ljava/lang/Object;)Z"⟩ : MethodName) (head1 (Jvm.Cond.code (⟨"java/lang/String", "equals", "(Ljava/lang/Object;)Z"⟩ : MethodName) jdk_42_method_66_code 3 (some .boolean) :: ws) ({ frames := 1, cells := 0, slots := 0, locals := 14 } : Room)) (fun a U => a = #[(.ref a1), (.ref a2)] ∧ Z.Warmed39 U.vm ∧ U.heap = h0) (fun _ _ _ _ _ => True) (fun _ U o U' => ∃ v L, o = .returned v ∧ Q8003 Z a1 a2 c1 k_c1 c2 k_c2 w_COMPACT_STRINGS h0 n0 v U'.heap L ∧ FrameEnd U o U' L ({ frames := 1, cells := 0, slots := 0, locals := 14 } : Room).cells ({ frames := 1, cells := 0, slots := 0, locals := 14 } : Room).slots) := by
  refine MetFree.of_bodySF (plainFor_of_name pn_8003) hisR ?_
  intro p e s m args below meth c s₁ Bd hml0 hP hK
  obtain ⟨rfl, hZ, hh⟩ := hP
  skip
  skip
  skip
  skip
  skip
  skip
  have hx := Bd.exec
  have hby := Bd.bytes
  have hml : c.maxLocals = 3 := hml0
  have hown : s.vm.findClass "java/lang/String" = some m.cls := findClass_of_methodNamed Bd.named
  have hnm := (name_of_methodNamed Bd.named Bd.method).1
  have X0 : Stand p l e ({ frames := 1, cells := 0, slots := 0, locals := 14 } : Room) s m #[(.ref a1), (.ref a2)] below meth c s₁ [] 0 0 := Stand.of_body Bd
  have e0 : s₁.heap = h0 := by rw [← hh, Bd.state]; rfl
  have N0 := Fr.nil n0
  have pre0 : ∀ t, Steps p.tables e below (s₁.setTop (mkF m 0 #[.val (.ref a1), .val (.ref a2), .unset] [])) t → Steps p.tables e below (s₁.setTop (entryFrame m #[(.ref a1), (.ref a2)] 3)) t := fun t k => castTop (ef_8003 m a1 a2) k
  have pre1 : ∀ t, Steps p.tables e below (s₁.setTop (mkF m 2 #[.val (.ref a1), .val (.ref a2), .unset] [(.ref a2), (.ref a1)])) t → Steps p.tables e below (s₁.setTop (entryFrame m #[(.ref a1), (.ref a2)] 3)) t := fun t kt => by
    refine pre0 t ?_
    show Steps p.tables e below (s₁.setTop (mkF m 0 #[.val (.ref a1), .val (.ref a2), .unset] [])) _
    refine XS.aloadN X0.here hx rfl (hb hby d8003_0) rfl rfl ?_
    show Steps p.tables e below (s₁.setTop (mkF m 1 #[.val (.ref a1), .val (.ref a2), .unset] [(.ref a1)])) _
    refine XS.aloadN X0.here hx rfl (hb hby d8003_1) rfl rfl ?_
    exact kt
  by_cases hc2 : a1 = a2
  · obtain ⟨fs, hr, hrun, hended, hW, hsame⟩ := X0.leave (v := some (.int (1 : Int32))) (fun h => by rw [Bd.returns] at h; cases h)
    refine ⟨_, _, pre1 _ ?_, hrun, hended, _, _, rfl, ?_, ⟨_, rfl⟩, hW, hsame.mono (by decide) (by decide)⟩
    · show Steps p.tables e below (s₁.setTop (mkF m 2 #[.val (.ref a1), .val (.ref a2), .unset] [(.ref a2), (.ref a1)])) _
      refine Jvm.RoadKit.acmp (g := (mkF m 2 #[.val (.ref a1), .val (.ref a2), .unset] [(.ref a2), (.ref a1)])) X0 hx rfl rfl rfl (pc0 := 2) (pc' := 5) (same := true) rfl (hb hby d8003_2) rfl (decide_eq_true (congrArg Value.ref hc2)) (by decide) (by decide) ?_
      show Steps p.tables e below (s₁.setTop (mkF m 5 #[.val (.ref a1), .val (.ref a2), .unset] [])) _
      refine XS.iconst X0.here hx rfl (hb hby d8003_5) ?_
      show Steps p.tables e below (s₁.setTop (mkF m 6 #[.val (.ref a1), .val (.ref a2), .unset] [(.int (1 : Int32))])) _
      exact retN X0 hx (t := .boolean) Bd.returns (by simp) (hb hby d8003_6) hr
    · show Q8003 Z a1 a2 c1 k_c1 c2 k_c2 w_COMPACT_STRINGS h0 n0 _ s₁.heap _
      rw [e0]
      refine ⟨?_, N0, rfl⟩
      show (some (.int (1 : Int32)) : Option Value) = some (.int (F8003 a1 a2 w_COMPACT_STRINGS))
      rw [F8003, if_pos hc2]
  · obtain ⟨T3, X3, e3, st3⟩ := instY X0 hx hZ hown (hw _ (List.mem_of_getElem? (i := 42) rfl)) e0 (Ins.self E_a2) (g := (mkF m 8 #[.val (.ref a1), .val (.ref a2), .unset] [(.ref a2)])) rfl rfl (hb hby d8003_8)
    obtain ⟨T4, X4, e4, st4⟩ := castY X3 hx hZ hown (hw _ (List.mem_of_getElem? (i := 42) rfl)) e3 (Ins.self E_a2) (g := (mkF m 15 #[.val (.ref a1), .val (.ref a2), .unset] [(.ref a2)])) rfl rfl (hb hby d8003_15)
    obtain ⟨T5, X5, e5, st5⟩ := getS2 X4 hx hZ hown (host := "") (Or.inl (hw _ (List.mem_of_getElem? (i := 44) rfl))) Via.refl e4 (S_COMPACT_STRINGS.ext X00.2) (g := (mkF m 19 #[.val (.ref a1), .val (.ref a2), .val (.ref a2)] [])) rfl (hb hby d8003_19)
    have pre6 : ∀ t, Steps p.tables e below (T5.setTop (mkF m 22 #[.val (.ref a1), .val (.ref a2), .val (.ref a2)] [(.int w_COMPACT_STRINGS)])) t → Steps p.tables e below (s₁.setTop (entryFrame m #[(.ref a1), (.ref a2)] 3)) t := fun t kt => by
      refine pre1 t ?_
      show Steps p.tables e below (s₁.setTop (mkF m 2 #[.val (.ref a1), .val (.ref a2), .unset] [(.ref a2), (.ref a1)])) _
      refine Jvm.RoadKit.acmp (g := (mkF m 2 #[.val (.ref a1), .val (.ref a2), .unset] [(.ref a2), (.ref a1)])) X0 hx rfl rfl rfl (pc0 := 2) (pc' := 7) (same := false) rfl (hb hby d8003_2) rfl (decide_eq_false fun q => hc2 (Value.ref.inj q)) (by decide) (by decide) ?_
      show Steps p.tables e below (s₁.setTop (mkF m 7 #[.val (.ref a1), .val (.ref a2), .unset] [])) _
      refine XS.aloadN X0.here hx rfl (hb hby d8003_7) rfl rfl ?_
      show Steps p.tables e below (s₁.setTop (mkF m 8 #[.val (.ref a1), .val (.ref a2), .unset] [(.ref a2)])) _
      refine st3 _ ?_
      show Steps p.tables e below (T3.setTop (mkF m 11 #[.val (.ref a1), .val (.ref a2), .unset] [(.int (1 : Int32))])) _
      refine XS.ifNo X3.here hx rfl (hb hby d8003_11) rfl ((if0 _ _).trans (feq (by decide : ¬ ((1 : Int32) = (0 : Int32)))).1) ?_
      show Steps p.tables e below (T3.setTop (mkF m 14 #[.val (.ref a1), .val (.ref a2), .unset] [])) _
      refine XS.aloadN X3.here hx rfl (hb hby d8003_14) rfl rfl ?_
      show Steps p.tables e below (T3.setTop (mkF m 15 #[.val (.ref a1), .val (.ref a2), .unset] [(.ref a2)])) _
      refine st4 _ ?_
      show Steps p.tables e below (T4.setTop (mkF m 18 #[.val (.ref a1), .val (.ref a2), .unset] [(.ref a2)])) _
      refine XS.astoreN X4.here hx rfl (hb hby d8003_18) rfl rfl (l' := #[.val (.ref a1), .val (.ref a2), .val (.ref a2)]) rfl ?_
      show Steps p.tables e below (T4.setTop (mkF m 19 #[.val (.ref a1), .val (.ref a2), .val (.ref a2)] [])) _
      refine st5 _ ?_
      exact kt
    by_cases hc7 : w_COMPACT_STRINGS = (0 : Int32)
    · obtain ⟨T8, X8, e8, st8⟩ := getF X5 hx hZ hown (host := "") (Or.inl (hw _ (List.mem_of_getElem? (i := 46) rfl))) Via.refl e5 F_value_a1 (g := (mkF m 37 #[.val (.ref a1), .val (.ref a2), .val (.ref a2)] [(.ref a1)])) rfl rfl (hb hby d8003_37)
      obtain ⟨T9, X9, e9, st9⟩ := getF X8 hx hZ hown (host := "") (Or.inl (hw _ (List.mem_of_getElem? (i := 46) rfl))) Via.refl e8 F_value_a2 (g := (mkF m 41 #[.val (.ref a1), .val (.ref a2), .val (.ref a2)] [(.ref a2), (.ref c1)])) rfl rfl (hb hby d8003_41)
      obtain ⟨_, _, ⟨T10, L10, k10, n10⟩, -, X10, ⟨Lc10, hQ10, l10, y10, z10⟩, st10⟩ := Jvm.LawKit.callS X9 hx (y := (⟨"java/lang/StringLatin1", "equals", "([B[B)Z"⟩ : MethodName)) hown (mvT hZ (hw _ (List.mem_of_getElem? (i := 47) rfl))) (mvT hZ (hw _ (List.mem_of_getElem? (i := 48) rfl))) (mvT hZ (hw _ (List.mem_of_getElem? (i := 49) rfl))) (mvT hZ (hw _ (List.mem_of_getElem? (i := 50) rfl))) (by decide) (backOf (W := 0) (rm4 l Z a0 hw [] c1 c2 k_c1 (37 : Int32) k_c2 (37 : Int32) h0 n0 Z0 V_c1 V_c2) hZ (hw _ (List.mem_of_getElem? (i := 50) rfl)) (hw _ (List.mem_of_getElem? (i := 49) rfl)) (by decide) (by decide)) (g := (mkF m 44 #[.val (.ref a1), .val (.ref a2), .val (.ref a2)] [(.ref c2), (.ref c1)])) rfl (by rw [hml]; rfl) (argsL := [(.ref c1), (.ref c2)]) (rest := []) (lenOf pd_8003_3 rfl) rfl (by show 2 * 0 + _ ≤ _; exact Nat.le_of_eq rfl) (hb hby d8003_44) (fun _ _ => ⟨rfl, e9, (by decide : 0 + 0 ≤ _), (by decide : 0 + 0 ≤ _)⟩)
      dsimp only [Pt.U, Pt.locs, Pt.cells, Pt.slots] at X10 l10 y10 z10 st10 hQ10
      subst l10 y10 z10
      obtain ⟨rfl, N10q, e10⟩ := hQ10
      rw [show (F4 (37 : Int32) (37 : Int32)) = (1 : Int32) from by first | decide | (unfold F4; repeat' split) <;> first | rfl | simp_all] at st10
      have N10 := Fr.app N0 N10q
      obtain ⟨fs, hr, hrun, hended, hW, hsame⟩ := X10.leave (v := some (.int (1 : Int32))) (fun h => by rw [Bd.returns] at h; cases h)
      refine ⟨_, _, pre6 _ ?_, hrun, hended, _, _, rfl, ?_, ⟨_, rfl⟩, hW, hsame.mono (by decide) (by decide)⟩
      · show Steps p.tables e below (T5.setTop (mkF m 22 #[.val (.ref a1), .val (.ref a2), .val (.ref a2)] [(.int w_COMPACT_STRINGS)])) _
        refine XS.ifYes X5.here hx rfl (pc0 := 22) (pc' := 36) rfl (hb hby d8003_22) rfl ((if0 _ _).trans (teq hc7).1) (by decide) (by decide) ?_
        show Steps p.tables e below (T5.setTop (mkF m 36 #[.val (.ref a1), .val (.ref a2), .val (.ref a2)] [])) _
        refine XS.aloadN X5.here hx rfl (hb hby d8003_36) rfl rfl ?_
        show Steps p.tables e below (T5.setTop (mkF m 37 #[.val (.ref a1), .val (.ref a2), .val (.ref a2)] [(.ref a1)])) _
        refine st8 _ ?_
        show Steps p.tables e below (T8.setTop (mkF m 40 #[.val (.ref a1), .val (.ref a2), .val (.ref a2)] [(.ref c1)])) _
        refine XS.aloadN X8.here hx rfl (hb hby d8003_40) rfl rfl ?_
        show Steps p.tables e below (T8.setTop (mkF m 41 #[.val (.ref a1), .val (.ref a2), .val (.ref a2)] [(.ref a2), (.ref c1)])) _
        refine st9 _ ?_
        show Steps p.tables e below (T9.setTop (mkF m 44 #[.val (.ref a1), .val (.ref a2), .val (.ref a2)] [(.ref c2), (.ref c1)])) _
        refine st10 _ ?_
        show Steps p.tables e below (T10.setTop (mkF m 47 #[.val (.ref a1), .val (.ref a2), .val (.ref a2)] [(.int (1 : Int32))])) _
        refine XS.ifNo X10.here hx rfl (hb hby d8003_47) rfl ((if0 _ _).trans (feq (by decide : ¬ ((1 : Int32) = (0 : Int32)))).1) ?_
        show Steps p.tables e below (T10.setTop (mkF m 50 #[.val (.ref a1), .val (.ref a2), .val (.ref a2)] [])) _
        refine XS.iconst X10.here hx rfl (hb hby d8003_50) ?_
        show Steps p.tables e below (T10.setTop (mkF m 51 #[.val (.ref a1), .val (.ref a2), .val (.ref a2)] [(.int (1 : Int32))])) _
        refine XS.goto X10.here hx rfl (pc0 := 51) (pc' := 55) rfl (hb hby d8003_51) (by decide) (by decide) ?_
        show Steps p.tables e below (T10.setTop (mkF m 55 #[.val (.ref a1), .val (.ref a2), .val (.ref a2)] [(.int (1 : Int32))])) _
        exact retN X10 hx (t := .boolean) Bd.returns (by simp) (hb hby d8003_55) hr
      · show Q8003 Z a1 a2 c1 k_c1 c2 k_c2 w_COMPACT_STRINGS h0 n0 _ T10.heap _
        rw [e10]
        refine ⟨?_, N10, rfl⟩
        show (some (.int (1 : Int32)) : Option Value) = some (.int (F8003 a1 a2 w_COMPACT_STRINGS))
        rw [F8003, if_neg hc2, if_pos hc7]
    · obtain ⟨T11, X11, e11, st11⟩ := getF X5 hx hZ hown (host := "") (Or.inl (hw _ (List.mem_of_getElem? (i := 45) rfl))) Via.refl e5 F_coder_a1 (g := (mkF m 26 #[.val (.ref a1), .val (.ref a2), .val (.ref a2)] [(.ref a1)])) rfl rfl (hb hby d8003_26)
      obtain ⟨T12, X12, e12, st12⟩ := getF X11 hx hZ hown (host := "") (Or.inl (hw _ (List.mem_of_getElem? (i := 45) rfl))) Via.refl e11 F_coder_a2 (g := (mkF m 30 #[.val (.ref a1), .val (.ref a2), .val (.ref a2)] [(.ref a2), (.int (0 : Int32))])) rfl rfl (hb hby d8003_30)
      obtain ⟨T13, X13, e13, st13⟩ := getF X12 hx hZ hown (host := "") (Or.inl (hw _ (List.mem_of_getElem? (i := 46) rfl))) Via.refl e12 F_value_a1 (g := (mkF m 37 #[.val (.ref a1), .val (.ref a2), .val (.ref a2)] [(.ref a1)])) rfl rfl (hb hby d8003_37)
      obtain ⟨T14, X14, e14, st14⟩ := getF X13 hx hZ hown (host := "") (Or.inl (hw _ (List.mem_of_getElem? (i := 46) rfl))) Via.refl e13 F_value_a2 (g := (mkF m 41 #[.val (.ref a1), .val (.ref a2), .val (.ref a2)] [(.ref a2), (.ref c1)])) rfl rfl (hb hby d8003_41)
      obtain ⟨_, _, ⟨T15, L15, k15, n15⟩, -, X15, ⟨Lc15, hQ15, l15, y15, z15⟩, st15⟩ := Jvm.LawKit.callS X14 hx (y := (⟨"java/lang/StringLatin1", "equals", "([B[B)Z"⟩ : MethodName)) hown (mvT hZ (hw _ (List.mem_of_getElem? (i := 47) rfl))) (mvT hZ (hw _ (List.mem_of_getElem? (i := 48) rfl))) (mvT hZ (hw _ (List.mem_of_getElem? (i := 49) rfl))) (mvT hZ (hw _ (List.mem_of_getElem? (i := 50) rfl))) (by decide) (backOf (W := 0) (rm4 l Z a0 hw [] c1 c2 k_c1 (37 : Int32) k_c2 (37 : Int32) h0 n0 Z0 V_c1 V_c2) hZ (hw _ (List.mem_of_getElem? (i := 50) rfl)) (hw _ (List.mem_of_getElem? (i := 49) rfl)) (by decide) (by decide)) (g := (mkF m 44 #[.val (.ref a1), .val (.ref a2), .val (.ref a2)] [(.ref c2), (.ref c1)])) rfl (by rw [hml]; rfl) (argsL := [(.ref c1), (.ref c2)]) (rest := []) (lenOf pd_8003_3 rfl) rfl (by show 2 * 0 + _ ≤ _; exact Nat.le_of_eq rfl) (hb hby d8003_44) (fun _ _ => ⟨rfl, e14, (by decide : 0 + 0 ≤ _), (by decide : 0 + 0 ≤ _)⟩)
      dsimp only [Pt.U, Pt.locs, Pt.cells, Pt.slots] at X15 l15 y15 z15 st15 hQ15
      subst l15 y15 z15
      obtain ⟨rfl, N15q, e15⟩ := hQ15
      rw [show (F4 (37 : Int32) (37 : Int32)) = (1 : Int32) from by first | decide | (unfold F4; repeat' split) <;> first | rfl | simp_all] at st15
      have N15 := Fr.app N0 N15q
      obtain ⟨fs, hr, hrun, hended, hW, hsame⟩ := X15.leave (v := some (.int (1 : Int32))) (fun h => by rw [Bd.returns] at h; cases h)
      refine ⟨_, _, pre6 _ ?_, hrun, hended, _, _, rfl, ?_, ⟨_, rfl⟩, hW, hsame.mono (by decide) (by decide)⟩
      · show Steps p.tables e below (T5.setTop (mkF m 22 #[.val (.ref a1), .val (.ref a2), .val (.ref a2)] [(.int w_COMPACT_STRINGS)])) _
        refine XS.ifNo X5.here hx rfl (hb hby d8003_22) rfl ((if0 _ _).trans (feq hc7).1) ?_
        show Steps p.tables e below (T5.setTop (mkF m 25 #[.val (.ref a1), .val (.ref a2), .val (.ref a2)] [])) _
        refine XS.aloadN X5.here hx rfl (hb hby d8003_25) rfl rfl ?_
        show Steps p.tables e below (T5.setTop (mkF m 26 #[.val (.ref a1), .val (.ref a2), .val (.ref a2)] [(.ref a1)])) _
        refine st11 _ ?_
        show Steps p.tables e below (T11.setTop (mkF m 29 #[.val (.ref a1), .val (.ref a2), .val (.ref a2)] [(.int (0 : Int32))])) _
        refine XS.aloadN X11.here hx rfl (hb hby d8003_29) rfl rfl ?_
        show Steps p.tables e below (T11.setTop (mkF m 30 #[.val (.ref a1), .val (.ref a2), .val (.ref a2)] [(.ref a2), (.int (0 : Int32))])) _
        refine st12 _ ?_
        show Steps p.tables e below (T12.setTop (mkF m 33 #[.val (.ref a1), .val (.ref a2), .val (.ref a2)] [(.int (0 : Int32)), (.int (0 : Int32))])) _
        refine XS.icmpNo X12.here hx rfl (hb hby d8003_33) rfl (teq (rfl : (0 : Int32) = (0 : Int32))).2 ?_
        show Steps p.tables e below (T12.setTop (mkF m 36 #[.val (.ref a1), .val (.ref a2), .val (.ref a2)] [])) _
        refine XS.aloadN X12.here hx rfl (hb hby d8003_36) rfl rfl ?_
        show Steps p.tables e below (T12.setTop (mkF m 37 #[.val (.ref a1), .val (.ref a2), .val (.ref a2)] [(.ref a1)])) _
        refine st13 _ ?_
        show Steps p.tables e below (T13.setTop (mkF m 40 #[.val (.ref a1), .val (.ref a2), .val (.ref a2)] [(.ref c1)])) _
        refine XS.aloadN X13.here hx rfl (hb hby d8003_40) rfl rfl ?_
        show Steps p.tables e below (T13.setTop (mkF m 41 #[.val (.ref a1), .val (.ref a2), .val (.ref a2)] [(.ref a2), (.ref c1)])) _
        refine st14 _ ?_
        show Steps p.tables e below (T14.setTop (mkF m 44 #[.val (.ref a1), .val (.ref a2), .val (.ref a2)] [(.ref c2), (.ref c1)])) _
        refine st15 _ ?_
        show Steps p.tables e below (T15.setTop (mkF m 47 #[.val (.ref a1), .val (.ref a2), .val (.ref a2)] [(.int (1 : Int32))])) _
        refine XS.ifNo X15.here hx rfl (hb hby d8003_47) rfl ((if0 _ _).trans (feq (by decide : ¬ ((1 : Int32) = (0 : Int32)))).1) ?_
        show Steps p.tables e below (T15.setTop (mkF m 50 #[.val (.ref a1), .val (.ref a2), .val (.ref a2)] [])) _
        refine XS.iconst X15.here hx rfl (hb hby d8003_50) ?_
        show Steps p.tables e below (T15.setTop (mkF m 51 #[.val (.ref a1), .val (.ref a2), .val (.ref a2)] [(.int (1 : Int32))])) _
        refine XS.goto X15.here hx rfl (pc0 := 51) (pc' := 55) rfl (hb hby d8003_51) (by decide) (by decide) ?_
        show Steps p.tables e below (T15.setTop (mkF m 55 #[.val (.ref a1), .val (.ref a2), .val (.ref a2)] [(.int (1 : Int32))])) _
        exact retN X15 hx (t := .boolean) Bd.returns (by simp) (hb hby d8003_55) hr
      · show Q8003 Z a1 a2 c1 k_c1 c2 k_c2 w_COMPACT_STRINGS h0 n0 _ T15.heap _
        rw [e15]
        refine ⟨?_, N15, rfl⟩
        show (some (.int (1 : Int32)) : Option Value) = some (.int (F8003 a1 a2 w_COMPACT_STRINGS))
        rw [F8003, if_neg hc2, if_neg hc7]
theorem d7_0 : decode prog_23_method_5_code 0 = .ok (.aload_n 0, 1) := by decide +kernel
theorem d7_1 : decode prog_23_method_5_code 1 = .ok (.getfield 42, 3) := by decide +kernel
theorem d7_4 : decode prog_23_method_5_code 4 = .ok (.ireturn, 1) := by decide +kernel
theorem pn_7 : plainName "com/example/preddb/preddb/Program$ArithmeticOperator" = true := by first | (simp [plainName, overriddenIn]; done) | decide +kernel
theorem ef_7 (m : MethodId) (a1 : Addr) : entryFrame m #[(.ref a1)] 1 = mkF m 0 #[.val (.ref a1)] [] := by first | (simp [entryFrame, mkF, argsToLocals, Value.category]; done) | rfl
def F7 (w_level_a1 : Int32) : Int32 := w_level_a1
def Q7 (Z : State) (a1 : Addr) (w_level_a1 : Int32) (h0 : Heap) (n0 : Nat) (v : Option Value) (h : Heap) (L : List Loc) : Prop := v = some (.int (F7 w_level_a1)) ∧ Fr n0 L ∧ h = h0
set_option maxRecDepth 65536 in
set_option maxHeartbeats 40000000 in
theorem rm7 (l : Launch) (Z : State) (a0 : Array Value) (hw : ∀ d ∈ tables_1, d.before a0 Z = true) (ws : List Jvm.Cond) (a1 : Addr) (w_level_a1 : Int32) (h0 : Heap) (n0 : Nat) (Z0 : n0 ≤ h0.size) (F_level_a1 : Fld Z h0 a1 "com/example/preddb/preddb/Program$ArithmeticOperator" "level" "I" (.int w_level_a1)) :
    MetFree l (⟨"com/example/preddb/preddb/Program$ArithmeticOperator", "level", "()I"⟩ : MethodName) (head1 (Jvm.Cond.code (⟨"com/example/preddb/preddb/Program$ArithmeticOperator", "level", "()I"⟩ : MethodName) prog_23_method_5_code 1 (some .int) :: ws) ({ frames := 0, cells := 0, slots := 0, locals := 0 } : Room)) (fun a U => a = #[(.ref a1)] ∧ Z.Warmed39 U.vm ∧ U.heap = h0) (fun _ _ _ _ _ => True) (fun _ U o U' => ∃ v L, o = .returned v ∧ Q7 Z a1 w_level_a1 h0 n0 v U'.heap L ∧ FrameEnd U o U' L ({ frames := 0, cells := 0, slots := 0, locals := 0 } : Room).cells ({ frames := 0, cells := 0, slots := 0, locals := 0 } : Room).slots) := by
  refine MetFree.of_bodySF (plainFor_of_name pn_7) hisR ?_
  intro p e s m args below meth c s₁ Bd hml0 hP hK
  obtain ⟨rfl, hZ, hh⟩ := hP
  skip
  skip
  skip
  skip
  skip
  skip
  have hx := Bd.exec
  have hby := Bd.bytes
  have hml : c.maxLocals = 1 := hml0
  have hown : s.vm.findClass "com/example/preddb/preddb/Program$ArithmeticOperator" = some m.cls := findClass_of_methodNamed Bd.named
  have hnm := (name_of_methodNamed Bd.named Bd.method).1
  have X0 : Stand p l e ({ frames := 0, cells := 0, slots := 0, locals := 0 } : Room) s m #[(.ref a1)] below meth c s₁ [] 0 0 := Stand.of_body Bd
  have e0 : s₁.heap = h0 := by rw [← hh, Bd.state]; rfl
  have N0 := Fr.nil n0
  have pre0 : ∀ t, Steps p.tables e below (s₁.setTop (mkF m 0 #[.val (.ref a1)] [])) t → Steps p.tables e below (s₁.setTop (entryFrame m #[(.ref a1)] 1)) t := fun t k => castTop (ef_7 m a1) k
  obtain ⟨T1, X1, e1, st1⟩ := getF X0 hx hZ hown (host := "") (Or.inl (hw _ (List.mem_of_getElem? (i := 71) rfl))) Via.refl e0 F_level_a1 (g := (mkF m 1 #[.val (.ref a1)] [(.ref a1)])) rfl rfl (hb hby d7_1)
  obtain ⟨fs, hr, hrun, hended, hW, hsame⟩ := X1.leave (v := some (.int w_level_a1)) (fun h => by rw [Bd.returns] at h; cases h)
  refine ⟨_, _, pre0 _ ?_, hrun, hended, _, _, rfl, ?_, ⟨_, rfl⟩, hW, hsame.mono (by decide) (by decide)⟩
  · show Steps p.tables e below (s₁.setTop (mkF m 0 #[.val (.ref a1)] [])) _
    refine XS.aloadN X0.here hx rfl (hb hby d7_0) rfl rfl ?_
    show Steps p.tables e below (s₁.setTop (mkF m 1 #[.val (.ref a1)] [(.ref a1)])) _
    refine st1 _ ?_
    show Steps p.tables e below (T1.setTop (mkF m 4 #[.val (.ref a1)] [(.int w_level_a1)])) _
    exact retI X1 hx Bd.returns (hb hby d7_4) hr
  · show Q7 Z a1 w_level_a1 h0 n0 _ T1.heap _
    rw [e1]
    refine ⟨?_, N0, rfl⟩
    show (some (.int w_level_a1) : Option Value) = some (.int (F7 w_level_a1))
    rw [F7]
theorem d6_0 : decode jdk_37_method_2_code 0 = .ok (.aload_n 0, 1) := by decide +kernel
theorem d6_1 : decode jdk_37_method_2_code 1 = .ok (.getfield 7, 3) := by decide +kernel
theorem d6_4 : decode jdk_37_method_2_code 4 = .ok (.ireturn, 1) := by decide +kernel
theorem pn_6 : plainName "java/lang/Enum" = true := by first | (simp [plainName, overriddenIn]; done) | decide +kernel
theorem ef_6 (m : MethodId) (a1 : Addr) : entryFrame m #[(.ref a1)] 1 = mkF m 0 #[.val (.ref a1)] [] := by first | (simp [entryFrame, mkF, argsToLocals, Value.category]; done) | rfl
def F6 (w_ordinal_a1 : Int32) : Int32 := w_ordinal_a1
def Q6 (Z : State) (a1 : Addr) (w_ordinal_a1 : Int32) (h0 : Heap) (n0 : Nat) (v : Option Value) (h : Heap) (L : List Loc) : Prop := v = some (.int (F6 w_ordinal_a1)) ∧ Fr n0 L ∧ h = h0
set_option maxRecDepth 65536 in
set_option maxHeartbeats 40000000 in
theorem rm6 (l : Launch) (Z : State) (a0 : Array Value) (hw : ∀ d ∈ tables_1, d.before a0 Z = true) (ws : List Jvm.Cond) (a1 : Addr) (w_ordinal_a1 : Int32) (h0 : Heap) (n0 : Nat) (Z0 : n0 ≤ h0.size) (F_ordinal_a1 : Fld Z h0 a1 "java/lang/Enum" "ordinal" "I" (.int w_ordinal_a1)) :
    MetFree l (⟨"java/lang/Enum", "ordinal", "()I"⟩ : MethodName) (head1 (Jvm.Cond.code (⟨"java/lang/Enum", "ordinal", "()I"⟩ : MethodName) jdk_37_method_2_code 1 (some .int) :: ws) ({ frames := 0, cells := 0, slots := 0, locals := 0 } : Room)) (fun a U => a = #[(.ref a1)] ∧ Z.Warmed39 U.vm ∧ U.heap = h0) (fun _ _ _ _ _ => True) (fun _ U o U' => ∃ v L, o = .returned v ∧ Q6 Z a1 w_ordinal_a1 h0 n0 v U'.heap L ∧ FrameEnd U o U' L ({ frames := 0, cells := 0, slots := 0, locals := 0 } : Room).cells ({ frames := 0, cells := 0, slots := 0, locals := 0 } : Room).slots) := by
  refine MetFree.of_bodySF (plainFor_of_name pn_6) hisR ?_
  intro p e s m args below meth c s₁ Bd hml0 hP hK
  obtain ⟨rfl, hZ, hh⟩ := hP
  skip
  skip
  skip
  skip
  skip
  skip
  have hx := Bd.exec
  have hby := Bd.bytes
  have hml : c.maxLocals = 1 := hml0
  have hown : s.vm.findClass "java/lang/Enum" = some m.cls := findClass_of_methodNamed Bd.named
  have hnm := (name_of_methodNamed Bd.named Bd.method).1
  have X0 : Stand p l e ({ frames := 0, cells := 0, slots := 0, locals := 0 } : Room) s m #[(.ref a1)] below meth c s₁ [] 0 0 := Stand.of_body Bd
  have e0 : s₁.heap = h0 := by rw [← hh, Bd.state]; rfl
  have N0 := Fr.nil n0
  have pre0 : ∀ t, Steps p.tables e below (s₁.setTop (mkF m 0 #[.val (.ref a1)] [])) t → Steps p.tables e below (s₁.setTop (entryFrame m #[(.ref a1)] 1)) t := fun t k => castTop (ef_6 m a1) k
  obtain ⟨T1, X1, e1, st1⟩ := getF X0 hx hZ hown (host := "") (Or.inl (hw _ (List.mem_of_getElem? (i := 64) rfl))) Via.refl e0 F_ordinal_a1 (g := (mkF m 1 #[.val (.ref a1)] [(.ref a1)])) rfl rfl (hb hby d6_1)
  obtain ⟨fs, hr, hrun, hended, hW, hsame⟩ := X1.leave (v := some (.int w_ordinal_a1)) (fun h => by rw [Bd.returns] at h; cases h)
  refine ⟨_, _, pre0 _ ?_, hrun, hended, _, _, rfl, ?_, ⟨_, rfl⟩, hW, hsame.mono (by decide) (by decide)⟩
  · show Steps p.tables e below (s₁.setTop (mkF m 0 #[.val (.ref a1)] [])) _
    refine XS.aloadN X0.here hx rfl (hb hby d6_0) rfl rfl ?_
    show Steps p.tables e below (s₁.setTop (mkF m 1 #[.val (.ref a1)] [(.ref a1)])) _
    refine st1 _ ?_
    show Steps p.tables e below (T1.setTop (mkF m 4 #[.val (.ref a1)] [(.int w_ordinal_a1)])) _
    exact retI X1 hx Bd.returns (hb hby d6_4) hr
  · show Q6 Z a1 w_ordinal_a1 h0 n0 _ T1.heap _
    rw [e1]
    refine ⟨?_, N0, rfl⟩
    show (some (.int w_ordinal_a1) : Option Value) = some (.int (F6 w_ordinal_a1))
    rw [F6]
theorem d5_0 : decode prog_23_method_7_code 0 = .ok (.aload_n 0, 1) := by decide +kernel
theorem d5_1 : decode prog_23_method_7_code 1 = .ok (.invokevirtual 46, 3) := by decide +kernel
theorem d5_4 : decode prog_23_method_7_code 4 = .ok (.tableswitch 36 0 4 #[46, 52, 58, 64, 70], 36) := by decide +kernel
theorem d5_50 : decode prog_23_method_7_code 50 = .ok (.lload_n 1, 1) := by decide +kernel
theorem d5_51 : decode prog_23_method_7_code 51 = .ok (.lload_n 3, 1) := by decide +kernel
theorem d5_52 : decode prog_23_method_7_code 52 = .ok (.ladd, 1) := by decide +kernel
theorem d5_53 : decode prog_23_method_7_code 53 = .ok (.goto 24, 3) := by decide +kernel
theorem d5_77 : decode prog_23_method_7_code 77 = .ok (.lreturn, 1) := by decide +kernel
theorem pn_5 : plainName "com/example/preddb/preddb/Program$ArithmeticOperator" = true := by first | (simp [plainName, overriddenIn]; done) | decide +kernel
theorem pd_5_5 : parseMethodDescriptor "()I" = some ⟨[], some .int⟩ := by decide +kernel
theorem ef_5 (m : MethodId) (a1 : Addr) (q2 : Int64) (q3 : Int64) : entryFrame m #[(.ref a1), (.long q2), (.long q3)] 5 = mkF m 0 #[.val (.ref a1), .val (.long q2), .second, .val (.long q3), .second] [] := by first | (simp [entryFrame, mkF, argsToLocals, Value.category]; done) | rfl
def F5 (q2 : Int64) (q3 : Int64) : Int64 := (q2 + q3)
def Q5 (Z : State) (a1 : Addr) (q2 : Int64) (q3 : Int64) (h0 : Heap) (n0 : Nat) (v : Option Value) (h : Heap) (L : List Loc) : Prop := v = some (.long (F5 q2 q3)) ∧ Fr n0 L ∧ h = h0
set_option maxRecDepth 65536 in
set_option maxHeartbeats 40000000 in
theorem rm5 (l : Launch) (Z : State) (a0 : Array Value) (hw : ∀ d ∈ tables_1, d.before a0 Z = true) (ws : List Jvm.Cond) (a1 : Addr) (q2 : Int64) (q3 : Int64) (h0 : Heap) (n0 : Nat) (Z0 : n0 ≤ h0.size) (E_a1 : Exa Z h0 a1 "com/example/preddb/preddb/Program$ArithmeticOperator") (F_ordinal_a1 : Fld Z h0 a1 "java/lang/Enum" "ordinal" "I" (.int (0 : Int32))) :
    MetFree l (⟨"com/example/preddb/preddb/Program$ArithmeticOperator", "apply", "(JJ)J"⟩ : MethodName) (head1 (Jvm.Cond.code (⟨"com/example/preddb/preddb/Program$ArithmeticOperator", "apply", "(JJ)J"⟩ : MethodName) prog_23_method_7_code 5 (some .long) :: ws) ({ frames := 1, cells := 0, slots := 0, locals := 12 } : Room)) (fun a U => a = #[(.ref a1), (.long q2), (.long q3)] ∧ Z.Warmed39 U.vm ∧ U.heap = h0) (fun _ _ _ _ _ => True) (fun _ U o U' => ∃ v L, o = .returned v ∧ Q5 Z a1 q2 q3 h0 n0 v U'.heap L ∧ FrameEnd U o U' L ({ frames := 1, cells := 0, slots := 0, locals := 12 } : Room).cells ({ frames := 1, cells := 0, slots := 0, locals := 12 } : Room).slots) := by
  refine MetFree.of_bodySF (plainFor_of_name pn_5) hisR ?_
  intro p e s m args below meth c s₁ Bd hml0 hP hK
  obtain ⟨rfl, hZ, hh⟩ := hP
  skip
  skip
  skip
  skip
  skip
  skip
  have hx := Bd.exec
  have hby := Bd.bytes
  have hml : c.maxLocals = 5 := hml0
  have hown : s.vm.findClass "com/example/preddb/preddb/Program$ArithmeticOperator" = some m.cls := findClass_of_methodNamed Bd.named
  have hnm := (name_of_methodNamed Bd.named Bd.method).1
  have X0 : Stand p l e ({ frames := 1, cells := 0, slots := 0, locals := 12 } : Room) s m #[(.ref a1), (.long q2), (.long q3)] below meth c s₁ [] 0 0 := Stand.of_body Bd
  have e0 : s₁.heap = h0 := by rw [← hh, Bd.state]; rfl
  have N0 := Fr.nil n0
  have pre0 : ∀ t, Steps p.tables e below (s₁.setTop (mkF m 0 #[.val (.ref a1), .val (.long q2), .second, .val (.long q3), .second] [])) t → Steps p.tables e below (s₁.setTop (entryFrame m #[(.ref a1), (.long q2), (.long q3)] 5)) t := fun t k => castTop (ef_5 m a1 q2 q3) k
  obtain ⟨cq1, kq1, iq1a, iq1b, iq1c⟩ := isOf hZ e0 E_a1
  obtain ⟨_, _, ⟨T1, L1, k1, n1⟩, -, X1, ⟨Lc1, hQ1, l1, y1, z1⟩, st1⟩ := X0.virtualBackUp hx (x := (⟨"com/example/preddb/preddb/Program$ArithmeticOperator", "ordinal", "()I"⟩ : MethodName)) (y := (⟨"java/lang/Enum", "ordinal", "()I"⟩ : MethodName)) (owner := "java/lang/Enum") hown (mvT hZ (hw _ (List.mem_of_getElem? (i := 57) rfl))) (mvT hZ (hw _ (List.mem_of_getElem? (i := 58) rfl))) (mvT hZ (hw _ (List.mem_of_getElem? (i := 59) rfl))) (by decide) (mvT hZ (hw _ (List.mem_of_getElem? (i := 61) rfl))) (mvT hZ (hw _ (List.mem_of_getElem? (i := 60) rfl))) (backOf (W := 0) (rm6 l Z a0 hw [] a1 (0 : Int32) h0 n0 Z0 F_ordinal_a1) hZ (hw _ (List.mem_of_getElem? (i := 63) rfl)) (hw _ (List.mem_of_getElem? (i := 62) rfl)) (by decide) (by decide)) iq1a iq1c (g := (mkF m 1 #[.val (.ref a1), .val (.long q2), .second, .val (.long q3), .second] [(.ref a1)])) rfl (by rw [hml]; rfl) (Steps.refl _) (argsL := []) (rest := []) (lenOf pd_5_5 rfl) rfl (by show 2 * 0 + _ ≤ _; exact Nat.le_of_eq rfl) (hb hby d5_1) (fun _ _ => ⟨rfl, e0, (by decide : 0 + 0 ≤ _), (by decide : 0 + 0 ≤ _)⟩)
  dsimp only [Pt.U, Pt.locs, Pt.cells, Pt.slots] at X1 l1 y1 z1 st1 hQ1
  subst l1 y1 z1
  obtain ⟨rfl, N1q, e1⟩ := hQ1
  rw [show (F6 (0 : Int32)) = (0 : Int32) from by first | decide | (unfold F6; repeat' split) <;> first | rfl | simp_all] at st1
  have N1 := Fr.app N0 N1q
  obtain ⟨fs, hr, hrun, hended, hW, hsame⟩ := X1.leave (v := some (.long (q2 + q3))) (fun h => by rw [Bd.returns] at h; cases h)
  refine ⟨_, _, pre0 _ ?_, hrun, hended, _, _, rfl, ?_, ⟨_, rfl⟩, hW, hsame.mono (by decide) (by decide)⟩
  · show Steps p.tables e below (s₁.setTop (mkF m 0 #[.val (.ref a1), .val (.long q2), .second, .val (.long q3), .second] [])) _
    refine XS.aloadN X0.here hx rfl (hb hby d5_0) rfl rfl ?_
    show Steps p.tables e below (s₁.setTop (mkF m 1 #[.val (.ref a1), .val (.long q2), .second, .val (.long q3), .second] [(.ref a1)])) _
    refine st1.trans ?_
    show Steps p.tables e below (T1.setTop (mkF m 4 #[.val (.ref a1), .val (.long q2), .second, .val (.long q3), .second] [(.int (0 : Int32))])) _
    refine XS.tswIn X1.here hx rfl (pc0 := 4) (pc' := 50) rfl (hb hby d5_4) rfl (by decide) rfl (by decide) (by decide) ?_
    show Steps p.tables e below (T1.setTop (mkF m 50 #[.val (.ref a1), .val (.long q2), .second, .val (.long q3), .second] [])) _
    refine XS.lloadN X1.here hx rfl (hb hby d5_50) rfl ?_
    show Steps p.tables e below (T1.setTop (mkF m 51 #[.val (.ref a1), .val (.long q2), .second, .val (.long q3), .second] [(.long q2)])) _
    refine XS.lloadN X1.here hx rfl (hb hby d5_51) rfl ?_
    show Steps p.tables e below (T1.setTop (mkF m 52 #[.val (.ref a1), .val (.long q2), .second, .val (.long q3), .second] [(.long q3), (.long q2)])) _
    refine XS.ladd X1.here hx rfl (hb hby d5_52) rfl ?_
    show Steps p.tables e below (T1.setTop (mkF m 53 #[.val (.ref a1), .val (.long q2), .second, .val (.long q3), .second] [(.long (q2 + q3))])) _
    refine XS.goto X1.here hx rfl (pc0 := 53) (pc' := 77) rfl (hb hby d5_53) (by decide) (by decide) ?_
    show Steps p.tables e below (T1.setTop (mkF m 77 #[.val (.ref a1), .val (.long q2), .second, .val (.long q3), .second] [(.long (q2 + q3))])) _
    exact lreturnOut X1 hx Bd.returns (hb hby d5_77) hr
  · show Q5 Z a1 q2 q3 h0 n0 _ T1.heap _
    rw [e1]
    refine ⟨?_, N1, rfl⟩
    show (some (.long (q2 + q3)) : Option Value) = some (.long (F5 q2 q3))
    rw [F5]
theorem d1005_0 : decode prog_23_method_7_code 0 = .ok (.aload_n 0, 1) := by decide +kernel
theorem d1005_1 : decode prog_23_method_7_code 1 = .ok (.invokevirtual 46, 3) := by decide +kernel
theorem d1005_4 : decode prog_23_method_7_code 4 = .ok (.tableswitch 36 0 4 #[46, 52, 58, 64, 70], 36) := by decide +kernel
theorem d1005_56 : decode prog_23_method_7_code 56 = .ok (.lload_n 1, 1) := by decide +kernel
theorem d1005_57 : decode prog_23_method_7_code 57 = .ok (.lload_n 3, 1) := by decide +kernel
theorem d1005_58 : decode prog_23_method_7_code 58 = .ok (.lsub, 1) := by decide +kernel
theorem d1005_59 : decode prog_23_method_7_code 59 = .ok (.goto 18, 3) := by decide +kernel
theorem d1005_77 : decode prog_23_method_7_code 77 = .ok (.lreturn, 1) := by decide +kernel
theorem pn_1005 : plainName "com/example/preddb/preddb/Program$ArithmeticOperator" = true := by first | (simp [plainName, overriddenIn]; done) | decide +kernel
theorem pd_1005_5 : parseMethodDescriptor "()I" = some ⟨[], some .int⟩ := by decide +kernel
theorem ef_1005 (m : MethodId) (a1 : Addr) (q2 : Int64) (q3 : Int64) : entryFrame m #[(.ref a1), (.long q2), (.long q3)] 5 = mkF m 0 #[.val (.ref a1), .val (.long q2), .second, .val (.long q3), .second] [] := by first | (simp [entryFrame, mkF, argsToLocals, Value.category]; done) | rfl
def F1005 (q2 : Int64) (q3 : Int64) : Int64 := (q2 - q3)
def Q1005 (Z : State) (a1 : Addr) (q2 : Int64) (q3 : Int64) (h0 : Heap) (n0 : Nat) (v : Option Value) (h : Heap) (L : List Loc) : Prop := v = some (.long (F1005 q2 q3)) ∧ Fr n0 L ∧ h = h0
set_option maxRecDepth 65536 in
set_option maxHeartbeats 40000000 in
theorem rm1005 (l : Launch) (Z : State) (a0 : Array Value) (hw : ∀ d ∈ tables_1, d.before a0 Z = true) (ws : List Jvm.Cond) (a1 : Addr) (q2 : Int64) (q3 : Int64) (h0 : Heap) (n0 : Nat) (Z0 : n0 ≤ h0.size) (E_a1 : Exa Z h0 a1 "com/example/preddb/preddb/Program$ArithmeticOperator") (F_ordinal_a1 : Fld Z h0 a1 "java/lang/Enum" "ordinal" "I" (.int (1 : Int32))) :
    MetFree l (⟨"com/example/preddb/preddb/Program$ArithmeticOperator", "apply", "(JJ)J"⟩ : MethodName) (head1 (Jvm.Cond.code (⟨"com/example/preddb/preddb/Program$ArithmeticOperator", "apply", "(JJ)J"⟩ : MethodName) prog_23_method_7_code 5 (some .long) :: ws) ({ frames := 1, cells := 0, slots := 0, locals := 12 } : Room)) (fun a U => a = #[(.ref a1), (.long q2), (.long q3)] ∧ Z.Warmed39 U.vm ∧ U.heap = h0) (fun _ _ _ _ _ => True) (fun _ U o U' => ∃ v L, o = .returned v ∧ Q1005 Z a1 q2 q3 h0 n0 v U'.heap L ∧ FrameEnd U o U' L ({ frames := 1, cells := 0, slots := 0, locals := 12 } : Room).cells ({ frames := 1, cells := 0, slots := 0, locals := 12 } : Room).slots) := by
  refine MetFree.of_bodySF (plainFor_of_name pn_1005) hisR ?_
  intro p e s m args below meth c s₁ Bd hml0 hP hK
  obtain ⟨rfl, hZ, hh⟩ := hP
  skip
  skip
  skip
  skip
  skip
  skip
  have hx := Bd.exec
  have hby := Bd.bytes
  have hml : c.maxLocals = 5 := hml0
  have hown : s.vm.findClass "com/example/preddb/preddb/Program$ArithmeticOperator" = some m.cls := findClass_of_methodNamed Bd.named
  have hnm := (name_of_methodNamed Bd.named Bd.method).1
  have X0 : Stand p l e ({ frames := 1, cells := 0, slots := 0, locals := 12 } : Room) s m #[(.ref a1), (.long q2), (.long q3)] below meth c s₁ [] 0 0 := Stand.of_body Bd
  have e0 : s₁.heap = h0 := by rw [← hh, Bd.state]; rfl
  have N0 := Fr.nil n0
  have pre0 : ∀ t, Steps p.tables e below (s₁.setTop (mkF m 0 #[.val (.ref a1), .val (.long q2), .second, .val (.long q3), .second] [])) t → Steps p.tables e below (s₁.setTop (entryFrame m #[(.ref a1), (.long q2), (.long q3)] 5)) t := fun t k => castTop (ef_1005 m a1 q2 q3) k
  obtain ⟨cq1, kq1, iq1a, iq1b, iq1c⟩ := isOf hZ e0 E_a1
  obtain ⟨_, _, ⟨T1, L1, k1, n1⟩, -, X1, ⟨Lc1, hQ1, l1, y1, z1⟩, st1⟩ := X0.virtualBackUp hx (x := (⟨"com/example/preddb/preddb/Program$ArithmeticOperator", "ordinal", "()I"⟩ : MethodName)) (y := (⟨"java/lang/Enum", "ordinal", "()I"⟩ : MethodName)) (owner := "java/lang/Enum") hown (mvT hZ (hw _ (List.mem_of_getElem? (i := 57) rfl))) (mvT hZ (hw _ (List.mem_of_getElem? (i := 58) rfl))) (mvT hZ (hw _ (List.mem_of_getElem? (i := 59) rfl))) (by decide) (mvT hZ (hw _ (List.mem_of_getElem? (i := 61) rfl))) (mvT hZ (hw _ (List.mem_of_getElem? (i := 60) rfl))) (backOf (W := 0) (rm6 l Z a0 hw [] a1 (1 : Int32) h0 n0 Z0 F_ordinal_a1) hZ (hw _ (List.mem_of_getElem? (i := 63) rfl)) (hw _ (List.mem_of_getElem? (i := 62) rfl)) (by decide) (by decide)) iq1a iq1c (g := (mkF m 1 #[.val (.ref a1), .val (.long q2), .second, .val (.long q3), .second] [(.ref a1)])) rfl (by rw [hml]; rfl) (Steps.refl _) (argsL := []) (rest := []) (lenOf pd_1005_5 rfl) rfl (by show 2 * 0 + _ ≤ _; exact Nat.le_of_eq rfl) (hb hby d1005_1) (fun _ _ => ⟨rfl, e0, (by decide : 0 + 0 ≤ _), (by decide : 0 + 0 ≤ _)⟩)
  dsimp only [Pt.U, Pt.locs, Pt.cells, Pt.slots] at X1 l1 y1 z1 st1 hQ1
  subst l1 y1 z1
  obtain ⟨rfl, N1q, e1⟩ := hQ1
  rw [show (F6 (1 : Int32)) = (1 : Int32) from by first | decide | (unfold F6; repeat' split) <;> first | rfl | simp_all] at st1
  have N1 := Fr.app N0 N1q
  obtain ⟨fs, hr, hrun, hended, hW, hsame⟩ := X1.leave (v := some (.long (q2 - q3))) (fun h => by rw [Bd.returns] at h; cases h)
  refine ⟨_, _, pre0 _ ?_, hrun, hended, _, _, rfl, ?_, ⟨_, rfl⟩, hW, hsame.mono (by decide) (by decide)⟩
  · show Steps p.tables e below (s₁.setTop (mkF m 0 #[.val (.ref a1), .val (.long q2), .second, .val (.long q3), .second] [])) _
    refine XS.aloadN X0.here hx rfl (hb hby d1005_0) rfl rfl ?_
    show Steps p.tables e below (s₁.setTop (mkF m 1 #[.val (.ref a1), .val (.long q2), .second, .val (.long q3), .second] [(.ref a1)])) _
    refine st1.trans ?_
    show Steps p.tables e below (T1.setTop (mkF m 4 #[.val (.ref a1), .val (.long q2), .second, .val (.long q3), .second] [(.int (1 : Int32))])) _
    refine XS.tswIn X1.here hx rfl (pc0 := 4) (pc' := 56) rfl (hb hby d1005_4) rfl (by decide) rfl (by decide) (by decide) ?_
    show Steps p.tables e below (T1.setTop (mkF m 56 #[.val (.ref a1), .val (.long q2), .second, .val (.long q3), .second] [])) _
    refine XS.lloadN X1.here hx rfl (hb hby d1005_56) rfl ?_
    show Steps p.tables e below (T1.setTop (mkF m 57 #[.val (.ref a1), .val (.long q2), .second, .val (.long q3), .second] [(.long q2)])) _
    refine XS.lloadN X1.here hx rfl (hb hby d1005_57) rfl ?_
    show Steps p.tables e below (T1.setTop (mkF m 58 #[.val (.ref a1), .val (.long q2), .second, .val (.long q3), .second] [(.long q3), (.long q2)])) _
    refine XS.lsub X1.here hx rfl (hb hby d1005_58) rfl ?_
    show Steps p.tables e below (T1.setTop (mkF m 59 #[.val (.ref a1), .val (.long q2), .second, .val (.long q3), .second] [(.long (q2 - q3))])) _
    refine XS.goto X1.here hx rfl (pc0 := 59) (pc' := 77) rfl (hb hby d1005_59) (by decide) (by decide) ?_
    show Steps p.tables e below (T1.setTop (mkF m 77 #[.val (.ref a1), .val (.long q2), .second, .val (.long q3), .second] [(.long (q2 - q3))])) _
    exact lreturnOut X1 hx Bd.returns (hb hby d1005_77) hr
  · show Q1005 Z a1 q2 q3 h0 n0 _ T1.heap _
    rw [e1]
    refine ⟨?_, N1, rfl⟩
    show (some (.long (q2 - q3)) : Option Value) = some (.long (F1005 q2 q3))
    rw [F1005]
theorem d2005_0 : decode prog_23_method_7_code 0 = .ok (.aload_n 0, 1) := by decide +kernel
theorem d2005_1 : decode prog_23_method_7_code 1 = .ok (.invokevirtual 46, 3) := by decide +kernel
theorem d2005_4 : decode prog_23_method_7_code 4 = .ok (.tableswitch 36 0 4 #[46, 52, 58, 64, 70], 36) := by decide +kernel
theorem d2005_62 : decode prog_23_method_7_code 62 = .ok (.lload_n 1, 1) := by decide +kernel
theorem d2005_63 : decode prog_23_method_7_code 63 = .ok (.lload_n 3, 1) := by decide +kernel
theorem d2005_64 : decode prog_23_method_7_code 64 = .ok (.lmul, 1) := by decide +kernel
theorem d2005_65 : decode prog_23_method_7_code 65 = .ok (.goto 12, 3) := by decide +kernel
theorem d2005_77 : decode prog_23_method_7_code 77 = .ok (.lreturn, 1) := by decide +kernel
theorem pn_2005 : plainName "com/example/preddb/preddb/Program$ArithmeticOperator" = true := by first | (simp [plainName, overriddenIn]; done) | decide +kernel
theorem pd_2005_5 : parseMethodDescriptor "()I" = some ⟨[], some .int⟩ := by decide +kernel
theorem ef_2005 (m : MethodId) (a1 : Addr) (q2 : Int64) (q3 : Int64) : entryFrame m #[(.ref a1), (.long q2), (.long q3)] 5 = mkF m 0 #[.val (.ref a1), .val (.long q2), .second, .val (.long q3), .second] [] := by first | (simp [entryFrame, mkF, argsToLocals, Value.category]; done) | rfl
def F2005 (q2 : Int64) (q3 : Int64) : Int64 := (q2 * q3)
def Q2005 (Z : State) (a1 : Addr) (q2 : Int64) (q3 : Int64) (h0 : Heap) (n0 : Nat) (v : Option Value) (h : Heap) (L : List Loc) : Prop := v = some (.long (F2005 q2 q3)) ∧ Fr n0 L ∧ h = h0
set_option maxRecDepth 65536 in
set_option maxHeartbeats 40000000 in
theorem rm2005 (l : Launch) (Z : State) (a0 : Array Value) (hw : ∀ d ∈ tables_1, d.before a0 Z = true) (ws : List Jvm.Cond) (a1 : Addr) (q2 : Int64) (q3 : Int64) (h0 : Heap) (n0 : Nat) (Z0 : n0 ≤ h0.size) (E_a1 : Exa Z h0 a1 "com/example/preddb/preddb/Program$ArithmeticOperator") (F_ordinal_a1 : Fld Z h0 a1 "java/lang/Enum" "ordinal" "I" (.int (2 : Int32))) :
    MetFree l (⟨"com/example/preddb/preddb/Program$ArithmeticOperator", "apply", "(JJ)J"⟩ : MethodName) (head1 (Jvm.Cond.code (⟨"com/example/preddb/preddb/Program$ArithmeticOperator", "apply", "(JJ)J"⟩ : MethodName) prog_23_method_7_code 5 (some .long) :: ws) ({ frames := 1, cells := 0, slots := 0, locals := 12 } : Room)) (fun a U => a = #[(.ref a1), (.long q2), (.long q3)] ∧ Z.Warmed39 U.vm ∧ U.heap = h0) (fun _ _ _ _ _ => True) (fun _ U o U' => ∃ v L, o = .returned v ∧ Q2005 Z a1 q2 q3 h0 n0 v U'.heap L ∧ FrameEnd U o U' L ({ frames := 1, cells := 0, slots := 0, locals := 12 } : Room).cells ({ frames := 1, cells := 0, slots := 0, locals := 12 } : Room).slots) := by
  refine MetFree.of_bodySF (plainFor_of_name pn_2005) hisR ?_
  intro p e s m args below meth c s₁ Bd hml0 hP hK
  obtain ⟨rfl, hZ, hh⟩ := hP
  skip
  skip
  skip
  skip
  skip
  skip
  have hx := Bd.exec
  have hby := Bd.bytes
  have hml : c.maxLocals = 5 := hml0
  have hown : s.vm.findClass "com/example/preddb/preddb/Program$ArithmeticOperator" = some m.cls := findClass_of_methodNamed Bd.named
  have hnm := (name_of_methodNamed Bd.named Bd.method).1
  have X0 : Stand p l e ({ frames := 1, cells := 0, slots := 0, locals := 12 } : Room) s m #[(.ref a1), (.long q2), (.long q3)] below meth c s₁ [] 0 0 := Stand.of_body Bd
  have e0 : s₁.heap = h0 := by rw [← hh, Bd.state]; rfl
  have N0 := Fr.nil n0
  have pre0 : ∀ t, Steps p.tables e below (s₁.setTop (mkF m 0 #[.val (.ref a1), .val (.long q2), .second, .val (.long q3), .second] [])) t → Steps p.tables e below (s₁.setTop (entryFrame m #[(.ref a1), (.long q2), (.long q3)] 5)) t := fun t k => castTop (ef_2005 m a1 q2 q3) k
  obtain ⟨cq1, kq1, iq1a, iq1b, iq1c⟩ := isOf hZ e0 E_a1
  obtain ⟨_, _, ⟨T1, L1, k1, n1⟩, -, X1, ⟨Lc1, hQ1, l1, y1, z1⟩, st1⟩ := X0.virtualBackUp hx (x := (⟨"com/example/preddb/preddb/Program$ArithmeticOperator", "ordinal", "()I"⟩ : MethodName)) (y := (⟨"java/lang/Enum", "ordinal", "()I"⟩ : MethodName)) (owner := "java/lang/Enum") hown (mvT hZ (hw _ (List.mem_of_getElem? (i := 57) rfl))) (mvT hZ (hw _ (List.mem_of_getElem? (i := 58) rfl))) (mvT hZ (hw _ (List.mem_of_getElem? (i := 59) rfl))) (by decide) (mvT hZ (hw _ (List.mem_of_getElem? (i := 61) rfl))) (mvT hZ (hw _ (List.mem_of_getElem? (i := 60) rfl))) (backOf (W := 0) (rm6 l Z a0 hw [] a1 (2 : Int32) h0 n0 Z0 F_ordinal_a1) hZ (hw _ (List.mem_of_getElem? (i := 63) rfl)) (hw _ (List.mem_of_getElem? (i := 62) rfl)) (by decide) (by decide)) iq1a iq1c (g := (mkF m 1 #[.val (.ref a1), .val (.long q2), .second, .val (.long q3), .second] [(.ref a1)])) rfl (by rw [hml]; rfl) (Steps.refl _) (argsL := []) (rest := []) (lenOf pd_2005_5 rfl) rfl (by show 2 * 0 + _ ≤ _; exact Nat.le_of_eq rfl) (hb hby d2005_1) (fun _ _ => ⟨rfl, e0, (by decide : 0 + 0 ≤ _), (by decide : 0 + 0 ≤ _)⟩)
  dsimp only [Pt.U, Pt.locs, Pt.cells, Pt.slots] at X1 l1 y1 z1 st1 hQ1
  subst l1 y1 z1
  obtain ⟨rfl, N1q, e1⟩ := hQ1
  rw [show (F6 (2 : Int32)) = (2 : Int32) from by first | decide | (unfold F6; repeat' split) <;> first | rfl | simp_all] at st1
  have N1 := Fr.app N0 N1q
  obtain ⟨fs, hr, hrun, hended, hW, hsame⟩ := X1.leave (v := some (.long (q2 * q3))) (fun h => by rw [Bd.returns] at h; cases h)
  refine ⟨_, _, pre0 _ ?_, hrun, hended, _, _, rfl, ?_, ⟨_, rfl⟩, hW, hsame.mono (by decide) (by decide)⟩
  · show Steps p.tables e below (s₁.setTop (mkF m 0 #[.val (.ref a1), .val (.long q2), .second, .val (.long q3), .second] [])) _
    refine XS.aloadN X0.here hx rfl (hb hby d2005_0) rfl rfl ?_
    show Steps p.tables e below (s₁.setTop (mkF m 1 #[.val (.ref a1), .val (.long q2), .second, .val (.long q3), .second] [(.ref a1)])) _
    refine st1.trans ?_
    show Steps p.tables e below (T1.setTop (mkF m 4 #[.val (.ref a1), .val (.long q2), .second, .val (.long q3), .second] [(.int (2 : Int32))])) _
    refine XS.tswIn X1.here hx rfl (pc0 := 4) (pc' := 62) rfl (hb hby d2005_4) rfl (by decide) rfl (by decide) (by decide) ?_
    show Steps p.tables e below (T1.setTop (mkF m 62 #[.val (.ref a1), .val (.long q2), .second, .val (.long q3), .second] [])) _
    refine XS.lloadN X1.here hx rfl (hb hby d2005_62) rfl ?_
    show Steps p.tables e below (T1.setTop (mkF m 63 #[.val (.ref a1), .val (.long q2), .second, .val (.long q3), .second] [(.long q2)])) _
    refine XS.lloadN X1.here hx rfl (hb hby d2005_63) rfl ?_
    show Steps p.tables e below (T1.setTop (mkF m 64 #[.val (.ref a1), .val (.long q2), .second, .val (.long q3), .second] [(.long q3), (.long q2)])) _
    refine XS.lmul X1.here hx rfl (hb hby d2005_64) rfl ?_
    show Steps p.tables e below (T1.setTop (mkF m 65 #[.val (.ref a1), .val (.long q2), .second, .val (.long q3), .second] [(.long (q2 * q3))])) _
    refine XS.goto X1.here hx rfl (pc0 := 65) (pc' := 77) rfl (hb hby d2005_65) (by decide) (by decide) ?_
    show Steps p.tables e below (T1.setTop (mkF m 77 #[.val (.ref a1), .val (.long q2), .second, .val (.long q3), .second] [(.long (q2 * q3))])) _
    exact lreturnOut X1 hx Bd.returns (hb hby d2005_77) hr
  · show Q2005 Z a1 q2 q3 h0 n0 _ T1.heap _
    rw [e1]
    refine ⟨?_, N1, rfl⟩
    show (some (.long (q2 * q3)) : Option Value) = some (.long (F2005 q2 q3))
    rw [F2005]
theorem pn_0 : plainName "com/example/preddb/preddb/ArithmeticOperatorDividesPinLaw" = true := by first | (simp [plainName, overriddenIn]; done) | decide +kernel
theorem pd_0_0 : parseMethodDescriptor "()Z" = some ⟨[], some .boolean⟩ := by decide +kernel
theorem pd_0_1 : parseMethodDescriptor "()Ljava/lang/String;" = some ⟨[], some (.object "java/lang/String")⟩ := by decide +kernel
theorem pd_0_2 : parseMethodDescriptor "(Ljava/lang/Object;)Z" = some ⟨[(.object "java/lang/Object")], some .boolean⟩ := by decide +kernel
theorem pd_0_4 : parseMethodDescriptor "(JJ)J" = some ⟨[.long, .long], some .long⟩ := by decide +kernel
theorem pd_0_5 : parseMethodDescriptor "()I" = some ⟨[], some .int⟩ := by decide +kernel
theorem ef_0 (m : MethodId) (p1 : Int32) (q2 : Int64) : entryFrame m #[(.int p1), (.long q2)] maxLocals = mkF m 0 #[.val (.int p1), .val (.long q2), .second, .unset, .unset, .unset, .unset, .unset, .unset, .unset] [] := by first | (simp [entryFrame, mkF, argsToLocals, Value.category, maxLocals]; done) | rfl
set_option maxRecDepth 65536 in
set_option maxHeartbeats 40000000 in
theorem case_0_42 (p1 : Int32) (q2 : Int64) : ((p1 &&& (2147483647 : Int32)) % (5 : Int32)) = (0 : Int32) ∨ ((p1 &&& (2147483647 : Int32)) % (5 : Int32)) = (1 : Int32) ∨ ((p1 &&& (2147483647 : Int32)) % (5 : Int32)) = (2 : Int32) ∨ ((p1 &&& (2147483647 : Int32)) % (5 : Int32)) = (3 : Int32) ∨ ((p1 &&& (2147483647 : Int32)) % (5 : Int32)) = (4 : Int32) := by
  have m1 : (p1 &&& 2147483647).toInt = p1.toInt % 2 ^ 31 := Jvm.Kit.i32_mask p1 2147483647 (k := 31) (by decide) (by decide)
  have d := (own_dm (p1 &&& 2147483647) 5 (by decide)).1 (by omega)
  simp only [own_eqI, Int32.reduceToInt] at d ⊢
  omega
set_option maxRecDepth 65536 in
set_option maxHeartbeats 40000000 in
theorem leaf_0_3 (p1 : Int32) (q2 : Int64) (w_COMPACT_STRINGS : Int32) (hk23 : ((p1 &&& (2147483647 : Int32)) % (5 : Int32)) = (0 : Int32)) (hc53 : ¬ ((lcmpW (F5 q2 (0 : Int64)) q2) = (0 : Int32))) (hc55 : ¬ ((lcmpW (F5 q2 (0 : Int64)) (0 : Int64)) = (0 : Int32))) : False := by
  exact ‹¬ (lcmpW (F5 q2 (0 : Int64)) q2 = (0 : Int32))› (by rw [F5, Int64.add_zero, own_lc])
set_option maxRecDepth 65536 in
set_option maxHeartbeats 40000000 in
theorem leaf_0_6 (p1 : Int32) (q2 : Int64) (w_COMPACT_STRINGS : Int32) (hk23 : ((p1 &&& (2147483647 : Int32)) % (5 : Int32)) = (1 : Int32)) (hc85 : ¬ ((lcmpW (F1005 q2 (0 : Int64)) q2) = (0 : Int32))) (hc87 : ¬ ((lcmpW (F1005 q2 (0 : Int64)) (0 : Int64)) = (0 : Int32))) : False := by
  exact ‹¬ (lcmpW (F1005 q2 (0 : Int64)) q2 = (0 : Int32))› (by rw [F1005, Int64.sub_zero, own_lc])
set_option maxRecDepth 65536 in
set_option maxHeartbeats 40000000 in
theorem leaf_0_9 (p1 : Int32) (q2 : Int64) (w_COMPACT_STRINGS : Int32) (hk23 : ((p1 &&& (2147483647 : Int32)) % (5 : Int32)) = (2 : Int32)) (hc117 : ¬ ((lcmpW (F2005 q2 (0 : Int64)) q2) = (0 : Int32))) (hc119 : ¬ ((lcmpW (F2005 q2 (0 : Int64)) (0 : Int64)) = (0 : Int32))) : False := by
  exact ‹¬ (lcmpW (F2005 q2 (0 : Int64)) (0 : Int64) = (0 : Int32))› (by rw [F2005, Int64.mul_zero, own_lc])
def Q0 (Z : State) (p1 : Int32) (q2 : Int64) (w_PLUS : Addr) (t_PLUS : Addr) (v_PLUS : Addr) (k_v_PLUS : ClassId) (w_MINUS : Addr) (t_MINUS : Addr) (v_MINUS : Addr) (k_v_MINUS : ClassId) (w_TIMES : Addr) (t_TIMES : Addr) (v_TIMES : Addr) (k_v_TIMES : ClassId) (w_DIVIDE : Addr) (t_DIVIDE : Addr) (v_DIVIDE : Addr) (k_v_DIVIDE : ClassId) (w_REMAINDER : Addr) (t_REMAINDER : Addr) (v_REMAINDER : Addr) (k_v_REMAINDER : ClassId) (w_COMPACT_STRINGS : Int32) (h0 : Heap) (n0 : Nat) (v : Option Value) (h : Heap) (L : List Loc) : Prop := v = some (.int (1 : Int32)) ∧ Fr n0 L
set_option maxRecDepth 65536 in
set_option maxHeartbeats 40000000 in
theorem rm0 (l : Launch) (Z : State) (a0 : Array Value) (hw : ∀ d ∈ tables_1, d.before a0 Z = true) (ws : List Jvm.Cond) (p1 : Int32) (q2 : Int64) (w_PLUS : Addr) (t_PLUS : Addr) (v_PLUS : Addr) (k_v_PLUS : ClassId) (w_MINUS : Addr) (t_MINUS : Addr) (v_MINUS : Addr) (k_v_MINUS : ClassId) (w_TIMES : Addr) (t_TIMES : Addr) (v_TIMES : Addr) (k_v_TIMES : ClassId) (w_DIVIDE : Addr) (t_DIVIDE : Addr) (v_DIVIDE : Addr) (k_v_DIVIDE : ClassId) (w_REMAINDER : Addr) (t_REMAINDER : Addr) (v_REMAINDER : Addr) (k_v_REMAINDER : ClassId) (w_COMPACT_STRINGS : Int32) (h0 : Heap) (n0 : Nat) (Z0 : n0 ≤ h0.size) (hh0 : h0 = Z.heap) (hn0 : n0 = Z.heap.size) (hcw : Jvm.Lit.compactW.before a0 Z = true) (E_w_PLUS : Exa Z h0 w_PLUS "com/example/preddb/preddb/Program$ArithmeticOperator") (F_ordinal_w_PLUS : Fld Z h0 w_PLUS "java/lang/Enum" "ordinal" "I" (.int (0 : Int32))) (F_token_w_PLUS : Fld Z h0 w_PLUS "com/example/preddb/preddb/Program$ArithmeticOperator" "token" "Ljava/lang/String;" (.ref t_PLUS)) (F_level_w_PLUS : Fld Z h0 w_PLUS "com/example/preddb/preddb/Program$ArithmeticOperator" "level" "I" (.int (1 : Int32))) (E_t_PLUS : Exa Z h0 t_PLUS "java/lang/String") (F_coder_t_PLUS : Fld Z h0 t_PLUS "java/lang/String" "coder" "B" (.int (0 : Int32))) (F_value_t_PLUS : Fld Z h0 t_PLUS "java/lang/String" "value" "[B" (.ref v_PLUS)) (V_v_PLUS : Arv Z h0 v_PLUS k_v_PLUS .byte (1 : Int32) [(.int (43 : Int32))] (.int (0 : Int32))) (E_w_MINUS : Exa Z h0 w_MINUS "com/example/preddb/preddb/Program$ArithmeticOperator") (F_ordinal_w_MINUS : Fld Z h0 w_MINUS "java/lang/Enum" "ordinal" "I" (.int (1 : Int32))) (F_token_w_MINUS : Fld Z h0 w_MINUS "com/example/preddb/preddb/Program$ArithmeticOperator" "token" "Ljava/lang/String;" (.ref t_MINUS)) (F_level_w_MINUS : Fld Z h0 w_MINUS "com/example/preddb/preddb/Program$ArithmeticOperator" "level" "I" (.int (1 : Int32))) (E_t_MINUS : Exa Z h0 t_MINUS "java/lang/String") (F_coder_t_MINUS : Fld Z h0 t_MINUS "java/lang/String" "coder" "B" (.int (0 : Int32))) (F_value_t_MINUS : Fld Z h0 t_MINUS "java/lang/String" "value" "[B" (.ref v_MINUS)) (V_v_MINUS : Arv Z h0 v_MINUS k_v_MINUS .byte (1 : Int32) [(.int (45 : Int32))] (.int (0 : Int32))) (E_w_TIMES : Exa Z h0 w_TIMES "com/example/preddb/preddb/Program$ArithmeticOperator") (F_ordinal_w_TIMES : Fld Z h0 w_TIMES "java/lang/Enum" "ordinal" "I" (.int (2 : Int32))) (F_token_w_TIMES : Fld Z h0 w_TIMES "com/example/preddb/preddb/Program$ArithmeticOperator" "token" "Ljava/lang/String;" (.ref t_TIMES)) (F_level_w_TIMES : Fld Z h0 w_TIMES "com/example/preddb/preddb/Program$ArithmeticOperator" "level" "I" (.int (2 : Int32))) (E_t_TIMES : Exa Z h0 t_TIMES "java/lang/String") (F_coder_t_TIMES : Fld Z h0 t_TIMES "java/lang/String" "coder" "B" (.int (0 : Int32))) (F_value_t_TIMES : Fld Z h0 t_TIMES "java/lang/String" "value" "[B" (.ref v_TIMES)) (V_v_TIMES : Arv Z h0 v_TIMES k_v_TIMES .byte (1 : Int32) [(.int (42 : Int32))] (.int (0 : Int32))) (E_w_DIVIDE : Exa Z h0 w_DIVIDE "com/example/preddb/preddb/Program$ArithmeticOperator") (F_ordinal_w_DIVIDE : Fld Z h0 w_DIVIDE "java/lang/Enum" "ordinal" "I" (.int (3 : Int32))) (F_token_w_DIVIDE : Fld Z h0 w_DIVIDE "com/example/preddb/preddb/Program$ArithmeticOperator" "token" "Ljava/lang/String;" (.ref t_DIVIDE)) (F_level_w_DIVIDE : Fld Z h0 w_DIVIDE "com/example/preddb/preddb/Program$ArithmeticOperator" "level" "I" (.int (2 : Int32))) (E_t_DIVIDE : Exa Z h0 t_DIVIDE "java/lang/String") (F_coder_t_DIVIDE : Fld Z h0 t_DIVIDE "java/lang/String" "coder" "B" (.int (0 : Int32))) (F_value_t_DIVIDE : Fld Z h0 t_DIVIDE "java/lang/String" "value" "[B" (.ref v_DIVIDE)) (V_v_DIVIDE : Arv Z h0 v_DIVIDE k_v_DIVIDE .byte (1 : Int32) [(.int (47 : Int32))] (.int (0 : Int32))) (E_w_REMAINDER : Exa Z h0 w_REMAINDER "com/example/preddb/preddb/Program$ArithmeticOperator") (F_ordinal_w_REMAINDER : Fld Z h0 w_REMAINDER "java/lang/Enum" "ordinal" "I" (.int (4 : Int32))) (F_token_w_REMAINDER : Fld Z h0 w_REMAINDER "com/example/preddb/preddb/Program$ArithmeticOperator" "token" "Ljava/lang/String;" (.ref t_REMAINDER)) (F_level_w_REMAINDER : Fld Z h0 w_REMAINDER "com/example/preddb/preddb/Program$ArithmeticOperator" "level" "I" (.int (2 : Int32))) (E_t_REMAINDER : Exa Z h0 t_REMAINDER "java/lang/String") (F_coder_t_REMAINDER : Fld Z h0 t_REMAINDER "java/lang/String" "coder" "B" (.int (0 : Int32))) (F_value_t_REMAINDER : Fld Z h0 t_REMAINDER "java/lang/String" "value" "[B" (.ref v_REMAINDER)) (V_v_REMAINDER : Arv Z h0 v_REMAINDER k_v_REMAINDER .byte (1 : Int32) [(.int (37 : Int32))] (.int (0 : Int32))) (S_PLUS : Sta Z Z.heap "com/example/preddb/preddb/Program$ArithmeticOperator" "PLUS" "Lcom/example/preddb/preddb/Program$ArithmeticOperator;" (.ref w_PLUS)) (X00 : Old Z n0 h0) (S_MINUS : Sta Z Z.heap "com/example/preddb/preddb/Program$ArithmeticOperator" "MINUS" "Lcom/example/preddb/preddb/Program$ArithmeticOperator;" (.ref w_MINUS)) (S_TIMES : Sta Z Z.heap "com/example/preddb/preddb/Program$ArithmeticOperator" "TIMES" "Lcom/example/preddb/preddb/Program$ArithmeticOperator;" (.ref w_TIMES)) (S_DIVIDE : Sta Z Z.heap "com/example/preddb/preddb/Program$ArithmeticOperator" "DIVIDE" "Lcom/example/preddb/preddb/Program$ArithmeticOperator;" (.ref w_DIVIDE)) (S_REMAINDER : Sta Z Z.heap "com/example/preddb/preddb/Program$ArithmeticOperator" "REMAINDER" "Lcom/example/preddb/preddb/Program$ArithmeticOperator;" (.ref w_REMAINDER)) (ne_w_PLUS_w_DIVIDE : w_PLUS ≠ w_DIVIDE) (ne_w_PLUS_w_REMAINDER : w_PLUS ≠ w_REMAINDER) (HC34 : Jvm.Lit.constHeld Z "com/example/preddb/preddb/ArithmeticOperatorDividesPinLaw" 34) (S_COMPACT_STRINGS : Sta Z Z.heap "java/lang/String" "COMPACT_STRINGS" "Z" (.int w_COMPACT_STRINGS)) (HC42 : Jvm.Lit.constHeld Z "com/example/preddb/preddb/ArithmeticOperatorDividesPinLaw" 42) (ne_w_MINUS_w_DIVIDE : w_MINUS ≠ w_DIVIDE) (ne_w_MINUS_w_REMAINDER : w_MINUS ≠ w_REMAINDER) (ne_w_TIMES_w_DIVIDE : w_TIMES ≠ w_DIVIDE) (ne_w_TIMES_w_REMAINDER : w_TIMES ≠ w_REMAINDER) (ne_w_REMAINDER_w_DIVIDE : w_REMAINDER ≠ w_DIVIDE) :
    MetFree l x (head1 (Jvm.Cond.code x code maxLocals ret :: ws) room_1) (fun a U => a = #[(.int p1), (.long q2)] ∧ U = Z) (fun _ _ _ _ _ => True) (fun _ U o U' => ∃ v L, o = .returned v ∧ Q0 Z p1 q2 w_PLUS t_PLUS v_PLUS k_v_PLUS w_MINUS t_MINUS v_MINUS k_v_MINUS w_TIMES t_TIMES v_TIMES k_v_TIMES w_DIVIDE t_DIVIDE v_DIVIDE k_v_DIVIDE w_REMAINDER t_REMAINDER v_REMAINDER k_v_REMAINDER w_COMPACT_STRINGS h0 n0 v U'.heap L ∧ ReturnedEndW U o U' L room_1.cells room_1.slots) := by
  refine MetFree.of_bodySF (plainFor_of_name pn_0) hisR ?_
  intro p e s m args below meth c s₁ Bd hml0 hP hK
  obtain ⟨rfl, hsZ⟩ := hP
  have hZ : Z.Warmed39 s.vm := by rw [hsZ]; exact State.Warmed39.refl Z
  have hh : s.heap = h0 := by rw [hsZ, hh0]
  have hS0 : s.Since s.vm h0.size := (State.WarmedH.refl s).since _
  have hk0 : h0.size ≤ h0.size := Nat.le_refl _
  have I0 : IB Z s.vm [] := by rw [hsZ]; exact IB.start
  have wS : ∀ a ∈ Bundle.stringAtoms, a.before a0 Z = true := by
    intro d hd
    simp only [Bundle.stringAtoms, List.mem_cons, List.not_mem_nil, or_false] at hd
    rcases hd with rfl | rfl | rfl | rfl | rfl | rfl | rfl
    · exact (hw _ (List.mem_of_getElem? (i := 30) rfl))
    · exact (hw _ (List.mem_of_getElem? (i := 31) rfl))
    · exact (hw _ (List.mem_of_getElem? (i := 32) rfl))
    · exact (hw _ (List.mem_of_getElem? (i := 33) rfl))
    · exact (hw _ (List.mem_of_getElem? (i := 34) rfl))
    · exact (hw _ (List.mem_of_getElem? (i := 35) rfl))
    · exact (hw _ (List.mem_of_getElem? (i := 36) rfl))
  have hx := Bd.exec
  have hby := Bd.bytes
  have hml : c.maxLocals = 10 := hml0
  have hown : s.vm.findClass "com/example/preddb/preddb/ArithmeticOperatorDividesPinLaw" = some m.cls := findClass_of_methodNamed Bd.named
  have hnm := (name_of_methodNamed Bd.named Bd.method).1
  have X0 : Stand p l e room_1 s m #[(.int p1), (.long q2)] below meth c s₁ [] 0 0 := Stand.of_body Bd
  have e0 : s₁.heap = h0 := by rw [← hh, Bd.state]; rfl
  have N0 := Fr.nil n0
  have pre0 : ∀ t, Steps p.tables e below (s₁.setTop (mkF m 0 #[.val (.int p1), .val (.long q2), .second, .unset, .unset, .unset, .unset, .unset, .unset, .unset] [])) t → Steps p.tables e below (s₁.setTop (entryFrame m #[(.int p1), (.long q2)] maxLocals)) t := fun t k => castTop (ef_0 m p1 q2) k
  obtain ⟨b1, g1⟩ : ∃ z, z = h0.size := ⟨_, rfl⟩
  obtain ⟨T1, h1, k1, X1, e1, E1, A1, O1, st1⟩ := newR X0 hx hZ hown (hw _ (List.mem_of_getElem? (i := 0) rfl)) (hw _ (List.mem_of_getElem? (i := 1) rfl)) e0 (g := (mkF m 1 #[.val (.int p1), .val (.long q2), .second, .unset, .unset, .unset, .unset, .unset, .unset, .unset] [(.int (5 : Int32))])) rfl (hb hby at_1) rfl (by decide) (cap := 5) (by decide) (by decide) (by decide) (by decide)
  rw [← g1] at A1 st1
  have g_b1 : n0 ≤ b1 := Nat.le_trans Z0 (Nat.le_of_eq g1.symm)
  have ne_t_DIVIDE_b1 : t_DIVIDE ≠ b1 := Nat.ne_of_lt (Nat.lt_of_lt_of_le E_t_DIVIDE.lt (Nat.le_of_eq g1.symm))
  have ne_t_MINUS_b1 : t_MINUS ≠ b1 := Nat.ne_of_lt (Nat.lt_of_lt_of_le E_t_MINUS.lt (Nat.le_of_eq g1.symm))
  have ne_t_PLUS_b1 : t_PLUS ≠ b1 := Nat.ne_of_lt (Nat.lt_of_lt_of_le E_t_PLUS.lt (Nat.le_of_eq g1.symm))
  have ne_t_REMAINDER_b1 : t_REMAINDER ≠ b1 := Nat.ne_of_lt (Nat.lt_of_lt_of_le E_t_REMAINDER.lt (Nat.le_of_eq g1.symm))
  have ne_t_TIMES_b1 : t_TIMES ≠ b1 := Nat.ne_of_lt (Nat.lt_of_lt_of_le E_t_TIMES.lt (Nat.le_of_eq g1.symm))
  have ne_v_DIVIDE_b1 : v_DIVIDE ≠ b1 := Nat.ne_of_lt (Nat.lt_of_lt_of_le V_v_DIVIDE.lt (Nat.le_of_eq g1.symm))
  have ne_v_MINUS_b1 : v_MINUS ≠ b1 := Nat.ne_of_lt (Nat.lt_of_lt_of_le V_v_MINUS.lt (Nat.le_of_eq g1.symm))
  have ne_v_PLUS_b1 : v_PLUS ≠ b1 := Nat.ne_of_lt (Nat.lt_of_lt_of_le V_v_PLUS.lt (Nat.le_of_eq g1.symm))
  have ne_v_REMAINDER_b1 : v_REMAINDER ≠ b1 := Nat.ne_of_lt (Nat.lt_of_lt_of_le V_v_REMAINDER.lt (Nat.le_of_eq g1.symm))
  have ne_v_TIMES_b1 : v_TIMES ≠ b1 := Nat.ne_of_lt (Nat.lt_of_lt_of_le V_v_TIMES.lt (Nat.le_of_eq g1.symm))
  have ne_w_DIVIDE_b1 : w_DIVIDE ≠ b1 := Nat.ne_of_lt (Nat.lt_of_lt_of_le E_w_DIVIDE.lt (Nat.le_of_eq g1.symm))
  have ne_w_MINUS_b1 : w_MINUS ≠ b1 := Nat.ne_of_lt (Nat.lt_of_lt_of_le E_w_MINUS.lt (Nat.le_of_eq g1.symm))
  have ne_w_PLUS_b1 : w_PLUS ≠ b1 := Nat.ne_of_lt (Nat.lt_of_lt_of_le E_w_PLUS.lt (Nat.le_of_eq g1.symm))
  have ne_w_REMAINDER_b1 : w_REMAINDER ≠ b1 := Nat.ne_of_lt (Nat.lt_of_lt_of_le E_w_REMAINDER.lt (Nat.le_of_eq g1.symm))
  have ne_w_TIMES_b1 : w_TIMES ≠ b1 := Nat.ne_of_lt (Nat.lt_of_lt_of_le E_w_TIMES.lt (Nat.le_of_eq g1.symm))
  have V1 : Arv Z h1 b1 k1 (.object "com/example/preddb/preddb/Program$ArithmeticOperator") (5 : Int32) [.null, .null, .null, .null, .null] .null := (Arv.new A1 (by decide)).pad (pad_rep [] .null 5)
  have fq2 := (X00.ext E1)
  obtain ⟨T3, X3, e3, st3⟩ := getS2 X1 hx hZ hown (host := "") (Or.inl (hw _ (List.mem_of_getElem? (i := 2) rfl))) Via.refl e1 (S_PLUS.ext fq2.2) (g := (mkF m 6 #[.val (.int p1), .val (.long q2), .second, .unset, .unset, .unset, .unset, .unset, .unset, .unset] [(.int (0 : Int32)), (.ref b1), (.ref b1)])) rfl (hb hby at_6)
  have fq4 := (Exa.ext E1 E_w_PLUS)
  obtain ⟨cl5, Ar5, aq5, S5, M5, H5, G5⟩ := id V1
  have hin5 : ¬ ((0 : Int32) < 0 ∨ cl5.slots.size ≤ ((0 : Int32)).toNatClampNeg) := inb_of S5 ⟨by decide, by decide⟩
  obtain ⟨T5, h5, X5, e5, W5, st5⟩ := stR X3 hx hZ e3 Ar5 (j := (0 : Int32)) hin5 rfl (Sto.ofV Ar5 aq5 O1 (Ins.self fq4)) (g := (mkF m 9 #[.val (.int p1), .val (.long q2), .second, .unset, .unset, .unset, .unset, .unset, .unset, .unset] [(.ref w_PLUS), (.int (0 : Int32)), (.ref b1), (.ref b1)])) rfl rfl (hb hby at_9)
  have V5 : Arv Z h5 b1 k1 (.object "com/example/preddb/preddb/Program$ArithmeticOperator") (5 : Int32) [(.ref w_PLUS), .null, .null, .null, .null] .null := Arv.set Ar5 aq5 S5 M5 H5 G5 rfl W5 0 rfl (Nat.le_of_ble_eq_true rfl)
  have N5 := Fr.snoc X5 N0 g_b1
  have fq6 := (fq2.wr W5 g_b1)
  obtain ⟨T7, X7, e7, st7⟩ := getS2 X5 hx hZ hown (host := "") (Or.inl (hw _ (List.mem_of_getElem? (i := 6) rfl))) Via.refl e5 (S_MINUS.ext fq6.2) (g := (mkF m 12 #[.val (.int p1), .val (.long q2), .second, .unset, .unset, .unset, .unset, .unset, .unset, .unset] [(.int (1 : Int32)), (.ref b1), (.ref b1)])) rfl (hb hby at_12)
  have fq8 := (Exa.wr W5 (Exa.ext E1 E_w_MINUS))
  obtain ⟨cl9, Ar9, aq9, S9, M9, H9, G9⟩ := id V5
  have hin9 : ¬ ((1 : Int32) < 0 ∨ cl9.slots.size ≤ ((1 : Int32)).toNatClampNeg) := inb_of S9 ⟨by decide, by decide⟩
  obtain ⟨T9, h9, X9, e9, W9, st9⟩ := stR X7 hx hZ e7 Ar9 (j := (1 : Int32)) hin9 rfl (Sto.ofV Ar9 aq9 O1 (Ins.self fq8)) (g := (mkF m 15 #[.val (.int p1), .val (.long q2), .second, .unset, .unset, .unset, .unset, .unset, .unset, .unset] [(.ref w_MINUS), (.int (1 : Int32)), (.ref b1), (.ref b1)])) rfl rfl (hb hby at_15)
  have V9 : Arv Z h9 b1 k1 (.object "com/example/preddb/preddb/Program$ArithmeticOperator") (5 : Int32) [(.ref w_PLUS), (.ref w_MINUS), .null, .null, .null] .null := Arv.set Ar9 aq9 S9 M9 H9 G9 rfl W9 1 rfl (Nat.le_of_ble_eq_true rfl)
  have N9 := Fr.snoc X9 N5 g_b1
  have fq10 := (fq6.wr W9 g_b1)
  obtain ⟨T11, X11, e11, st11⟩ := getS2 X9 hx hZ hown (host := "") (Or.inl (hw _ (List.mem_of_getElem? (i := 8) rfl))) Via.refl e9 (S_TIMES.ext fq10.2) (g := (mkF m 18 #[.val (.int p1), .val (.long q2), .second, .unset, .unset, .unset, .unset, .unset, .unset, .unset] [(.int (2 : Int32)), (.ref b1), (.ref b1)])) rfl (hb hby at_18)
  have fq12 := (Exa.wr W9 (Exa.wr W5 (Exa.ext E1 E_w_TIMES)))
  obtain ⟨cl13, Ar13, aq13, S13, M13, H13, G13⟩ := id V9
  have hin13 : ¬ ((2 : Int32) < 0 ∨ cl13.slots.size ≤ ((2 : Int32)).toNatClampNeg) := inb_of S13 ⟨by decide, by decide⟩
  obtain ⟨T13, h13, X13, e13, W13, st13⟩ := stR X11 hx hZ e11 Ar13 (j := (2 : Int32)) hin13 rfl (Sto.ofV Ar13 aq13 O1 (Ins.self fq12)) (g := (mkF m 21 #[.val (.int p1), .val (.long q2), .second, .unset, .unset, .unset, .unset, .unset, .unset, .unset] [(.ref w_TIMES), (.int (2 : Int32)), (.ref b1), (.ref b1)])) rfl rfl (hb hby at_21)
  have V13 : Arv Z h13 b1 k1 (.object "com/example/preddb/preddb/Program$ArithmeticOperator") (5 : Int32) [(.ref w_PLUS), (.ref w_MINUS), (.ref w_TIMES), .null, .null] .null := Arv.set Ar13 aq13 S13 M13 H13 G13 rfl W13 2 rfl (Nat.le_of_ble_eq_true rfl)
  have N13 := Fr.snoc X13 N9 g_b1
  have fq14 := (fq10.wr W13 g_b1)
  obtain ⟨T15, X15, e15, st15⟩ := getS2 X13 hx hZ hown (host := "") (Or.inl (hw _ (List.mem_of_getElem? (i := 10) rfl))) Via.refl e13 (S_DIVIDE.ext fq14.2) (g := (mkF m 24 #[.val (.int p1), .val (.long q2), .second, .unset, .unset, .unset, .unset, .unset, .unset, .unset] [(.int (3 : Int32)), (.ref b1), (.ref b1)])) rfl (hb hby at_24)
  have fq16 := (Exa.wr W13 (Exa.wr W9 (Exa.wr W5 (Exa.ext E1 E_w_DIVIDE))))
  obtain ⟨cl17, Ar17, aq17, S17, M17, H17, G17⟩ := id V13
  have hin17 : ¬ ((3 : Int32) < 0 ∨ cl17.slots.size ≤ ((3 : Int32)).toNatClampNeg) := inb_of S17 ⟨by decide, by decide⟩
  obtain ⟨T17, h17, X17, e17, W17, st17⟩ := stR X15 hx hZ e15 Ar17 (j := (3 : Int32)) hin17 rfl (Sto.ofV Ar17 aq17 O1 (Ins.self fq16)) (g := (mkF m 27 #[.val (.int p1), .val (.long q2), .second, .unset, .unset, .unset, .unset, .unset, .unset, .unset] [(.ref w_DIVIDE), (.int (3 : Int32)), (.ref b1), (.ref b1)])) rfl rfl (hb hby at_27)
  have V17 : Arv Z h17 b1 k1 (.object "com/example/preddb/preddb/Program$ArithmeticOperator") (5 : Int32) [(.ref w_PLUS), (.ref w_MINUS), (.ref w_TIMES), (.ref w_DIVIDE), .null] .null := Arv.set Ar17 aq17 S17 M17 H17 G17 rfl W17 3 rfl (Nat.le_of_ble_eq_true rfl)
  have N17 := Fr.snoc X17 N13 g_b1
  have fq18 := (fq14.wr W17 g_b1)
  obtain ⟨T19, X19, e19, st19⟩ := getS2 X17 hx hZ hown (host := "") (Or.inl (hw _ (List.mem_of_getElem? (i := 12) rfl))) Via.refl e17 (S_REMAINDER.ext fq18.2) (g := (mkF m 30 #[.val (.int p1), .val (.long q2), .second, .unset, .unset, .unset, .unset, .unset, .unset, .unset] [(.int (4 : Int32)), (.ref b1), (.ref b1)])) rfl (hb hby at_30)
  have fq20 := (Exa.wr W17 (Exa.wr W13 (Exa.wr W9 (Exa.wr W5 (Exa.ext E1 E_w_REMAINDER)))))
  obtain ⟨cl21, Ar21, aq21, S21, M21, H21, G21⟩ := id V17
  have hin21 : ¬ ((4 : Int32) < 0 ∨ cl21.slots.size ≤ ((4 : Int32)).toNatClampNeg) := inb_of S21 ⟨by decide, by decide⟩
  obtain ⟨T21, h21, X21, e21, W21, st21⟩ := stR X19 hx hZ e19 Ar21 (j := (4 : Int32)) hin21 rfl (Sto.ofV Ar21 aq21 O1 (Ins.self fq20)) (g := (mkF m 33 #[.val (.int p1), .val (.long q2), .second, .unset, .unset, .unset, .unset, .unset, .unset, .unset] [(.ref w_REMAINDER), (.int (4 : Int32)), (.ref b1), (.ref b1)])) rfl rfl (hb hby at_33)
  have V21 : Arv Z h21 b1 k1 (.object "com/example/preddb/preddb/Program$ArithmeticOperator") (5 : Int32) [(.ref w_PLUS), (.ref w_MINUS), (.ref w_TIMES), (.ref w_DIVIDE), (.ref w_REMAINDER)] .null := Arv.set Ar21 aq21 S21 M21 H21 G21 rfl W21 4 rfl (Nat.le_of_ble_eq_true rfl)
  have N21 := Fr.snoc X21 N17 g_b1
  have pre22 : ∀ t, Steps p.tables e below (T21.setTop (mkF m 42 #[.val (.int p1), .val (.long q2), .second, .val (.ref b1), .unset, .unset, .unset, .unset, .unset, .unset] [(.int ((p1 &&& (2147483647 : Int32)) % (5 : Int32))), (.ref b1)])) t → Steps p.tables e below (s₁.setTop (entryFrame m #[(.int p1), (.long q2)] maxLocals)) t := fun t kt => by
    refine pre0 t ?_
    show Steps p.tables e below (s₁.setTop (mkF m 0 #[.val (.int p1), .val (.long q2), .second, .unset, .unset, .unset, .unset, .unset, .unset, .unset] [])) _
    refine XS.iconst X0.here hx rfl (hb hby at_0) ?_
    show Steps p.tables e below (s₁.setTop (mkF m 1 #[.val (.int p1), .val (.long q2), .second, .unset, .unset, .unset, .unset, .unset, .unset, .unset] [(.int (5 : Int32))])) _
    refine st1 _ ?_
    show Steps p.tables e below (T1.setTop (mkF m 4 #[.val (.int p1), .val (.long q2), .second, .unset, .unset, .unset, .unset, .unset, .unset, .unset] [(.ref b1)])) _
    refine XS.dup X1.here hx rfl (hb hby at_4) rfl rfl ?_
    show Steps p.tables e below (T1.setTop (mkF m 5 #[.val (.int p1), .val (.long q2), .second, .unset, .unset, .unset, .unset, .unset, .unset, .unset] [(.ref b1), (.ref b1)])) _
    refine XS.iconst X1.here hx rfl (hb hby at_5) ?_
    show Steps p.tables e below (T1.setTop (mkF m 6 #[.val (.int p1), .val (.long q2), .second, .unset, .unset, .unset, .unset, .unset, .unset, .unset] [(.int (0 : Int32)), (.ref b1), (.ref b1)])) _
    refine st3 _ ?_
    show Steps p.tables e below (T3.setTop (mkF m 9 #[.val (.int p1), .val (.long q2), .second, .unset, .unset, .unset, .unset, .unset, .unset, .unset] [(.ref w_PLUS), (.int (0 : Int32)), (.ref b1), (.ref b1)])) _
    refine st5 _ ?_
    show Steps p.tables e below (T5.setTop (mkF m 10 #[.val (.int p1), .val (.long q2), .second, .unset, .unset, .unset, .unset, .unset, .unset, .unset] [(.ref b1)])) _
    refine XS.dup X5.here hx rfl (hb hby at_10) rfl rfl ?_
    show Steps p.tables e below (T5.setTop (mkF m 11 #[.val (.int p1), .val (.long q2), .second, .unset, .unset, .unset, .unset, .unset, .unset, .unset] [(.ref b1), (.ref b1)])) _
    refine XS.iconst X5.here hx rfl (hb hby at_11) ?_
    show Steps p.tables e below (T5.setTop (mkF m 12 #[.val (.int p1), .val (.long q2), .second, .unset, .unset, .unset, .unset, .unset, .unset, .unset] [(.int (1 : Int32)), (.ref b1), (.ref b1)])) _
    refine st7 _ ?_
    show Steps p.tables e below (T7.setTop (mkF m 15 #[.val (.int p1), .val (.long q2), .second, .unset, .unset, .unset, .unset, .unset, .unset, .unset] [(.ref w_MINUS), (.int (1 : Int32)), (.ref b1), (.ref b1)])) _
    refine st9 _ ?_
    show Steps p.tables e below (T9.setTop (mkF m 16 #[.val (.int p1), .val (.long q2), .second, .unset, .unset, .unset, .unset, .unset, .unset, .unset] [(.ref b1)])) _
    refine XS.dup X9.here hx rfl (hb hby at_16) rfl rfl ?_
    show Steps p.tables e below (T9.setTop (mkF m 17 #[.val (.int p1), .val (.long q2), .second, .unset, .unset, .unset, .unset, .unset, .unset, .unset] [(.ref b1), (.ref b1)])) _
    refine XS.iconst X9.here hx rfl (hb hby at_17) ?_
    show Steps p.tables e below (T9.setTop (mkF m 18 #[.val (.int p1), .val (.long q2), .second, .unset, .unset, .unset, .unset, .unset, .unset, .unset] [(.int (2 : Int32)), (.ref b1), (.ref b1)])) _
    refine st11 _ ?_
    show Steps p.tables e below (T11.setTop (mkF m 21 #[.val (.int p1), .val (.long q2), .second, .unset, .unset, .unset, .unset, .unset, .unset, .unset] [(.ref w_TIMES), (.int (2 : Int32)), (.ref b1), (.ref b1)])) _
    refine st13 _ ?_
    show Steps p.tables e below (T13.setTop (mkF m 22 #[.val (.int p1), .val (.long q2), .second, .unset, .unset, .unset, .unset, .unset, .unset, .unset] [(.ref b1)])) _
    refine XS.dup X13.here hx rfl (hb hby at_22) rfl rfl ?_
    show Steps p.tables e below (T13.setTop (mkF m 23 #[.val (.int p1), .val (.long q2), .second, .unset, .unset, .unset, .unset, .unset, .unset, .unset] [(.ref b1), (.ref b1)])) _
    refine XS.iconst X13.here hx rfl (hb hby at_23) ?_
    show Steps p.tables e below (T13.setTop (mkF m 24 #[.val (.int p1), .val (.long q2), .second, .unset, .unset, .unset, .unset, .unset, .unset, .unset] [(.int (3 : Int32)), (.ref b1), (.ref b1)])) _
    refine st15 _ ?_
    show Steps p.tables e below (T15.setTop (mkF m 27 #[.val (.int p1), .val (.long q2), .second, .unset, .unset, .unset, .unset, .unset, .unset, .unset] [(.ref w_DIVIDE), (.int (3 : Int32)), (.ref b1), (.ref b1)])) _
    refine st17 _ ?_
    show Steps p.tables e below (T17.setTop (mkF m 28 #[.val (.int p1), .val (.long q2), .second, .unset, .unset, .unset, .unset, .unset, .unset, .unset] [(.ref b1)])) _
    refine XS.dup X17.here hx rfl (hb hby at_28) rfl rfl ?_
    show Steps p.tables e below (T17.setTop (mkF m 29 #[.val (.int p1), .val (.long q2), .second, .unset, .unset, .unset, .unset, .unset, .unset, .unset] [(.ref b1), (.ref b1)])) _
    refine XS.iconst X17.here hx rfl (hb hby at_29) ?_
    show Steps p.tables e below (T17.setTop (mkF m 30 #[.val (.int p1), .val (.long q2), .second, .unset, .unset, .unset, .unset, .unset, .unset, .unset] [(.int (4 : Int32)), (.ref b1), (.ref b1)])) _
    refine st19 _ ?_
    show Steps p.tables e below (T19.setTop (mkF m 33 #[.val (.int p1), .val (.long q2), .second, .unset, .unset, .unset, .unset, .unset, .unset, .unset] [(.ref w_REMAINDER), (.int (4 : Int32)), (.ref b1), (.ref b1)])) _
    refine st21 _ ?_
    show Steps p.tables e below (T21.setTop (mkF m 34 #[.val (.int p1), .val (.long q2), .second, .unset, .unset, .unset, .unset, .unset, .unset, .unset] [(.ref b1)])) _
    refine XS.astoreN X21.here hx rfl (hb hby at_34) rfl rfl (l' := #[.val (.int p1), .val (.long q2), .second, .val (.ref b1), .unset, .unset, .unset, .unset, .unset, .unset]) rfl ?_
    show Steps p.tables e below (T21.setTop (mkF m 35 #[.val (.int p1), .val (.long q2), .second, .val (.ref b1), .unset, .unset, .unset, .unset, .unset, .unset] [])) _
    refine XS.aloadN X21.here hx rfl (hb hby at_35) rfl rfl ?_
    show Steps p.tables e below (T21.setTop (mkF m 36 #[.val (.int p1), .val (.long q2), .second, .val (.ref b1), .unset, .unset, .unset, .unset, .unset, .unset] [(.ref b1)])) _
    refine XS.iloadN X21.here hx rfl (hb hby at_36) rfl ?_
    show Steps p.tables e below (T21.setTop (mkF m 37 #[.val (.int p1), .val (.long q2), .second, .val (.ref b1), .unset, .unset, .unset, .unset, .unset, .unset] [(.int p1), (.ref b1)])) _
    refine X21.ldcInt hx hown (mvT hZ (hw _ (List.mem_of_getElem? (i := 14) rfl))) (g := (mkF m 37 #[.val (.int p1), .val (.long q2), .second, .val (.ref b1), .unset, .unset, .unset, .unset, .unset, .unset] [(.int p1), (.ref b1)])) rfl (hb hby at_37) _ ?_
    show Steps p.tables e below (T21.setTop (mkF m 39 #[.val (.int p1), .val (.long q2), .second, .val (.ref b1), .unset, .unset, .unset, .unset, .unset, .unset] [(.int (2147483647 : Int32)), (.int p1), (.ref b1)])) _
    refine XS.iand X21.here hx rfl (hb hby at_39) rfl ?_
    show Steps p.tables e below (T21.setTop (mkF m 40 #[.val (.int p1), .val (.long q2), .second, .val (.ref b1), .unset, .unset, .unset, .unset, .unset, .unset] [(.int (p1 &&& (2147483647 : Int32))), (.ref b1)])) _
    refine XS.iconst X21.here hx rfl (hb hby at_40) ?_
    show Steps p.tables e below (T21.setTop (mkF m 41 #[.val (.int p1), .val (.long q2), .second, .val (.ref b1), .unset, .unset, .unset, .unset, .unset, .unset] [(.int (5 : Int32)), (.int (p1 &&& (2147483647 : Int32))), (.ref b1)])) _
    refine iremM X21 hx rfl (hb hby at_41) rfl (by decide) ?_
    exact kt
  rcases (case_0_42 p1 q2) with hk23 | hk23 | hk23 | hk23 | hk23
  · rw [hk23] at pre22
    obtain ⟨cl24, Ar24, aq24, S24, M24, H24, G24⟩ := id V21
    have hin24 : ¬ ((0 : Int32) < 0 ∨ cl24.slots.size ≤ ((0 : Int32)).toNatClampNeg) := inb_of S24 ⟨by decide, by decide⟩
    have hat24 : cl24.slots[((0 : Int32)).toNatClampNeg]? = some (.ref w_PLUS) := Has.at H24 hin24 rfl
    have fq26 := (fq18.wr W21 g_b1)
    have z27 : n0 ≤ h21.size := (Nat.le_trans (Nat.le_trans (Nat.le_trans (Nat.le_trans (Nat.le_trans (Nat.le_trans Z0 E1.1) (Keep.of_wr W5).1) (Keep.of_wr W9).1) (Keep.of_wr W13).1) (Keep.of_wr W17).1) (Keep.of_wr W21).1)
    have fq28 := (Exa.wr W21 (Exa.wr W17 (Exa.wr W13 (Exa.wr W9 (Exa.wr W5 fq4)))))
    obtain ⟨cq25, kq25, iq25a, iq25b, iq25c⟩ := isOf hZ e21 fq28
    obtain ⟨_, _, ⟨T25, L25, k25, n25⟩, -, X25, ⟨Lc25, hQ25, l25, y25, z25⟩, st25⟩ := X21.virtualBack hx (y := (⟨"com/example/preddb/preddb/Program$ArithmeticOperator", "divides", "()Z"⟩ : MethodName)) (z := (⟨"com/example/preddb/preddb/Program$ArithmeticOperator", "divides", "()Z"⟩ : MethodName)) hown (mvT hZ (hw _ (List.mem_of_getElem? (i := 15) rfl))) (mvT hZ (hw _ (List.mem_of_getElem? (i := 16) rfl))) (notFace_of_selects (args := #[]) (mvT hZ (hw _ (List.mem_of_getElem? (i := 18) rfl)))) (mvT hZ (hw _ (List.mem_of_getElem? (i := 18) rfl))) (mvT hZ (hw _ (List.mem_of_getElem? (i := 17) rfl))) (by decide) (backOf (W := 0) (rm2001 l Z a0 hw [] w_PLUS w_DIVIDE w_REMAINDER h21 n0 z27 S_DIVIDE fq26 ne_w_PLUS_w_DIVIDE S_REMAINDER ne_w_PLUS_w_REMAINDER) hZ (hw _ (List.mem_of_getElem? (i := 19) rfl)) (hw _ (List.mem_of_getElem? (i := 3) rfl)) (by decide) (by decide)) iq25a iq25c (g := (mkF m 47 #[.val (.int p1), .val (.long q2), .second, .val (.ref b1), .val (.ref w_PLUS), .unset, .unset, .unset, .unset, .unset] [(.ref w_PLUS)])) rfl (by rw [hml]; rfl) (Steps.refl _) (argsL := []) (rest := []) (lenOf pd_0_0 rfl) rfl (by show 2 * 0 + _ ≤ _; exact Nat.le_of_eq rfl) (hb hby at_47) (fun _ _ => ⟨rfl, e21, (by decide : 1 + 0 ≤ _), (by decide : 5 + 0 ≤ _)⟩)
    dsimp only [Pt.U, Pt.locs, Pt.cells, Pt.slots] at X25 l25 y25 z25 st25 hQ25
    subst l25 y25 z25
    obtain ⟨rfl, N25q, e25⟩ := hQ25
    rw [show (F2001 ) = (0 : Int32) from by first | decide | (unfold F2001; repeat' split) <;> first | rfl | simp_all] at st25
    have N25 := Fr.app N21 N25q
    have fq30 := (Fld.other W21 (Fld.other W17 (Fld.other W13 (Fld.other W9 (Fld.other W5 (Fld.ext E1 F_token_w_PLUS) (Or.inl ne_w_PLUS_b1)) (Or.inl ne_w_PLUS_b1)) (Or.inl ne_w_PLUS_b1)) (Or.inl ne_w_PLUS_b1)) (Or.inl ne_w_PLUS_b1))
    obtain ⟨cq29, kq29, iq29a, iq29b, iq29c⟩ := isOf hZ e25 fq28
    obtain ⟨_, _, ⟨T29, L29, k29, n29⟩, -, X29, ⟨Lc29, hQ29, l29, y29, z29⟩, st29⟩ := X25.virtualBack hx (y := (⟨"com/example/preddb/preddb/Program$ArithmeticOperator", "token", "()Ljava/lang/String;"⟩ : MethodName)) (z := (⟨"com/example/preddb/preddb/Program$ArithmeticOperator", "token", "()Ljava/lang/String;"⟩ : MethodName)) hown (mvT hZ (hw _ (List.mem_of_getElem? (i := 22) rfl))) (mvT hZ (hw _ (List.mem_of_getElem? (i := 23) rfl))) (notFace_of_selects (args := #[]) (mvT hZ (hw _ (List.mem_of_getElem? (i := 25) rfl)))) (mvT hZ (hw _ (List.mem_of_getElem? (i := 25) rfl))) (mvT hZ (hw _ (List.mem_of_getElem? (i := 24) rfl))) (by decide) (backOf (W := 0) (rm2 l Z a0 hw [] w_PLUS t_PLUS h21 n0 z27 fq30) hZ (hw _ (List.mem_of_getElem? (i := 26) rfl)) (hw _ (List.mem_of_getElem? (i := 3) rfl)) (by decide) (by decide)) iq29a iq29c (g := (mkF m 54 #[.val (.int p1), .val (.long q2), .second, .val (.ref b1), .val (.ref w_PLUS), .val (.int (0 : Int32)), .unset, .unset, .unset, .unset] [(.ref w_PLUS)])) rfl (by rw [hml]; rfl) (Steps.refl _) (argsL := []) (rest := []) (lenOf pd_0_1 rfl) rfl (by show 2 * 0 + _ ≤ _; exact Nat.le_of_eq rfl) (hb hby at_54) (fun _ _ => ⟨rfl, e25, (by decide : 1 + 0 ≤ _), (by decide : 5 + 0 ≤ _)⟩)
    dsimp only [Pt.U, Pt.locs, Pt.cells, Pt.slots] at X29 l29 y29 z29 st29 hQ29
    subst l29 y29 z29
    obtain ⟨rfl, N29q, e29⟩ := hQ29
    have N29 := Fr.app N25 N29q
    have pre31 : ∀ t, Steps p.tables e below (T29.setTop (mkF m 61 #[.val (.int p1), .val (.long q2), .second, .val (.ref b1), .val (.ref w_PLUS), .val (.int (0 : Int32)), .val (.ref t_PLUS), .unset, .unset, .unset] [(.ref t_PLUS)])) t → Steps p.tables e below (s₁.setTop (entryFrame m #[(.int p1), (.long q2)] maxLocals)) t := fun t kt => by
      refine pre22 t ?_
      show Steps p.tables e below (T21.setTop (mkF m 42 #[.val (.int p1), .val (.long q2), .second, .val (.ref b1), .unset, .unset, .unset, .unset, .unset, .unset] [(.int (0 : Int32)), (.ref b1)])) _
      refine X21.aaload hx (j := (0 : Int32)) (v := (.ref w_PLUS)) (by rw [e21]; exact Ar24.1) (State.isArrayOf_alike hZ.alike Ar24.2.1) rfl Ar24.2.2 hin24 hat24 (g := (mkF m 42 #[.val (.int p1), .val (.long q2), .second, .val (.ref b1), .unset, .unset, .unset, .unset, .unset, .unset] [(.int (0 : Int32)), (.ref b1)])) rfl rfl (hb hby at_42) _ ?_
      show Steps p.tables e below (T21.setTop (mkF m 43 #[.val (.int p1), .val (.long q2), .second, .val (.ref b1), .unset, .unset, .unset, .unset, .unset, .unset] [(.ref w_PLUS)])) _
      refine XS.astore X21.here hx rfl (hb hby at_43) rfl rfl (l' := #[.val (.int p1), .val (.long q2), .second, .val (.ref b1), .val (.ref w_PLUS), .unset, .unset, .unset, .unset, .unset]) rfl ?_
      show Steps p.tables e below (T21.setTop (mkF m 45 #[.val (.int p1), .val (.long q2), .second, .val (.ref b1), .val (.ref w_PLUS), .unset, .unset, .unset, .unset, .unset] [])) _
      refine XS.aload X21.here hx rfl (hb hby at_45) rfl rfl ?_
      show Steps p.tables e below (T21.setTop (mkF m 47 #[.val (.int p1), .val (.long q2), .second, .val (.ref b1), .val (.ref w_PLUS), .unset, .unset, .unset, .unset, .unset] [(.ref w_PLUS)])) _
      refine st25.trans ?_
      show Steps p.tables e below (T25.setTop (mkF m 50 #[.val (.int p1), .val (.long q2), .second, .val (.ref b1), .val (.ref w_PLUS), .unset, .unset, .unset, .unset, .unset] [(.int (0 : Int32))])) _
      refine XS.istore X25.here hx rfl (hb hby at_50) rfl (l' := #[.val (.int p1), .val (.long q2), .second, .val (.ref b1), .val (.ref w_PLUS), .val (.int (0 : Int32)), .unset, .unset, .unset, .unset]) rfl ?_
      show Steps p.tables e below (T25.setTop (mkF m 52 #[.val (.int p1), .val (.long q2), .second, .val (.ref b1), .val (.ref w_PLUS), .val (.int (0 : Int32)), .unset, .unset, .unset, .unset] [])) _
      refine XS.aload X25.here hx rfl (hb hby at_52) rfl rfl ?_
      show Steps p.tables e below (T25.setTop (mkF m 54 #[.val (.int p1), .val (.long q2), .second, .val (.ref b1), .val (.ref w_PLUS), .val (.int (0 : Int32)), .unset, .unset, .unset, .unset] [(.ref w_PLUS)])) _
      refine st29.trans ?_
      show Steps p.tables e below (T29.setTop (mkF m 57 #[.val (.int p1), .val (.long q2), .second, .val (.ref b1), .val (.ref w_PLUS), .val (.int (0 : Int32)), .unset, .unset, .unset, .unset] [(.ref t_PLUS)])) _
      refine XS.astore X29.here hx rfl (hb hby at_57) rfl rfl (l' := #[.val (.int p1), .val (.long q2), .second, .val (.ref b1), .val (.ref w_PLUS), .val (.int (0 : Int32)), .val (.ref t_PLUS), .unset, .unset, .unset]) rfl ?_
      show Steps p.tables e below (T29.setTop (mkF m 59 #[.val (.int p1), .val (.long q2), .second, .val (.ref b1), .val (.ref w_PLUS), .val (.int (0 : Int32)), .val (.ref t_PLUS), .unset, .unset, .unset] [])) _
      refine XS.aload X29.here hx rfl (hb hby at_59) rfl rfl ?_
      exact kt
    obtain ⟨b32, T32, h32, kz32, bv32, kk32, X32, e32, E32, hS32, hk32, hZ, hown, A32, C32, F32, V32, lt32, ltb32, I32, st32⟩ := ldcSV (s := s) (vm0 := s.vm) X29 hx hZ hown (hw _ (List.mem_of_getElem? (i := 29) rfl)) wS e29 hS0 (Nat.le_trans (Nat.le_of_eq (by rw [hn0, hh0])) z27) (by rw [hsZ, ← hn0]; exact N29) (fun b cl q => by rw [hsZ]; exact q) I0 (by decide) HC34 hcw (vs := [(.int (47 : Int32))]) (z := (1 : Int32)) ⟨by decide, by rfl⟩ (by decide) (by rfl) (g := (mkF m 61 #[.val (.int p1), .val (.long q2), .second, .val (.ref b1), .val (.ref w_PLUS), .val (.int (0 : Int32)), .val (.ref t_PLUS), .unset, .unset, .unset] [(.ref t_PLUS)])) rfl (hb hby at_61) (n := 4) (by decide) (by decide) (by decide) (by decide)
    have fq34 := (Fld.ext E32 (Fld.other W21 (Fld.other W17 (Fld.other W13 (Fld.other W9 (Fld.other W5 (Fld.ext E1 F_coder_t_PLUS) (Or.inl ne_t_PLUS_b1)) (Or.inl ne_t_PLUS_b1)) (Or.inl ne_t_PLUS_b1)) (Or.inl ne_t_PLUS_b1)) (Or.inl ne_t_PLUS_b1)))
    have fq35 := (Fld.ext E32 (Fld.other W21 (Fld.other W17 (Fld.other W13 (Fld.other W9 (Fld.other W5 (Fld.ext E1 F_value_t_PLUS) (Or.inl ne_t_PLUS_b1)) (Or.inl ne_t_PLUS_b1)) (Or.inl ne_t_PLUS_b1)) (Or.inl ne_t_PLUS_b1)) (Or.inl ne_t_PLUS_b1)))
    have fq36 := (Exa.ext E32 (Exa.wr W21 (Exa.wr W17 (Exa.wr W13 (Exa.wr W9 (Exa.wr W5 (Exa.ext E1 E_t_PLUS)))))))
    have fq37 := (((((((V_v_PLUS.ext E1).other W5 ne_v_PLUS_b1).other W9 ne_v_PLUS_b1).other W13 ne_v_PLUS_b1).other W17 ne_v_PLUS_b1).other W21 ne_v_PLUS_b1).ext E32)
    have fq38 := (fq26.ext E32)
    have z39 : n0 ≤ h32.size := (Nat.le_trans z27 E32.1)
    obtain ⟨cq33, kq33, iq33a, iq33b, iq33c⟩ := isOf hZ e32 fq36
    obtain ⟨_, _, ⟨T33, L33, k33, n33⟩, -, X33, ⟨Lc33, hQ33, l33, y33, z33⟩, st33⟩ := X32.virtualBack hx (y := (⟨"java/lang/String", "equals", "(Ljava/lang/Object;)Z"⟩ : MethodName)) (z := (⟨"java/lang/String", "equals", "(Ljava/lang/Object;)Z"⟩ : MethodName)) hown (mvT hZ (hw _ (List.mem_of_getElem? (i := 37) rfl))) (mvT hZ (hw _ (List.mem_of_getElem? (i := 38) rfl))) (notFace_of_selects (args := #[]) (mvT hZ (hw _ (List.mem_of_getElem? (i := 40) rfl)))) (mvT hZ (hw _ (List.mem_of_getElem? (i := 40) rfl))) (mvT hZ (hw _ (List.mem_of_getElem? (i := 39) rfl))) (by decide) (backOf (W := 0) (rm3 l Z a0 hw [] t_PLUS b32 v_PLUS k_v_PLUS bv32 kk32 w_COMPACT_STRINGS h32 n0 z39 fq36 fq34 fq35 fq37 A32 C32 F32 V32 S_COMPACT_STRINGS fq38) hZ (hw _ (List.mem_of_getElem? (i := 41) rfl)) (hw _ (List.mem_of_getElem? (i := 30) rfl)) (by decide) (by decide)) iq33a iq33c (g := (mkF m 63 #[.val (.int p1), .val (.long q2), .second, .val (.ref b1), .val (.ref w_PLUS), .val (.int (0 : Int32)), .val (.ref t_PLUS), .unset, .unset, .unset] [(.ref b32), (.ref t_PLUS)])) rfl (by rw [hml]; rfl) (Steps.refl _) (argsL := [(.ref b32)]) (rest := []) (lenOf pd_0_2 rfl) rfl (by show 2 * 0 + _ ≤ _; exact Nat.le_of_eq rfl) (hb hby at_63) (fun _ _ => ⟨rfl, e32, (by decide : 3 + 0 ≤ _), (by decide : 13 + 0 ≤ _)⟩)
    dsimp only [Pt.U, Pt.locs, Pt.cells, Pt.slots] at X33 l33 y33 z33 st33 hQ33
    subst l33 y33 z33
    obtain ⟨rfl, N33q, e33⟩ := hQ33
    rw [show (F3 w_COMPACT_STRINGS) = (0 : Int32) from by first | decide | (unfold F3; repeat' split) <;> first | rfl | simp_all] at st33
    have N33 := Fr.app N29 N33q
    have pre40 : ∀ t, Steps p.tables e below (T33.setTop (mkF m 71 #[.val (.int p1), .val (.long q2), .second, .val (.ref b1), .val (.ref w_PLUS), .val (.int (0 : Int32)), .val (.ref t_PLUS), .unset, .unset, .unset] [(.ref t_PLUS)])) t → Steps p.tables e below (s₁.setTop (entryFrame m #[(.int p1), (.long q2)] maxLocals)) t := fun t kt => by
      refine pre31 t ?_
      show Steps p.tables e below (T29.setTop (mkF m 61 #[.val (.int p1), .val (.long q2), .second, .val (.ref b1), .val (.ref w_PLUS), .val (.int (0 : Int32)), .val (.ref t_PLUS), .unset, .unset, .unset] [(.ref t_PLUS)])) _
      refine st32 _ ?_
      show Steps p.tables e below (T32.setTop (mkF m 63 #[.val (.int p1), .val (.long q2), .second, .val (.ref b1), .val (.ref w_PLUS), .val (.int (0 : Int32)), .val (.ref t_PLUS), .unset, .unset, .unset] [(.ref b32), (.ref t_PLUS)])) _
      refine st33.trans ?_
      show Steps p.tables e below (T33.setTop (mkF m 66 #[.val (.int p1), .val (.long q2), .second, .val (.ref b1), .val (.ref w_PLUS), .val (.int (0 : Int32)), .val (.ref t_PLUS), .unset, .unset, .unset] [(.int (0 : Int32))])) _
      refine XS.ifNo X33.here hx rfl (hb hby at_66) rfl ((if0 _ _).trans (teq (rfl : (0 : Int32) = (0 : Int32))).2) ?_
      show Steps p.tables e below (T33.setTop (mkF m 69 #[.val (.int p1), .val (.long q2), .second, .val (.ref b1), .val (.ref w_PLUS), .val (.int (0 : Int32)), .val (.ref t_PLUS), .unset, .unset, .unset] [])) _
      refine XS.aload X33.here hx rfl (hb hby at_69) rfl rfl ?_
      exact kt
    obtain ⟨b41, T41, h41, kz41, bv41, kk41, X41, e41, E41, hS41, hk41, hZ, hown, A41, C41, F41, V41, lt41, ltb41, I41, st41⟩ := ldcSV (s := s) (vm0 := T32.vm) X33 hx hZ hown (hw _ (List.mem_of_getElem? (i := 51) rfl)) wS e33 hS32 hk32 (by rw [hsZ, ← hn0]; exact N33) (fun b cl q => by rw [hsZ]; exact q) I32 (by decide) HC42 hcw (vs := [(.int (37 : Int32))]) (z := (1 : Int32)) ⟨by decide, by rfl⟩ (by decide) (by rfl) (g := (mkF m 71 #[.val (.int p1), .val (.long q2), .second, .val (.ref b1), .val (.ref w_PLUS), .val (.int (0 : Int32)), .val (.ref t_PLUS), .unset, .unset, .unset] [(.ref t_PLUS)])) rfl (hb hby at_71) (n := 4) (by decide) (by decide) (by decide) (by decide)
    have fq43 := (Fld.ext E41 fq34)
    have fq44 := (Fld.ext E41 fq35)
    have fq45 := (Exa.ext E41 fq36)
    have fq46 := (fq37.ext E41)
    have fq47 := (fq38.ext E41)
    have z48 : n0 ≤ h41.size := (Nat.le_trans z39 E41.1)
    obtain ⟨cq42, kq42, iq42a, iq42b, iq42c⟩ := isOf hZ e41 fq45
    obtain ⟨_, _, ⟨T42, L42, k42, n42⟩, -, X42, ⟨Lc42, hQ42, l42, y42, z42⟩, st42⟩ := X41.virtualBack hx (y := (⟨"java/lang/String", "equals", "(Ljava/lang/Object;)Z"⟩ : MethodName)) (z := (⟨"java/lang/String", "equals", "(Ljava/lang/Object;)Z"⟩ : MethodName)) hown (mvT hZ (hw _ (List.mem_of_getElem? (i := 37) rfl))) (mvT hZ (hw _ (List.mem_of_getElem? (i := 38) rfl))) (notFace_of_selects (args := #[]) (mvT hZ (hw _ (List.mem_of_getElem? (i := 40) rfl)))) (mvT hZ (hw _ (List.mem_of_getElem? (i := 40) rfl))) (mvT hZ (hw _ (List.mem_of_getElem? (i := 39) rfl))) (by decide) (backOf (W := 0) (rm1003 l Z a0 hw [] t_PLUS b41 v_PLUS k_v_PLUS bv41 kk41 w_COMPACT_STRINGS h41 n0 z48 fq45 fq43 fq44 fq46 A41 C41 F41 V41 S_COMPACT_STRINGS fq47) hZ (hw _ (List.mem_of_getElem? (i := 41) rfl)) (hw _ (List.mem_of_getElem? (i := 30) rfl)) (by decide) (by decide)) iq42a iq42c (g := (mkF m 73 #[.val (.int p1), .val (.long q2), .second, .val (.ref b1), .val (.ref w_PLUS), .val (.int (0 : Int32)), .val (.ref t_PLUS), .unset, .unset, .unset] [(.ref b41), (.ref t_PLUS)])) rfl (by rw [hml]; rfl) (Steps.refl _) (argsL := [(.ref b41)]) (rest := []) (lenOf pd_0_2 rfl) rfl (by show 2 * 0 + _ ≤ _; exact Nat.le_of_eq rfl) (hb hby at_73) (fun _ _ => ⟨rfl, e41, (by decide : 5 + 0 ≤ _), (by decide : 21 + 0 ≤ _)⟩)
    dsimp only [Pt.U, Pt.locs, Pt.cells, Pt.slots] at X42 l42 y42 z42 st42 hQ42
    subst l42 y42 z42
    obtain ⟨rfl, N42q, e42⟩ := hQ42
    rw [show (F1003 w_COMPACT_STRINGS) = (0 : Int32) from by first | decide | (unfold F1003; repeat' split) <;> first | rfl | simp_all] at st42
    have N42 := Fr.app N33 N42q
    have fq50 := (Fld.ext E41 (Fld.ext E32 (Fld.other W21 (Fld.other W17 (Fld.other W13 (Fld.other W9 (Fld.other W5 (Fld.ext E1 F_ordinal_w_PLUS) (Or.inl ne_w_PLUS_b1)) (Or.inl ne_w_PLUS_b1)) (Or.inl ne_w_PLUS_b1)) (Or.inl ne_w_PLUS_b1)) (Or.inl ne_w_PLUS_b1))))
    have fq51 := (Exa.ext E41 (Exa.ext E32 fq28))
    obtain ⟨cq49, kq49, iq49a, iq49b, iq49c⟩ := isOf hZ e42 fq51
    obtain ⟨_, _, ⟨T49, L49, k49, n49⟩, -, X49, ⟨Lc49, hQ49, l49, y49, z49⟩, st49⟩ := X42.virtualBack hx (y := (⟨"com/example/preddb/preddb/Program$ArithmeticOperator", "apply", "(JJ)J"⟩ : MethodName)) (z := (⟨"com/example/preddb/preddb/Program$ArithmeticOperator", "apply", "(JJ)J"⟩ : MethodName)) hown (mvT hZ (hw _ (List.mem_of_getElem? (i := 52) rfl))) (mvT hZ (hw _ (List.mem_of_getElem? (i := 53) rfl))) (notFace_of_selects (args := #[]) (mvT hZ (hw _ (List.mem_of_getElem? (i := 55) rfl)))) (mvT hZ (hw _ (List.mem_of_getElem? (i := 55) rfl))) (mvT hZ (hw _ (List.mem_of_getElem? (i := 54) rfl))) (by decide) (backOf (W := 0) (rm5 l Z a0 hw [] w_PLUS q2 (0 : Int64) h41 n0 z48 fq51 fq50) hZ (hw _ (List.mem_of_getElem? (i := 56) rfl)) (hw _ (List.mem_of_getElem? (i := 3) rfl)) (by decide) (by decide)) iq49a iq49c (g := (mkF m 119 #[.val (.int p1), .val (.long q2), .second, .val (.ref b1), .val (.ref w_PLUS), .val (.int (0 : Int32)), .val (.ref t_PLUS), .val (.int (0 : Int32)), .unset, .unset] [(.long (0 : Int64)), (.long q2), (.ref w_PLUS)])) rfl (by rw [hml]; rfl) (Steps.refl _) (argsL := [(.long q2), (.long (0 : Int64))]) (rest := []) (lenOf pd_0_4 rfl) rfl (by show 2 * 0 + _ ≤ _; exact Nat.le_of_eq rfl) (hb hby at_119) (fun _ _ => ⟨rfl, e42, (by decide : 5 + 0 ≤ _), (by decide : 21 + 0 ≤ _)⟩)
    dsimp only [Pt.U, Pt.locs, Pt.cells, Pt.slots] at X49 l49 y49 z49 st49 hQ49
    subst l49 y49 z49
    obtain ⟨rfl, N49q, e49⟩ := hQ49
    have N49 := Fr.app N42 N49q
    have pre52 : ∀ t, Steps p.tables e below (T49.setTop (mkF m 128 #[.val (.int p1), .val (.long q2), .second, .val (.ref b1), .val (.ref w_PLUS), .val (.int (0 : Int32)), .val (.ref t_PLUS), .val (.int (0 : Int32)), .val (.long (F5 q2 (0 : Int64))), .second] [(.int (lcmpW (F5 q2 (0 : Int64)) q2))])) t → Steps p.tables e below (s₁.setTop (entryFrame m #[(.int p1), (.long q2)] maxLocals)) t := fun t kt => by
      refine pre40 t ?_
      show Steps p.tables e below (T33.setTop (mkF m 71 #[.val (.int p1), .val (.long q2), .second, .val (.ref b1), .val (.ref w_PLUS), .val (.int (0 : Int32)), .val (.ref t_PLUS), .unset, .unset, .unset] [(.ref t_PLUS)])) _
      refine st41 _ ?_
      show Steps p.tables e below (T41.setTop (mkF m 73 #[.val (.int p1), .val (.long q2), .second, .val (.ref b1), .val (.ref w_PLUS), .val (.int (0 : Int32)), .val (.ref t_PLUS), .unset, .unset, .unset] [(.ref b41), (.ref t_PLUS)])) _
      refine st42.trans ?_
      show Steps p.tables e below (T42.setTop (mkF m 76 #[.val (.int p1), .val (.long q2), .second, .val (.ref b1), .val (.ref w_PLUS), .val (.int (0 : Int32)), .val (.ref t_PLUS), .unset, .unset, .unset] [(.int (0 : Int32))])) _
      refine XS.ifYes X42.here hx rfl (pc0 := 76) (pc' := 83) rfl (hb hby at_76) rfl ((if0 _ _).trans (teq (rfl : (0 : Int32) = (0 : Int32))).1) (by decide) (by decide) ?_
      show Steps p.tables e below (T42.setTop (mkF m 83 #[.val (.int p1), .val (.long q2), .second, .val (.ref b1), .val (.ref w_PLUS), .val (.int (0 : Int32)), .val (.ref t_PLUS), .unset, .unset, .unset] [])) _
      refine XS.iconst X42.here hx rfl (hb hby at_83) ?_
      show Steps p.tables e below (T42.setTop (mkF m 84 #[.val (.int p1), .val (.long q2), .second, .val (.ref b1), .val (.ref w_PLUS), .val (.int (0 : Int32)), .val (.ref t_PLUS), .unset, .unset, .unset] [(.int (0 : Int32))])) _
      refine XS.istore X42.here hx rfl (hb hby at_84) rfl (l' := #[.val (.int p1), .val (.long q2), .second, .val (.ref b1), .val (.ref w_PLUS), .val (.int (0 : Int32)), .val (.ref t_PLUS), .val (.int (0 : Int32)), .unset, .unset]) rfl ?_
      show Steps p.tables e below (T42.setTop (mkF m 86 #[.val (.int p1), .val (.long q2), .second, .val (.ref b1), .val (.ref w_PLUS), .val (.int (0 : Int32)), .val (.ref t_PLUS), .val (.int (0 : Int32)), .unset, .unset] [])) _
      refine XS.iload X42.here hx rfl (hb hby at_86) rfl ?_
      show Steps p.tables e below (T42.setTop (mkF m 88 #[.val (.int p1), .val (.long q2), .second, .val (.ref b1), .val (.ref w_PLUS), .val (.int (0 : Int32)), .val (.ref t_PLUS), .val (.int (0 : Int32)), .unset, .unset] [(.int (0 : Int32))])) _
      refine XS.iload X42.here hx rfl (hb hby at_88) rfl ?_
      show Steps p.tables e below (T42.setTop (mkF m 90 #[.val (.int p1), .val (.long q2), .second, .val (.ref b1), .val (.ref w_PLUS), .val (.int (0 : Int32)), .val (.ref t_PLUS), .val (.int (0 : Int32)), .unset, .unset] [(.int (0 : Int32)), (.int (0 : Int32))])) _
      refine XS.icmpYes X42.here hx rfl (pc0 := 90) (pc' := 95) rfl (hb hby at_90) rfl (teq (rfl : (0 : Int32) = (0 : Int32))).1 (by decide) (by decide) ?_
      show Steps p.tables e below (T42.setTop (mkF m 95 #[.val (.int p1), .val (.long q2), .second, .val (.ref b1), .val (.ref w_PLUS), .val (.int (0 : Int32)), .val (.ref t_PLUS), .val (.int (0 : Int32)), .unset, .unset] [])) _
      refine XS.iload X42.here hx rfl (hb hby at_95) rfl ?_
      show Steps p.tables e below (T42.setTop (mkF m 97 #[.val (.int p1), .val (.long q2), .second, .val (.ref b1), .val (.ref w_PLUS), .val (.int (0 : Int32)), .val (.ref t_PLUS), .val (.int (0 : Int32)), .unset, .unset] [(.int (0 : Int32))])) _
      refine XS.ifYes X42.here hx rfl (pc0 := 97) (pc' := 115) rfl (hb hby at_97) rfl ((if0 _ _).trans (teq (rfl : (0 : Int32) = (0 : Int32))).1) (by decide) (by decide) ?_
      show Steps p.tables e below (T42.setTop (mkF m 115 #[.val (.int p1), .val (.long q2), .second, .val (.ref b1), .val (.ref w_PLUS), .val (.int (0 : Int32)), .val (.ref t_PLUS), .val (.int (0 : Int32)), .unset, .unset] [])) _
      refine XS.aload X42.here hx rfl (hb hby at_115) rfl rfl ?_
      show Steps p.tables e below (T42.setTop (mkF m 117 #[.val (.int p1), .val (.long q2), .second, .val (.ref b1), .val (.ref w_PLUS), .val (.int (0 : Int32)), .val (.ref t_PLUS), .val (.int (0 : Int32)), .unset, .unset] [(.ref w_PLUS)])) _
      refine XS.lloadN X42.here hx rfl (hb hby at_117) rfl ?_
      show Steps p.tables e below (T42.setTop (mkF m 118 #[.val (.int p1), .val (.long q2), .second, .val (.ref b1), .val (.ref w_PLUS), .val (.int (0 : Int32)), .val (.ref t_PLUS), .val (.int (0 : Int32)), .unset, .unset] [(.long q2), (.ref w_PLUS)])) _
      refine XS.lconst X42.here hx rfl (hb hby at_118) ?_
      show Steps p.tables e below (T42.setTop (mkF m 119 #[.val (.int p1), .val (.long q2), .second, .val (.ref b1), .val (.ref w_PLUS), .val (.int (0 : Int32)), .val (.ref t_PLUS), .val (.int (0 : Int32)), .unset, .unset] [(.long (0 : Int64)), (.long q2), (.ref w_PLUS)])) _
      refine st49.trans ?_
      show Steps p.tables e below (T49.setTop (mkF m 122 #[.val (.int p1), .val (.long q2), .second, .val (.ref b1), .val (.ref w_PLUS), .val (.int (0 : Int32)), .val (.ref t_PLUS), .val (.int (0 : Int32)), .unset, .unset] [(.long (F5 q2 (0 : Int64)))])) _
      refine XS.lstore X49.here hx rfl (hb hby at_122) rfl (l' := #[.val (.int p1), .val (.long q2), .second, .val (.ref b1), .val (.ref w_PLUS), .val (.int (0 : Int32)), .val (.ref t_PLUS), .val (.int (0 : Int32)), .val (.long (F5 q2 (0 : Int64))), .second]) rfl ?_
      show Steps p.tables e below (T49.setTop (mkF m 124 #[.val (.int p1), .val (.long q2), .second, .val (.ref b1), .val (.ref w_PLUS), .val (.int (0 : Int32)), .val (.ref t_PLUS), .val (.int (0 : Int32)), .val (.long (F5 q2 (0 : Int64))), .second] [])) _
      refine XS.lload X49.here hx rfl (hb hby at_124) rfl ?_
      show Steps p.tables e below (T49.setTop (mkF m 126 #[.val (.int p1), .val (.long q2), .second, .val (.ref b1), .val (.ref w_PLUS), .val (.int (0 : Int32)), .val (.ref t_PLUS), .val (.int (0 : Int32)), .val (.long (F5 q2 (0 : Int64))), .second] [(.long (F5 q2 (0 : Int64)))])) _
      refine XS.lloadN X49.here hx rfl (hb hby at_126) rfl ?_
      show Steps p.tables e below (T49.setTop (mkF m 127 #[.val (.int p1), .val (.long q2), .second, .val (.ref b1), .val (.ref w_PLUS), .val (.int (0 : Int32)), .val (.ref t_PLUS), .val (.int (0 : Int32)), .val (.long (F5 q2 (0 : Int64))), .second] [(.long q2), (.long (F5 q2 (0 : Int64)))])) _
      refine XS.lcmp X49.here hx rfl (hb hby at_127) rfl ?_
      exact kt
    by_cases hc53 : (lcmpW (F5 q2 (0 : Int64)) q2) = (0 : Int32)
    · obtain ⟨fs, hr, hrun, hended, hE⟩ := Jvm.Stand.leaveW (s := s) (vm₁ := T41.vm) X49 hS41 (by rw [e49]; exact hk41) (v := some (.int (1 : Int32))) (fun h => by rw [Bd.returns] at h; cases h)
      refine ⟨_, _, pre52 _ ?_, hrun, hended, _, _, rfl, ?_, hE.1, hE.2.1, hE.2.2.1, hE.2.2.2.mono (by decide) (by decide)⟩
      · show Steps p.tables e below (T49.setTop (mkF m 128 #[.val (.int p1), .val (.long q2), .second, .val (.ref b1), .val (.ref w_PLUS), .val (.int (0 : Int32)), .val (.ref t_PLUS), .val (.int (0 : Int32)), .val (.long (F5 q2 (0 : Int64))), .second] [(.int (lcmpW (F5 q2 (0 : Int64)) q2))])) _
        refine XS.ifYes X49.here hx rfl (pc0 := 128) (pc' := 138) rfl (hb hby at_128) rfl ((if0 _ _).trans (teq hc53).1) (by decide) (by decide) ?_
        show Steps p.tables e below (T49.setTop (mkF m 138 #[.val (.int p1), .val (.long q2), .second, .val (.ref b1), .val (.ref w_PLUS), .val (.int (0 : Int32)), .val (.ref t_PLUS), .val (.int (0 : Int32)), .val (.long (F5 q2 (0 : Int64))), .second] [])) _
        refine XS.iconst X49.here hx rfl (hb hby at_138) ?_
        show Steps p.tables e below (T49.setTop (mkF m 139 #[.val (.int p1), .val (.long q2), .second, .val (.ref b1), .val (.ref w_PLUS), .val (.int (0 : Int32)), .val (.ref t_PLUS), .val (.int (0 : Int32)), .val (.long (F5 q2 (0 : Int64))), .second] [(.int (1 : Int32))])) _
        refine XS.goto X49.here hx rfl (pc0 := 139) (pc' := 143) rfl (hb hby at_139) (by decide) (by decide) ?_
        show Steps p.tables e below (T49.setTop (mkF m 143 #[.val (.int p1), .val (.long q2), .second, .val (.ref b1), .val (.ref w_PLUS), .val (.int (0 : Int32)), .val (.ref t_PLUS), .val (.int (0 : Int32)), .val (.long (F5 q2 (0 : Int64))), .second] [(.int (1 : Int32))])) _
        exact retN X49 hx (t := .boolean) Bd.returns (by simp) (hb hby at_143) hr
      · show Q0 Z p1 q2 w_PLUS t_PLUS v_PLUS k_v_PLUS w_MINUS t_MINUS v_MINUS k_v_MINUS w_TIMES t_TIMES v_TIMES k_v_TIMES w_DIVIDE t_DIVIDE v_DIVIDE k_v_DIVIDE w_REMAINDER t_REMAINDER v_REMAINDER k_v_REMAINDER w_COMPACT_STRINGS h0 n0 _ T49.heap _
        rw [e49]
        exact ⟨rfl, N49⟩
    · have pre54 : ∀ t, Steps p.tables e below (T49.setTop (mkF m 135 #[.val (.int p1), .val (.long q2), .second, .val (.ref b1), .val (.ref w_PLUS), .val (.int (0 : Int32)), .val (.ref t_PLUS), .val (.int (0 : Int32)), .val (.long (F5 q2 (0 : Int64))), .second] [(.int (lcmpW (F5 q2 (0 : Int64)) (0 : Int64)))])) t → Steps p.tables e below (s₁.setTop (entryFrame m #[(.int p1), (.long q2)] maxLocals)) t := fun t kt => by
        refine pre52 t ?_
        show Steps p.tables e below (T49.setTop (mkF m 128 #[.val (.int p1), .val (.long q2), .second, .val (.ref b1), .val (.ref w_PLUS), .val (.int (0 : Int32)), .val (.ref t_PLUS), .val (.int (0 : Int32)), .val (.long (F5 q2 (0 : Int64))), .second] [(.int (lcmpW (F5 q2 (0 : Int64)) q2))])) _
        refine XS.ifNo X49.here hx rfl (hb hby at_128) rfl ((if0 _ _).trans (feq hc53).1) ?_
        show Steps p.tables e below (T49.setTop (mkF m 131 #[.val (.int p1), .val (.long q2), .second, .val (.ref b1), .val (.ref w_PLUS), .val (.int (0 : Int32)), .val (.ref t_PLUS), .val (.int (0 : Int32)), .val (.long (F5 q2 (0 : Int64))), .second] [])) _
        refine XS.lload X49.here hx rfl (hb hby at_131) rfl ?_
        show Steps p.tables e below (T49.setTop (mkF m 133 #[.val (.int p1), .val (.long q2), .second, .val (.ref b1), .val (.ref w_PLUS), .val (.int (0 : Int32)), .val (.ref t_PLUS), .val (.int (0 : Int32)), .val (.long (F5 q2 (0 : Int64))), .second] [(.long (F5 q2 (0 : Int64)))])) _
        refine XS.lconst X49.here hx rfl (hb hby at_133) ?_
        show Steps p.tables e below (T49.setTop (mkF m 134 #[.val (.int p1), .val (.long q2), .second, .val (.ref b1), .val (.ref w_PLUS), .val (.int (0 : Int32)), .val (.ref t_PLUS), .val (.int (0 : Int32)), .val (.long (F5 q2 (0 : Int64))), .second] [(.long (0 : Int64)), (.long (F5 q2 (0 : Int64)))])) _
        refine XS.lcmp X49.here hx rfl (hb hby at_134) rfl ?_
        exact kt
      by_cases hc55 : (lcmpW (F5 q2 (0 : Int64)) (0 : Int64)) = (0 : Int32)
      · obtain ⟨fs, hr, hrun, hended, hE⟩ := Jvm.Stand.leaveW (s := s) (vm₁ := T41.vm) X49 hS41 (by rw [e49]; exact hk41) (v := some (.int (1 : Int32))) (fun h => by rw [Bd.returns] at h; cases h)
        refine ⟨_, _, pre54 _ ?_, hrun, hended, _, _, rfl, ?_, hE.1, hE.2.1, hE.2.2.1, hE.2.2.2.mono (by decide) (by decide)⟩
        · show Steps p.tables e below (T49.setTop (mkF m 135 #[.val (.int p1), .val (.long q2), .second, .val (.ref b1), .val (.ref w_PLUS), .val (.int (0 : Int32)), .val (.ref t_PLUS), .val (.int (0 : Int32)), .val (.long (F5 q2 (0 : Int64))), .second] [(.int (lcmpW (F5 q2 (0 : Int64)) (0 : Int64)))])) _
          refine XS.ifNo X49.here hx rfl (hb hby at_135) rfl ((if0 _ _).trans (teq hc55).2) ?_
          show Steps p.tables e below (T49.setTop (mkF m 138 #[.val (.int p1), .val (.long q2), .second, .val (.ref b1), .val (.ref w_PLUS), .val (.int (0 : Int32)), .val (.ref t_PLUS), .val (.int (0 : Int32)), .val (.long (F5 q2 (0 : Int64))), .second] [])) _
          refine XS.iconst X49.here hx rfl (hb hby at_138) ?_
          show Steps p.tables e below (T49.setTop (mkF m 139 #[.val (.int p1), .val (.long q2), .second, .val (.ref b1), .val (.ref w_PLUS), .val (.int (0 : Int32)), .val (.ref t_PLUS), .val (.int (0 : Int32)), .val (.long (F5 q2 (0 : Int64))), .second] [(.int (1 : Int32))])) _
          refine XS.goto X49.here hx rfl (pc0 := 139) (pc' := 143) rfl (hb hby at_139) (by decide) (by decide) ?_
          show Steps p.tables e below (T49.setTop (mkF m 143 #[.val (.int p1), .val (.long q2), .second, .val (.ref b1), .val (.ref w_PLUS), .val (.int (0 : Int32)), .val (.ref t_PLUS), .val (.int (0 : Int32)), .val (.long (F5 q2 (0 : Int64))), .second] [(.int (1 : Int32))])) _
          exact retN X49 hx (t := .boolean) Bd.returns (by simp) (hb hby at_143) hr
        · show Q0 Z p1 q2 w_PLUS t_PLUS v_PLUS k_v_PLUS w_MINUS t_MINUS v_MINUS k_v_MINUS w_TIMES t_TIMES v_TIMES k_v_TIMES w_DIVIDE t_DIVIDE v_DIVIDE k_v_DIVIDE w_REMAINDER t_REMAINDER v_REMAINDER k_v_REMAINDER w_COMPACT_STRINGS h0 n0 _ T49.heap _
          rw [e49]
          exact ⟨rfl, N49⟩
      · exact (leaf_0_3 p1 q2 w_COMPACT_STRINGS hk23 hc53 hc55).elim
  · rw [hk23] at pre22
    obtain ⟨cl56, Ar56, aq56, S56, M56, H56, G56⟩ := id V21
    have hin56 : ¬ ((1 : Int32) < 0 ∨ cl56.slots.size ≤ ((1 : Int32)).toNatClampNeg) := inb_of S56 ⟨by decide, by decide⟩
    have hat56 : cl56.slots[((1 : Int32)).toNatClampNeg]? = some (.ref w_MINUS) := Has.at H56 hin56 rfl
    have fq58 := (fq18.wr W21 g_b1)
    have z59 : n0 ≤ h21.size := (Nat.le_trans (Nat.le_trans (Nat.le_trans (Nat.le_trans (Nat.le_trans (Nat.le_trans Z0 E1.1) (Keep.of_wr W5).1) (Keep.of_wr W9).1) (Keep.of_wr W13).1) (Keep.of_wr W17).1) (Keep.of_wr W21).1)
    have fq60 := (Exa.wr W21 (Exa.wr W17 (Exa.wr W13 (Exa.wr W9 fq8))))
    obtain ⟨cq57, kq57, iq57a, iq57b, iq57c⟩ := isOf hZ e21 fq60
    obtain ⟨_, _, ⟨T57, L57, k57, n57⟩, -, X57, ⟨Lc57, hQ57, l57, y57, z57⟩, st57⟩ := X21.virtualBack hx (y := (⟨"com/example/preddb/preddb/Program$ArithmeticOperator", "divides", "()Z"⟩ : MethodName)) (z := (⟨"com/example/preddb/preddb/Program$ArithmeticOperator", "divides", "()Z"⟩ : MethodName)) hown (mvT hZ (hw _ (List.mem_of_getElem? (i := 15) rfl))) (mvT hZ (hw _ (List.mem_of_getElem? (i := 16) rfl))) (notFace_of_selects (args := #[]) (mvT hZ (hw _ (List.mem_of_getElem? (i := 18) rfl)))) (mvT hZ (hw _ (List.mem_of_getElem? (i := 18) rfl))) (mvT hZ (hw _ (List.mem_of_getElem? (i := 17) rfl))) (by decide) (backOf (W := 0) (rm2001 l Z a0 hw [] w_MINUS w_DIVIDE w_REMAINDER h21 n0 z59 S_DIVIDE fq58 ne_w_MINUS_w_DIVIDE S_REMAINDER ne_w_MINUS_w_REMAINDER) hZ (hw _ (List.mem_of_getElem? (i := 19) rfl)) (hw _ (List.mem_of_getElem? (i := 3) rfl)) (by decide) (by decide)) iq57a iq57c (g := (mkF m 47 #[.val (.int p1), .val (.long q2), .second, .val (.ref b1), .val (.ref w_MINUS), .unset, .unset, .unset, .unset, .unset] [(.ref w_MINUS)])) rfl (by rw [hml]; rfl) (Steps.refl _) (argsL := []) (rest := []) (lenOf pd_0_0 rfl) rfl (by show 2 * 0 + _ ≤ _; exact Nat.le_of_eq rfl) (hb hby at_47) (fun _ _ => ⟨rfl, e21, (by decide : 1 + 0 ≤ _), (by decide : 5 + 0 ≤ _)⟩)
    dsimp only [Pt.U, Pt.locs, Pt.cells, Pt.slots] at X57 l57 y57 z57 st57 hQ57
    subst l57 y57 z57
    obtain ⟨rfl, N57q, e57⟩ := hQ57
    rw [show (F2001 ) = (0 : Int32) from by first | decide | (unfold F2001; repeat' split) <;> first | rfl | simp_all] at st57
    have N57 := Fr.app N21 N57q
    have fq62 := (Fld.other W21 (Fld.other W17 (Fld.other W13 (Fld.other W9 (Fld.other W5 (Fld.ext E1 F_token_w_MINUS) (Or.inl ne_w_MINUS_b1)) (Or.inl ne_w_MINUS_b1)) (Or.inl ne_w_MINUS_b1)) (Or.inl ne_w_MINUS_b1)) (Or.inl ne_w_MINUS_b1))
    obtain ⟨cq61, kq61, iq61a, iq61b, iq61c⟩ := isOf hZ e57 fq60
    obtain ⟨_, _, ⟨T61, L61, k61, n61⟩, -, X61, ⟨Lc61, hQ61, l61, y61, z61⟩, st61⟩ := X57.virtualBack hx (y := (⟨"com/example/preddb/preddb/Program$ArithmeticOperator", "token", "()Ljava/lang/String;"⟩ : MethodName)) (z := (⟨"com/example/preddb/preddb/Program$ArithmeticOperator", "token", "()Ljava/lang/String;"⟩ : MethodName)) hown (mvT hZ (hw _ (List.mem_of_getElem? (i := 22) rfl))) (mvT hZ (hw _ (List.mem_of_getElem? (i := 23) rfl))) (notFace_of_selects (args := #[]) (mvT hZ (hw _ (List.mem_of_getElem? (i := 25) rfl)))) (mvT hZ (hw _ (List.mem_of_getElem? (i := 25) rfl))) (mvT hZ (hw _ (List.mem_of_getElem? (i := 24) rfl))) (by decide) (backOf (W := 0) (rm2 l Z a0 hw [] w_MINUS t_MINUS h21 n0 z59 fq62) hZ (hw _ (List.mem_of_getElem? (i := 26) rfl)) (hw _ (List.mem_of_getElem? (i := 3) rfl)) (by decide) (by decide)) iq61a iq61c (g := (mkF m 54 #[.val (.int p1), .val (.long q2), .second, .val (.ref b1), .val (.ref w_MINUS), .val (.int (0 : Int32)), .unset, .unset, .unset, .unset] [(.ref w_MINUS)])) rfl (by rw [hml]; rfl) (Steps.refl _) (argsL := []) (rest := []) (lenOf pd_0_1 rfl) rfl (by show 2 * 0 + _ ≤ _; exact Nat.le_of_eq rfl) (hb hby at_54) (fun _ _ => ⟨rfl, e57, (by decide : 1 + 0 ≤ _), (by decide : 5 + 0 ≤ _)⟩)
    dsimp only [Pt.U, Pt.locs, Pt.cells, Pt.slots] at X61 l61 y61 z61 st61 hQ61
    subst l61 y61 z61
    obtain ⟨rfl, N61q, e61⟩ := hQ61
    have N61 := Fr.app N57 N61q
    have pre63 : ∀ t, Steps p.tables e below (T61.setTop (mkF m 61 #[.val (.int p1), .val (.long q2), .second, .val (.ref b1), .val (.ref w_MINUS), .val (.int (0 : Int32)), .val (.ref t_MINUS), .unset, .unset, .unset] [(.ref t_MINUS)])) t → Steps p.tables e below (s₁.setTop (entryFrame m #[(.int p1), (.long q2)] maxLocals)) t := fun t kt => by
      refine pre22 t ?_
      show Steps p.tables e below (T21.setTop (mkF m 42 #[.val (.int p1), .val (.long q2), .second, .val (.ref b1), .unset, .unset, .unset, .unset, .unset, .unset] [(.int (1 : Int32)), (.ref b1)])) _
      refine X21.aaload hx (j := (1 : Int32)) (v := (.ref w_MINUS)) (by rw [e21]; exact Ar56.1) (State.isArrayOf_alike hZ.alike Ar56.2.1) rfl Ar56.2.2 hin56 hat56 (g := (mkF m 42 #[.val (.int p1), .val (.long q2), .second, .val (.ref b1), .unset, .unset, .unset, .unset, .unset, .unset] [(.int (1 : Int32)), (.ref b1)])) rfl rfl (hb hby at_42) _ ?_
      show Steps p.tables e below (T21.setTop (mkF m 43 #[.val (.int p1), .val (.long q2), .second, .val (.ref b1), .unset, .unset, .unset, .unset, .unset, .unset] [(.ref w_MINUS)])) _
      refine XS.astore X21.here hx rfl (hb hby at_43) rfl rfl (l' := #[.val (.int p1), .val (.long q2), .second, .val (.ref b1), .val (.ref w_MINUS), .unset, .unset, .unset, .unset, .unset]) rfl ?_
      show Steps p.tables e below (T21.setTop (mkF m 45 #[.val (.int p1), .val (.long q2), .second, .val (.ref b1), .val (.ref w_MINUS), .unset, .unset, .unset, .unset, .unset] [])) _
      refine XS.aload X21.here hx rfl (hb hby at_45) rfl rfl ?_
      show Steps p.tables e below (T21.setTop (mkF m 47 #[.val (.int p1), .val (.long q2), .second, .val (.ref b1), .val (.ref w_MINUS), .unset, .unset, .unset, .unset, .unset] [(.ref w_MINUS)])) _
      refine st57.trans ?_
      show Steps p.tables e below (T57.setTop (mkF m 50 #[.val (.int p1), .val (.long q2), .second, .val (.ref b1), .val (.ref w_MINUS), .unset, .unset, .unset, .unset, .unset] [(.int (0 : Int32))])) _
      refine XS.istore X57.here hx rfl (hb hby at_50) rfl (l' := #[.val (.int p1), .val (.long q2), .second, .val (.ref b1), .val (.ref w_MINUS), .val (.int (0 : Int32)), .unset, .unset, .unset, .unset]) rfl ?_
      show Steps p.tables e below (T57.setTop (mkF m 52 #[.val (.int p1), .val (.long q2), .second, .val (.ref b1), .val (.ref w_MINUS), .val (.int (0 : Int32)), .unset, .unset, .unset, .unset] [])) _
      refine XS.aload X57.here hx rfl (hb hby at_52) rfl rfl ?_
      show Steps p.tables e below (T57.setTop (mkF m 54 #[.val (.int p1), .val (.long q2), .second, .val (.ref b1), .val (.ref w_MINUS), .val (.int (0 : Int32)), .unset, .unset, .unset, .unset] [(.ref w_MINUS)])) _
      refine st61.trans ?_
      show Steps p.tables e below (T61.setTop (mkF m 57 #[.val (.int p1), .val (.long q2), .second, .val (.ref b1), .val (.ref w_MINUS), .val (.int (0 : Int32)), .unset, .unset, .unset, .unset] [(.ref t_MINUS)])) _
      refine XS.astore X61.here hx rfl (hb hby at_57) rfl rfl (l' := #[.val (.int p1), .val (.long q2), .second, .val (.ref b1), .val (.ref w_MINUS), .val (.int (0 : Int32)), .val (.ref t_MINUS), .unset, .unset, .unset]) rfl ?_
      show Steps p.tables e below (T61.setTop (mkF m 59 #[.val (.int p1), .val (.long q2), .second, .val (.ref b1), .val (.ref w_MINUS), .val (.int (0 : Int32)), .val (.ref t_MINUS), .unset, .unset, .unset] [])) _
      refine XS.aload X61.here hx rfl (hb hby at_59) rfl rfl ?_
      exact kt
    obtain ⟨b64, T64, h64, kz64, bv64, kk64, X64, e64, E64, hS64, hk64, hZ, hown, A64, C64, F64, V64, lt64, ltb64, I64, st64⟩ := ldcSV (s := s) (vm0 := s.vm) X61 hx hZ hown (hw _ (List.mem_of_getElem? (i := 29) rfl)) wS e61 hS0 (Nat.le_trans (Nat.le_of_eq (by rw [hn0, hh0])) z59) (by rw [hsZ, ← hn0]; exact N61) (fun b cl q => by rw [hsZ]; exact q) I0 (by decide) HC34 hcw (vs := [(.int (47 : Int32))]) (z := (1 : Int32)) ⟨by decide, by rfl⟩ (by decide) (by rfl) (g := (mkF m 61 #[.val (.int p1), .val (.long q2), .second, .val (.ref b1), .val (.ref w_MINUS), .val (.int (0 : Int32)), .val (.ref t_MINUS), .unset, .unset, .unset] [(.ref t_MINUS)])) rfl (hb hby at_61) (n := 4) (by decide) (by decide) (by decide) (by decide)
    have fq66 := (Fld.ext E64 (Fld.other W21 (Fld.other W17 (Fld.other W13 (Fld.other W9 (Fld.other W5 (Fld.ext E1 F_coder_t_MINUS) (Or.inl ne_t_MINUS_b1)) (Or.inl ne_t_MINUS_b1)) (Or.inl ne_t_MINUS_b1)) (Or.inl ne_t_MINUS_b1)) (Or.inl ne_t_MINUS_b1)))
    have fq67 := (Fld.ext E64 (Fld.other W21 (Fld.other W17 (Fld.other W13 (Fld.other W9 (Fld.other W5 (Fld.ext E1 F_value_t_MINUS) (Or.inl ne_t_MINUS_b1)) (Or.inl ne_t_MINUS_b1)) (Or.inl ne_t_MINUS_b1)) (Or.inl ne_t_MINUS_b1)) (Or.inl ne_t_MINUS_b1)))
    have fq68 := (Exa.ext E64 (Exa.wr W21 (Exa.wr W17 (Exa.wr W13 (Exa.wr W9 (Exa.wr W5 (Exa.ext E1 E_t_MINUS)))))))
    have fq69 := (((((((V_v_MINUS.ext E1).other W5 ne_v_MINUS_b1).other W9 ne_v_MINUS_b1).other W13 ne_v_MINUS_b1).other W17 ne_v_MINUS_b1).other W21 ne_v_MINUS_b1).ext E64)
    have fq70 := (fq58.ext E64)
    have z71 : n0 ≤ h64.size := (Nat.le_trans z59 E64.1)
    obtain ⟨cq65, kq65, iq65a, iq65b, iq65c⟩ := isOf hZ e64 fq68
    obtain ⟨_, _, ⟨T65, L65, k65, n65⟩, -, X65, ⟨Lc65, hQ65, l65, y65, z65⟩, st65⟩ := X64.virtualBack hx (y := (⟨"java/lang/String", "equals", "(Ljava/lang/Object;)Z"⟩ : MethodName)) (z := (⟨"java/lang/String", "equals", "(Ljava/lang/Object;)Z"⟩ : MethodName)) hown (mvT hZ (hw _ (List.mem_of_getElem? (i := 37) rfl))) (mvT hZ (hw _ (List.mem_of_getElem? (i := 38) rfl))) (notFace_of_selects (args := #[]) (mvT hZ (hw _ (List.mem_of_getElem? (i := 40) rfl)))) (mvT hZ (hw _ (List.mem_of_getElem? (i := 40) rfl))) (mvT hZ (hw _ (List.mem_of_getElem? (i := 39) rfl))) (by decide) (backOf (W := 0) (rm2003 l Z a0 hw [] t_MINUS b64 v_MINUS k_v_MINUS bv64 kk64 w_COMPACT_STRINGS h64 n0 z71 fq68 fq66 fq67 fq69 A64 C64 F64 V64 S_COMPACT_STRINGS fq70) hZ (hw _ (List.mem_of_getElem? (i := 41) rfl)) (hw _ (List.mem_of_getElem? (i := 30) rfl)) (by decide) (by decide)) iq65a iq65c (g := (mkF m 63 #[.val (.int p1), .val (.long q2), .second, .val (.ref b1), .val (.ref w_MINUS), .val (.int (0 : Int32)), .val (.ref t_MINUS), .unset, .unset, .unset] [(.ref b64), (.ref t_MINUS)])) rfl (by rw [hml]; rfl) (Steps.refl _) (argsL := [(.ref b64)]) (rest := []) (lenOf pd_0_2 rfl) rfl (by show 2 * 0 + _ ≤ _; exact Nat.le_of_eq rfl) (hb hby at_63) (fun _ _ => ⟨rfl, e64, (by decide : 3 + 0 ≤ _), (by decide : 13 + 0 ≤ _)⟩)
    dsimp only [Pt.U, Pt.locs, Pt.cells, Pt.slots] at X65 l65 y65 z65 st65 hQ65
    subst l65 y65 z65
    obtain ⟨rfl, N65q, e65⟩ := hQ65
    rw [show (F2003 w_COMPACT_STRINGS) = (0 : Int32) from by first | decide | (unfold F2003; repeat' split) <;> first | rfl | simp_all] at st65
    have N65 := Fr.app N61 N65q
    have pre72 : ∀ t, Steps p.tables e below (T65.setTop (mkF m 71 #[.val (.int p1), .val (.long q2), .second, .val (.ref b1), .val (.ref w_MINUS), .val (.int (0 : Int32)), .val (.ref t_MINUS), .unset, .unset, .unset] [(.ref t_MINUS)])) t → Steps p.tables e below (s₁.setTop (entryFrame m #[(.int p1), (.long q2)] maxLocals)) t := fun t kt => by
      refine pre63 t ?_
      show Steps p.tables e below (T61.setTop (mkF m 61 #[.val (.int p1), .val (.long q2), .second, .val (.ref b1), .val (.ref w_MINUS), .val (.int (0 : Int32)), .val (.ref t_MINUS), .unset, .unset, .unset] [(.ref t_MINUS)])) _
      refine st64 _ ?_
      show Steps p.tables e below (T64.setTop (mkF m 63 #[.val (.int p1), .val (.long q2), .second, .val (.ref b1), .val (.ref w_MINUS), .val (.int (0 : Int32)), .val (.ref t_MINUS), .unset, .unset, .unset] [(.ref b64), (.ref t_MINUS)])) _
      refine st65.trans ?_
      show Steps p.tables e below (T65.setTop (mkF m 66 #[.val (.int p1), .val (.long q2), .second, .val (.ref b1), .val (.ref w_MINUS), .val (.int (0 : Int32)), .val (.ref t_MINUS), .unset, .unset, .unset] [(.int (0 : Int32))])) _
      refine XS.ifNo X65.here hx rfl (hb hby at_66) rfl ((if0 _ _).trans (teq (rfl : (0 : Int32) = (0 : Int32))).2) ?_
      show Steps p.tables e below (T65.setTop (mkF m 69 #[.val (.int p1), .val (.long q2), .second, .val (.ref b1), .val (.ref w_MINUS), .val (.int (0 : Int32)), .val (.ref t_MINUS), .unset, .unset, .unset] [])) _
      refine XS.aload X65.here hx rfl (hb hby at_69) rfl rfl ?_
      exact kt
    obtain ⟨b73, T73, h73, kz73, bv73, kk73, X73, e73, E73, hS73, hk73, hZ, hown, A73, C73, F73, V73, lt73, ltb73, I73, st73⟩ := ldcSV (s := s) (vm0 := T64.vm) X65 hx hZ hown (hw _ (List.mem_of_getElem? (i := 51) rfl)) wS e65 hS64 hk64 (by rw [hsZ, ← hn0]; exact N65) (fun b cl q => by rw [hsZ]; exact q) I64 (by decide) HC42 hcw (vs := [(.int (37 : Int32))]) (z := (1 : Int32)) ⟨by decide, by rfl⟩ (by decide) (by rfl) (g := (mkF m 71 #[.val (.int p1), .val (.long q2), .second, .val (.ref b1), .val (.ref w_MINUS), .val (.int (0 : Int32)), .val (.ref t_MINUS), .unset, .unset, .unset] [(.ref t_MINUS)])) rfl (hb hby at_71) (n := 4) (by decide) (by decide) (by decide) (by decide)
    have fq75 := (Fld.ext E73 fq66)
    have fq76 := (Fld.ext E73 fq67)
    have fq77 := (Exa.ext E73 fq68)
    have fq78 := (fq69.ext E73)
    have fq79 := (fq70.ext E73)
    have z80 : n0 ≤ h73.size := (Nat.le_trans z71 E73.1)
    obtain ⟨cq74, kq74, iq74a, iq74b, iq74c⟩ := isOf hZ e73 fq77
    obtain ⟨_, _, ⟨T74, L74, k74, n74⟩, -, X74, ⟨Lc74, hQ74, l74, y74, z74⟩, st74⟩ := X73.virtualBack hx (y := (⟨"java/lang/String", "equals", "(Ljava/lang/Object;)Z"⟩ : MethodName)) (z := (⟨"java/lang/String", "equals", "(Ljava/lang/Object;)Z"⟩ : MethodName)) hown (mvT hZ (hw _ (List.mem_of_getElem? (i := 37) rfl))) (mvT hZ (hw _ (List.mem_of_getElem? (i := 38) rfl))) (notFace_of_selects (args := #[]) (mvT hZ (hw _ (List.mem_of_getElem? (i := 40) rfl)))) (mvT hZ (hw _ (List.mem_of_getElem? (i := 40) rfl))) (mvT hZ (hw _ (List.mem_of_getElem? (i := 39) rfl))) (by decide) (backOf (W := 0) (rm3003 l Z a0 hw [] t_MINUS b73 v_MINUS k_v_MINUS bv73 kk73 w_COMPACT_STRINGS h73 n0 z80 fq77 fq75 fq76 fq78 A73 C73 F73 V73 S_COMPACT_STRINGS fq79) hZ (hw _ (List.mem_of_getElem? (i := 41) rfl)) (hw _ (List.mem_of_getElem? (i := 30) rfl)) (by decide) (by decide)) iq74a iq74c (g := (mkF m 73 #[.val (.int p1), .val (.long q2), .second, .val (.ref b1), .val (.ref w_MINUS), .val (.int (0 : Int32)), .val (.ref t_MINUS), .unset, .unset, .unset] [(.ref b73), (.ref t_MINUS)])) rfl (by rw [hml]; rfl) (Steps.refl _) (argsL := [(.ref b73)]) (rest := []) (lenOf pd_0_2 rfl) rfl (by show 2 * 0 + _ ≤ _; exact Nat.le_of_eq rfl) (hb hby at_73) (fun _ _ => ⟨rfl, e73, (by decide : 5 + 0 ≤ _), (by decide : 21 + 0 ≤ _)⟩)
    dsimp only [Pt.U, Pt.locs, Pt.cells, Pt.slots] at X74 l74 y74 z74 st74 hQ74
    subst l74 y74 z74
    obtain ⟨rfl, N74q, e74⟩ := hQ74
    rw [show (F3003 w_COMPACT_STRINGS) = (0 : Int32) from by first | decide | (unfold F3003; repeat' split) <;> first | rfl | simp_all] at st74
    have N74 := Fr.app N65 N74q
    have fq82 := (Fld.ext E73 (Fld.ext E64 (Fld.other W21 (Fld.other W17 (Fld.other W13 (Fld.other W9 (Fld.other W5 (Fld.ext E1 F_ordinal_w_MINUS) (Or.inl ne_w_MINUS_b1)) (Or.inl ne_w_MINUS_b1)) (Or.inl ne_w_MINUS_b1)) (Or.inl ne_w_MINUS_b1)) (Or.inl ne_w_MINUS_b1))))
    have fq83 := (Exa.ext E73 (Exa.ext E64 fq60))
    obtain ⟨cq81, kq81, iq81a, iq81b, iq81c⟩ := isOf hZ e74 fq83
    obtain ⟨_, _, ⟨T81, L81, k81, n81⟩, -, X81, ⟨Lc81, hQ81, l81, y81, z81⟩, st81⟩ := X74.virtualBack hx (y := (⟨"com/example/preddb/preddb/Program$ArithmeticOperator", "apply", "(JJ)J"⟩ : MethodName)) (z := (⟨"com/example/preddb/preddb/Program$ArithmeticOperator", "apply", "(JJ)J"⟩ : MethodName)) hown (mvT hZ (hw _ (List.mem_of_getElem? (i := 52) rfl))) (mvT hZ (hw _ (List.mem_of_getElem? (i := 53) rfl))) (notFace_of_selects (args := #[]) (mvT hZ (hw _ (List.mem_of_getElem? (i := 55) rfl)))) (mvT hZ (hw _ (List.mem_of_getElem? (i := 55) rfl))) (mvT hZ (hw _ (List.mem_of_getElem? (i := 54) rfl))) (by decide) (backOf (W := 0) (rm1005 l Z a0 hw [] w_MINUS q2 (0 : Int64) h73 n0 z80 fq83 fq82) hZ (hw _ (List.mem_of_getElem? (i := 56) rfl)) (hw _ (List.mem_of_getElem? (i := 3) rfl)) (by decide) (by decide)) iq81a iq81c (g := (mkF m 119 #[.val (.int p1), .val (.long q2), .second, .val (.ref b1), .val (.ref w_MINUS), .val (.int (0 : Int32)), .val (.ref t_MINUS), .val (.int (0 : Int32)), .unset, .unset] [(.long (0 : Int64)), (.long q2), (.ref w_MINUS)])) rfl (by rw [hml]; rfl) (Steps.refl _) (argsL := [(.long q2), (.long (0 : Int64))]) (rest := []) (lenOf pd_0_4 rfl) rfl (by show 2 * 0 + _ ≤ _; exact Nat.le_of_eq rfl) (hb hby at_119) (fun _ _ => ⟨rfl, e74, (by decide : 5 + 0 ≤ _), (by decide : 21 + 0 ≤ _)⟩)
    dsimp only [Pt.U, Pt.locs, Pt.cells, Pt.slots] at X81 l81 y81 z81 st81 hQ81
    subst l81 y81 z81
    obtain ⟨rfl, N81q, e81⟩ := hQ81
    have N81 := Fr.app N74 N81q
    have pre84 : ∀ t, Steps p.tables e below (T81.setTop (mkF m 128 #[.val (.int p1), .val (.long q2), .second, .val (.ref b1), .val (.ref w_MINUS), .val (.int (0 : Int32)), .val (.ref t_MINUS), .val (.int (0 : Int32)), .val (.long (F1005 q2 (0 : Int64))), .second] [(.int (lcmpW (F1005 q2 (0 : Int64)) q2))])) t → Steps p.tables e below (s₁.setTop (entryFrame m #[(.int p1), (.long q2)] maxLocals)) t := fun t kt => by
      refine pre72 t ?_
      show Steps p.tables e below (T65.setTop (mkF m 71 #[.val (.int p1), .val (.long q2), .second, .val (.ref b1), .val (.ref w_MINUS), .val (.int (0 : Int32)), .val (.ref t_MINUS), .unset, .unset, .unset] [(.ref t_MINUS)])) _
      refine st73 _ ?_
      show Steps p.tables e below (T73.setTop (mkF m 73 #[.val (.int p1), .val (.long q2), .second, .val (.ref b1), .val (.ref w_MINUS), .val (.int (0 : Int32)), .val (.ref t_MINUS), .unset, .unset, .unset] [(.ref b73), (.ref t_MINUS)])) _
      refine st74.trans ?_
      show Steps p.tables e below (T74.setTop (mkF m 76 #[.val (.int p1), .val (.long q2), .second, .val (.ref b1), .val (.ref w_MINUS), .val (.int (0 : Int32)), .val (.ref t_MINUS), .unset, .unset, .unset] [(.int (0 : Int32))])) _
      refine XS.ifYes X74.here hx rfl (pc0 := 76) (pc' := 83) rfl (hb hby at_76) rfl ((if0 _ _).trans (teq (rfl : (0 : Int32) = (0 : Int32))).1) (by decide) (by decide) ?_
      show Steps p.tables e below (T74.setTop (mkF m 83 #[.val (.int p1), .val (.long q2), .second, .val (.ref b1), .val (.ref w_MINUS), .val (.int (0 : Int32)), .val (.ref t_MINUS), .unset, .unset, .unset] [])) _
      refine XS.iconst X74.here hx rfl (hb hby at_83) ?_
      show Steps p.tables e below (T74.setTop (mkF m 84 #[.val (.int p1), .val (.long q2), .second, .val (.ref b1), .val (.ref w_MINUS), .val (.int (0 : Int32)), .val (.ref t_MINUS), .unset, .unset, .unset] [(.int (0 : Int32))])) _
      refine XS.istore X74.here hx rfl (hb hby at_84) rfl (l' := #[.val (.int p1), .val (.long q2), .second, .val (.ref b1), .val (.ref w_MINUS), .val (.int (0 : Int32)), .val (.ref t_MINUS), .val (.int (0 : Int32)), .unset, .unset]) rfl ?_
      show Steps p.tables e below (T74.setTop (mkF m 86 #[.val (.int p1), .val (.long q2), .second, .val (.ref b1), .val (.ref w_MINUS), .val (.int (0 : Int32)), .val (.ref t_MINUS), .val (.int (0 : Int32)), .unset, .unset] [])) _
      refine XS.iload X74.here hx rfl (hb hby at_86) rfl ?_
      show Steps p.tables e below (T74.setTop (mkF m 88 #[.val (.int p1), .val (.long q2), .second, .val (.ref b1), .val (.ref w_MINUS), .val (.int (0 : Int32)), .val (.ref t_MINUS), .val (.int (0 : Int32)), .unset, .unset] [(.int (0 : Int32))])) _
      refine XS.iload X74.here hx rfl (hb hby at_88) rfl ?_
      show Steps p.tables e below (T74.setTop (mkF m 90 #[.val (.int p1), .val (.long q2), .second, .val (.ref b1), .val (.ref w_MINUS), .val (.int (0 : Int32)), .val (.ref t_MINUS), .val (.int (0 : Int32)), .unset, .unset] [(.int (0 : Int32)), (.int (0 : Int32))])) _
      refine XS.icmpYes X74.here hx rfl (pc0 := 90) (pc' := 95) rfl (hb hby at_90) rfl (teq (rfl : (0 : Int32) = (0 : Int32))).1 (by decide) (by decide) ?_
      show Steps p.tables e below (T74.setTop (mkF m 95 #[.val (.int p1), .val (.long q2), .second, .val (.ref b1), .val (.ref w_MINUS), .val (.int (0 : Int32)), .val (.ref t_MINUS), .val (.int (0 : Int32)), .unset, .unset] [])) _
      refine XS.iload X74.here hx rfl (hb hby at_95) rfl ?_
      show Steps p.tables e below (T74.setTop (mkF m 97 #[.val (.int p1), .val (.long q2), .second, .val (.ref b1), .val (.ref w_MINUS), .val (.int (0 : Int32)), .val (.ref t_MINUS), .val (.int (0 : Int32)), .unset, .unset] [(.int (0 : Int32))])) _
      refine XS.ifYes X74.here hx rfl (pc0 := 97) (pc' := 115) rfl (hb hby at_97) rfl ((if0 _ _).trans (teq (rfl : (0 : Int32) = (0 : Int32))).1) (by decide) (by decide) ?_
      show Steps p.tables e below (T74.setTop (mkF m 115 #[.val (.int p1), .val (.long q2), .second, .val (.ref b1), .val (.ref w_MINUS), .val (.int (0 : Int32)), .val (.ref t_MINUS), .val (.int (0 : Int32)), .unset, .unset] [])) _
      refine XS.aload X74.here hx rfl (hb hby at_115) rfl rfl ?_
      show Steps p.tables e below (T74.setTop (mkF m 117 #[.val (.int p1), .val (.long q2), .second, .val (.ref b1), .val (.ref w_MINUS), .val (.int (0 : Int32)), .val (.ref t_MINUS), .val (.int (0 : Int32)), .unset, .unset] [(.ref w_MINUS)])) _
      refine XS.lloadN X74.here hx rfl (hb hby at_117) rfl ?_
      show Steps p.tables e below (T74.setTop (mkF m 118 #[.val (.int p1), .val (.long q2), .second, .val (.ref b1), .val (.ref w_MINUS), .val (.int (0 : Int32)), .val (.ref t_MINUS), .val (.int (0 : Int32)), .unset, .unset] [(.long q2), (.ref w_MINUS)])) _
      refine XS.lconst X74.here hx rfl (hb hby at_118) ?_
      show Steps p.tables e below (T74.setTop (mkF m 119 #[.val (.int p1), .val (.long q2), .second, .val (.ref b1), .val (.ref w_MINUS), .val (.int (0 : Int32)), .val (.ref t_MINUS), .val (.int (0 : Int32)), .unset, .unset] [(.long (0 : Int64)), (.long q2), (.ref w_MINUS)])) _
      refine st81.trans ?_
      show Steps p.tables e below (T81.setTop (mkF m 122 #[.val (.int p1), .val (.long q2), .second, .val (.ref b1), .val (.ref w_MINUS), .val (.int (0 : Int32)), .val (.ref t_MINUS), .val (.int (0 : Int32)), .unset, .unset] [(.long (F1005 q2 (0 : Int64)))])) _
      refine XS.lstore X81.here hx rfl (hb hby at_122) rfl (l' := #[.val (.int p1), .val (.long q2), .second, .val (.ref b1), .val (.ref w_MINUS), .val (.int (0 : Int32)), .val (.ref t_MINUS), .val (.int (0 : Int32)), .val (.long (F1005 q2 (0 : Int64))), .second]) rfl ?_
      show Steps p.tables e below (T81.setTop (mkF m 124 #[.val (.int p1), .val (.long q2), .second, .val (.ref b1), .val (.ref w_MINUS), .val (.int (0 : Int32)), .val (.ref t_MINUS), .val (.int (0 : Int32)), .val (.long (F1005 q2 (0 : Int64))), .second] [])) _
      refine XS.lload X81.here hx rfl (hb hby at_124) rfl ?_
      show Steps p.tables e below (T81.setTop (mkF m 126 #[.val (.int p1), .val (.long q2), .second, .val (.ref b1), .val (.ref w_MINUS), .val (.int (0 : Int32)), .val (.ref t_MINUS), .val (.int (0 : Int32)), .val (.long (F1005 q2 (0 : Int64))), .second] [(.long (F1005 q2 (0 : Int64)))])) _
      refine XS.lloadN X81.here hx rfl (hb hby at_126) rfl ?_
      show Steps p.tables e below (T81.setTop (mkF m 127 #[.val (.int p1), .val (.long q2), .second, .val (.ref b1), .val (.ref w_MINUS), .val (.int (0 : Int32)), .val (.ref t_MINUS), .val (.int (0 : Int32)), .val (.long (F1005 q2 (0 : Int64))), .second] [(.long q2), (.long (F1005 q2 (0 : Int64)))])) _
      refine XS.lcmp X81.here hx rfl (hb hby at_127) rfl ?_
      exact kt
    by_cases hc85 : (lcmpW (F1005 q2 (0 : Int64)) q2) = (0 : Int32)
    · obtain ⟨fs, hr, hrun, hended, hE⟩ := Jvm.Stand.leaveW (s := s) (vm₁ := T73.vm) X81 hS73 (by rw [e81]; exact hk73) (v := some (.int (1 : Int32))) (fun h => by rw [Bd.returns] at h; cases h)
      refine ⟨_, _, pre84 _ ?_, hrun, hended, _, _, rfl, ?_, hE.1, hE.2.1, hE.2.2.1, hE.2.2.2.mono (by decide) (by decide)⟩
      · show Steps p.tables e below (T81.setTop (mkF m 128 #[.val (.int p1), .val (.long q2), .second, .val (.ref b1), .val (.ref w_MINUS), .val (.int (0 : Int32)), .val (.ref t_MINUS), .val (.int (0 : Int32)), .val (.long (F1005 q2 (0 : Int64))), .second] [(.int (lcmpW (F1005 q2 (0 : Int64)) q2))])) _
        refine XS.ifYes X81.here hx rfl (pc0 := 128) (pc' := 138) rfl (hb hby at_128) rfl ((if0 _ _).trans (teq hc85).1) (by decide) (by decide) ?_
        show Steps p.tables e below (T81.setTop (mkF m 138 #[.val (.int p1), .val (.long q2), .second, .val (.ref b1), .val (.ref w_MINUS), .val (.int (0 : Int32)), .val (.ref t_MINUS), .val (.int (0 : Int32)), .val (.long (F1005 q2 (0 : Int64))), .second] [])) _
        refine XS.iconst X81.here hx rfl (hb hby at_138) ?_
        show Steps p.tables e below (T81.setTop (mkF m 139 #[.val (.int p1), .val (.long q2), .second, .val (.ref b1), .val (.ref w_MINUS), .val (.int (0 : Int32)), .val (.ref t_MINUS), .val (.int (0 : Int32)), .val (.long (F1005 q2 (0 : Int64))), .second] [(.int (1 : Int32))])) _
        refine XS.goto X81.here hx rfl (pc0 := 139) (pc' := 143) rfl (hb hby at_139) (by decide) (by decide) ?_
        show Steps p.tables e below (T81.setTop (mkF m 143 #[.val (.int p1), .val (.long q2), .second, .val (.ref b1), .val (.ref w_MINUS), .val (.int (0 : Int32)), .val (.ref t_MINUS), .val (.int (0 : Int32)), .val (.long (F1005 q2 (0 : Int64))), .second] [(.int (1 : Int32))])) _
        exact retN X81 hx (t := .boolean) Bd.returns (by simp) (hb hby at_143) hr
      · show Q0 Z p1 q2 w_PLUS t_PLUS v_PLUS k_v_PLUS w_MINUS t_MINUS v_MINUS k_v_MINUS w_TIMES t_TIMES v_TIMES k_v_TIMES w_DIVIDE t_DIVIDE v_DIVIDE k_v_DIVIDE w_REMAINDER t_REMAINDER v_REMAINDER k_v_REMAINDER w_COMPACT_STRINGS h0 n0 _ T81.heap _
        rw [e81]
        exact ⟨rfl, N81⟩
    · have pre86 : ∀ t, Steps p.tables e below (T81.setTop (mkF m 135 #[.val (.int p1), .val (.long q2), .second, .val (.ref b1), .val (.ref w_MINUS), .val (.int (0 : Int32)), .val (.ref t_MINUS), .val (.int (0 : Int32)), .val (.long (F1005 q2 (0 : Int64))), .second] [(.int (lcmpW (F1005 q2 (0 : Int64)) (0 : Int64)))])) t → Steps p.tables e below (s₁.setTop (entryFrame m #[(.int p1), (.long q2)] maxLocals)) t := fun t kt => by
        refine pre84 t ?_
        show Steps p.tables e below (T81.setTop (mkF m 128 #[.val (.int p1), .val (.long q2), .second, .val (.ref b1), .val (.ref w_MINUS), .val (.int (0 : Int32)), .val (.ref t_MINUS), .val (.int (0 : Int32)), .val (.long (F1005 q2 (0 : Int64))), .second] [(.int (lcmpW (F1005 q2 (0 : Int64)) q2))])) _
        refine XS.ifNo X81.here hx rfl (hb hby at_128) rfl ((if0 _ _).trans (feq hc85).1) ?_
        show Steps p.tables e below (T81.setTop (mkF m 131 #[.val (.int p1), .val (.long q2), .second, .val (.ref b1), .val (.ref w_MINUS), .val (.int (0 : Int32)), .val (.ref t_MINUS), .val (.int (0 : Int32)), .val (.long (F1005 q2 (0 : Int64))), .second] [])) _
        refine XS.lload X81.here hx rfl (hb hby at_131) rfl ?_
        show Steps p.tables e below (T81.setTop (mkF m 133 #[.val (.int p1), .val (.long q2), .second, .val (.ref b1), .val (.ref w_MINUS), .val (.int (0 : Int32)), .val (.ref t_MINUS), .val (.int (0 : Int32)), .val (.long (F1005 q2 (0 : Int64))), .second] [(.long (F1005 q2 (0 : Int64)))])) _
        refine XS.lconst X81.here hx rfl (hb hby at_133) ?_
        show Steps p.tables e below (T81.setTop (mkF m 134 #[.val (.int p1), .val (.long q2), .second, .val (.ref b1), .val (.ref w_MINUS), .val (.int (0 : Int32)), .val (.ref t_MINUS), .val (.int (0 : Int32)), .val (.long (F1005 q2 (0 : Int64))), .second] [(.long (0 : Int64)), (.long (F1005 q2 (0 : Int64)))])) _
        refine XS.lcmp X81.here hx rfl (hb hby at_134) rfl ?_
        exact kt
      by_cases hc87 : (lcmpW (F1005 q2 (0 : Int64)) (0 : Int64)) = (0 : Int32)
      · obtain ⟨fs, hr, hrun, hended, hE⟩ := Jvm.Stand.leaveW (s := s) (vm₁ := T73.vm) X81 hS73 (by rw [e81]; exact hk73) (v := some (.int (1 : Int32))) (fun h => by rw [Bd.returns] at h; cases h)
        refine ⟨_, _, pre86 _ ?_, hrun, hended, _, _, rfl, ?_, hE.1, hE.2.1, hE.2.2.1, hE.2.2.2.mono (by decide) (by decide)⟩
        · show Steps p.tables e below (T81.setTop (mkF m 135 #[.val (.int p1), .val (.long q2), .second, .val (.ref b1), .val (.ref w_MINUS), .val (.int (0 : Int32)), .val (.ref t_MINUS), .val (.int (0 : Int32)), .val (.long (F1005 q2 (0 : Int64))), .second] [(.int (lcmpW (F1005 q2 (0 : Int64)) (0 : Int64)))])) _
          refine XS.ifNo X81.here hx rfl (hb hby at_135) rfl ((if0 _ _).trans (teq hc87).2) ?_
          show Steps p.tables e below (T81.setTop (mkF m 138 #[.val (.int p1), .val (.long q2), .second, .val (.ref b1), .val (.ref w_MINUS), .val (.int (0 : Int32)), .val (.ref t_MINUS), .val (.int (0 : Int32)), .val (.long (F1005 q2 (0 : Int64))), .second] [])) _
          refine XS.iconst X81.here hx rfl (hb hby at_138) ?_
          show Steps p.tables e below (T81.setTop (mkF m 139 #[.val (.int p1), .val (.long q2), .second, .val (.ref b1), .val (.ref w_MINUS), .val (.int (0 : Int32)), .val (.ref t_MINUS), .val (.int (0 : Int32)), .val (.long (F1005 q2 (0 : Int64))), .second] [(.int (1 : Int32))])) _
          refine XS.goto X81.here hx rfl (pc0 := 139) (pc' := 143) rfl (hb hby at_139) (by decide) (by decide) ?_
          show Steps p.tables e below (T81.setTop (mkF m 143 #[.val (.int p1), .val (.long q2), .second, .val (.ref b1), .val (.ref w_MINUS), .val (.int (0 : Int32)), .val (.ref t_MINUS), .val (.int (0 : Int32)), .val (.long (F1005 q2 (0 : Int64))), .second] [(.int (1 : Int32))])) _
          exact retN X81 hx (t := .boolean) Bd.returns (by simp) (hb hby at_143) hr
        · show Q0 Z p1 q2 w_PLUS t_PLUS v_PLUS k_v_PLUS w_MINUS t_MINUS v_MINUS k_v_MINUS w_TIMES t_TIMES v_TIMES k_v_TIMES w_DIVIDE t_DIVIDE v_DIVIDE k_v_DIVIDE w_REMAINDER t_REMAINDER v_REMAINDER k_v_REMAINDER w_COMPACT_STRINGS h0 n0 _ T81.heap _
          rw [e81]
          exact ⟨rfl, N81⟩
      · exact (leaf_0_6 p1 q2 w_COMPACT_STRINGS hk23 hc85 hc87).elim
  · rw [hk23] at pre22
    obtain ⟨cl88, Ar88, aq88, S88, M88, H88, G88⟩ := id V21
    have hin88 : ¬ ((2 : Int32) < 0 ∨ cl88.slots.size ≤ ((2 : Int32)).toNatClampNeg) := inb_of S88 ⟨by decide, by decide⟩
    have hat88 : cl88.slots[((2 : Int32)).toNatClampNeg]? = some (.ref w_TIMES) := Has.at H88 hin88 rfl
    have fq90 := (fq18.wr W21 g_b1)
    have z91 : n0 ≤ h21.size := (Nat.le_trans (Nat.le_trans (Nat.le_trans (Nat.le_trans (Nat.le_trans (Nat.le_trans Z0 E1.1) (Keep.of_wr W5).1) (Keep.of_wr W9).1) (Keep.of_wr W13).1) (Keep.of_wr W17).1) (Keep.of_wr W21).1)
    have fq92 := (Exa.wr W21 (Exa.wr W17 (Exa.wr W13 fq12)))
    obtain ⟨cq89, kq89, iq89a, iq89b, iq89c⟩ := isOf hZ e21 fq92
    obtain ⟨_, _, ⟨T89, L89, k89, n89⟩, -, X89, ⟨Lc89, hQ89, l89, y89, z89⟩, st89⟩ := X21.virtualBack hx (y := (⟨"com/example/preddb/preddb/Program$ArithmeticOperator", "divides", "()Z"⟩ : MethodName)) (z := (⟨"com/example/preddb/preddb/Program$ArithmeticOperator", "divides", "()Z"⟩ : MethodName)) hown (mvT hZ (hw _ (List.mem_of_getElem? (i := 15) rfl))) (mvT hZ (hw _ (List.mem_of_getElem? (i := 16) rfl))) (notFace_of_selects (args := #[]) (mvT hZ (hw _ (List.mem_of_getElem? (i := 18) rfl)))) (mvT hZ (hw _ (List.mem_of_getElem? (i := 18) rfl))) (mvT hZ (hw _ (List.mem_of_getElem? (i := 17) rfl))) (by decide) (backOf (W := 0) (rm2001 l Z a0 hw [] w_TIMES w_DIVIDE w_REMAINDER h21 n0 z91 S_DIVIDE fq90 ne_w_TIMES_w_DIVIDE S_REMAINDER ne_w_TIMES_w_REMAINDER) hZ (hw _ (List.mem_of_getElem? (i := 19) rfl)) (hw _ (List.mem_of_getElem? (i := 3) rfl)) (by decide) (by decide)) iq89a iq89c (g := (mkF m 47 #[.val (.int p1), .val (.long q2), .second, .val (.ref b1), .val (.ref w_TIMES), .unset, .unset, .unset, .unset, .unset] [(.ref w_TIMES)])) rfl (by rw [hml]; rfl) (Steps.refl _) (argsL := []) (rest := []) (lenOf pd_0_0 rfl) rfl (by show 2 * 0 + _ ≤ _; exact Nat.le_of_eq rfl) (hb hby at_47) (fun _ _ => ⟨rfl, e21, (by decide : 1 + 0 ≤ _), (by decide : 5 + 0 ≤ _)⟩)
    dsimp only [Pt.U, Pt.locs, Pt.cells, Pt.slots] at X89 l89 y89 z89 st89 hQ89
    subst l89 y89 z89
    obtain ⟨rfl, N89q, e89⟩ := hQ89
    rw [show (F2001 ) = (0 : Int32) from by first | decide | (unfold F2001; repeat' split) <;> first | rfl | simp_all] at st89
    have N89 := Fr.app N21 N89q
    have fq94 := (Fld.other W21 (Fld.other W17 (Fld.other W13 (Fld.other W9 (Fld.other W5 (Fld.ext E1 F_token_w_TIMES) (Or.inl ne_w_TIMES_b1)) (Or.inl ne_w_TIMES_b1)) (Or.inl ne_w_TIMES_b1)) (Or.inl ne_w_TIMES_b1)) (Or.inl ne_w_TIMES_b1))
    obtain ⟨cq93, kq93, iq93a, iq93b, iq93c⟩ := isOf hZ e89 fq92
    obtain ⟨_, _, ⟨T93, L93, k93, n93⟩, -, X93, ⟨Lc93, hQ93, l93, y93, z93⟩, st93⟩ := X89.virtualBack hx (y := (⟨"com/example/preddb/preddb/Program$ArithmeticOperator", "token", "()Ljava/lang/String;"⟩ : MethodName)) (z := (⟨"com/example/preddb/preddb/Program$ArithmeticOperator", "token", "()Ljava/lang/String;"⟩ : MethodName)) hown (mvT hZ (hw _ (List.mem_of_getElem? (i := 22) rfl))) (mvT hZ (hw _ (List.mem_of_getElem? (i := 23) rfl))) (notFace_of_selects (args := #[]) (mvT hZ (hw _ (List.mem_of_getElem? (i := 25) rfl)))) (mvT hZ (hw _ (List.mem_of_getElem? (i := 25) rfl))) (mvT hZ (hw _ (List.mem_of_getElem? (i := 24) rfl))) (by decide) (backOf (W := 0) (rm2 l Z a0 hw [] w_TIMES t_TIMES h21 n0 z91 fq94) hZ (hw _ (List.mem_of_getElem? (i := 26) rfl)) (hw _ (List.mem_of_getElem? (i := 3) rfl)) (by decide) (by decide)) iq93a iq93c (g := (mkF m 54 #[.val (.int p1), .val (.long q2), .second, .val (.ref b1), .val (.ref w_TIMES), .val (.int (0 : Int32)), .unset, .unset, .unset, .unset] [(.ref w_TIMES)])) rfl (by rw [hml]; rfl) (Steps.refl _) (argsL := []) (rest := []) (lenOf pd_0_1 rfl) rfl (by show 2 * 0 + _ ≤ _; exact Nat.le_of_eq rfl) (hb hby at_54) (fun _ _ => ⟨rfl, e89, (by decide : 1 + 0 ≤ _), (by decide : 5 + 0 ≤ _)⟩)
    dsimp only [Pt.U, Pt.locs, Pt.cells, Pt.slots] at X93 l93 y93 z93 st93 hQ93
    subst l93 y93 z93
    obtain ⟨rfl, N93q, e93⟩ := hQ93
    have N93 := Fr.app N89 N93q
    have pre95 : ∀ t, Steps p.tables e below (T93.setTop (mkF m 61 #[.val (.int p1), .val (.long q2), .second, .val (.ref b1), .val (.ref w_TIMES), .val (.int (0 : Int32)), .val (.ref t_TIMES), .unset, .unset, .unset] [(.ref t_TIMES)])) t → Steps p.tables e below (s₁.setTop (entryFrame m #[(.int p1), (.long q2)] maxLocals)) t := fun t kt => by
      refine pre22 t ?_
      show Steps p.tables e below (T21.setTop (mkF m 42 #[.val (.int p1), .val (.long q2), .second, .val (.ref b1), .unset, .unset, .unset, .unset, .unset, .unset] [(.int (2 : Int32)), (.ref b1)])) _
      refine X21.aaload hx (j := (2 : Int32)) (v := (.ref w_TIMES)) (by rw [e21]; exact Ar88.1) (State.isArrayOf_alike hZ.alike Ar88.2.1) rfl Ar88.2.2 hin88 hat88 (g := (mkF m 42 #[.val (.int p1), .val (.long q2), .second, .val (.ref b1), .unset, .unset, .unset, .unset, .unset, .unset] [(.int (2 : Int32)), (.ref b1)])) rfl rfl (hb hby at_42) _ ?_
      show Steps p.tables e below (T21.setTop (mkF m 43 #[.val (.int p1), .val (.long q2), .second, .val (.ref b1), .unset, .unset, .unset, .unset, .unset, .unset] [(.ref w_TIMES)])) _
      refine XS.astore X21.here hx rfl (hb hby at_43) rfl rfl (l' := #[.val (.int p1), .val (.long q2), .second, .val (.ref b1), .val (.ref w_TIMES), .unset, .unset, .unset, .unset, .unset]) rfl ?_
      show Steps p.tables e below (T21.setTop (mkF m 45 #[.val (.int p1), .val (.long q2), .second, .val (.ref b1), .val (.ref w_TIMES), .unset, .unset, .unset, .unset, .unset] [])) _
      refine XS.aload X21.here hx rfl (hb hby at_45) rfl rfl ?_
      show Steps p.tables e below (T21.setTop (mkF m 47 #[.val (.int p1), .val (.long q2), .second, .val (.ref b1), .val (.ref w_TIMES), .unset, .unset, .unset, .unset, .unset] [(.ref w_TIMES)])) _
      refine st89.trans ?_
      show Steps p.tables e below (T89.setTop (mkF m 50 #[.val (.int p1), .val (.long q2), .second, .val (.ref b1), .val (.ref w_TIMES), .unset, .unset, .unset, .unset, .unset] [(.int (0 : Int32))])) _
      refine XS.istore X89.here hx rfl (hb hby at_50) rfl (l' := #[.val (.int p1), .val (.long q2), .second, .val (.ref b1), .val (.ref w_TIMES), .val (.int (0 : Int32)), .unset, .unset, .unset, .unset]) rfl ?_
      show Steps p.tables e below (T89.setTop (mkF m 52 #[.val (.int p1), .val (.long q2), .second, .val (.ref b1), .val (.ref w_TIMES), .val (.int (0 : Int32)), .unset, .unset, .unset, .unset] [])) _
      refine XS.aload X89.here hx rfl (hb hby at_52) rfl rfl ?_
      show Steps p.tables e below (T89.setTop (mkF m 54 #[.val (.int p1), .val (.long q2), .second, .val (.ref b1), .val (.ref w_TIMES), .val (.int (0 : Int32)), .unset, .unset, .unset, .unset] [(.ref w_TIMES)])) _
      refine st93.trans ?_
      show Steps p.tables e below (T93.setTop (mkF m 57 #[.val (.int p1), .val (.long q2), .second, .val (.ref b1), .val (.ref w_TIMES), .val (.int (0 : Int32)), .unset, .unset, .unset, .unset] [(.ref t_TIMES)])) _
      refine XS.astore X93.here hx rfl (hb hby at_57) rfl rfl (l' := #[.val (.int p1), .val (.long q2), .second, .val (.ref b1), .val (.ref w_TIMES), .val (.int (0 : Int32)), .val (.ref t_TIMES), .unset, .unset, .unset]) rfl ?_
      show Steps p.tables e below (T93.setTop (mkF m 59 #[.val (.int p1), .val (.long q2), .second, .val (.ref b1), .val (.ref w_TIMES), .val (.int (0 : Int32)), .val (.ref t_TIMES), .unset, .unset, .unset] [])) _
      refine XS.aload X93.here hx rfl (hb hby at_59) rfl rfl ?_
      exact kt
    obtain ⟨b96, T96, h96, kz96, bv96, kk96, X96, e96, E96, hS96, hk96, hZ, hown, A96, C96, F96, V96, lt96, ltb96, I96, st96⟩ := ldcSV (s := s) (vm0 := s.vm) X93 hx hZ hown (hw _ (List.mem_of_getElem? (i := 29) rfl)) wS e93 hS0 (Nat.le_trans (Nat.le_of_eq (by rw [hn0, hh0])) z91) (by rw [hsZ, ← hn0]; exact N93) (fun b cl q => by rw [hsZ]; exact q) I0 (by decide) HC34 hcw (vs := [(.int (47 : Int32))]) (z := (1 : Int32)) ⟨by decide, by rfl⟩ (by decide) (by rfl) (g := (mkF m 61 #[.val (.int p1), .val (.long q2), .second, .val (.ref b1), .val (.ref w_TIMES), .val (.int (0 : Int32)), .val (.ref t_TIMES), .unset, .unset, .unset] [(.ref t_TIMES)])) rfl (hb hby at_61) (n := 4) (by decide) (by decide) (by decide) (by decide)
    have fq98 := (Fld.ext E96 (Fld.other W21 (Fld.other W17 (Fld.other W13 (Fld.other W9 (Fld.other W5 (Fld.ext E1 F_coder_t_TIMES) (Or.inl ne_t_TIMES_b1)) (Or.inl ne_t_TIMES_b1)) (Or.inl ne_t_TIMES_b1)) (Or.inl ne_t_TIMES_b1)) (Or.inl ne_t_TIMES_b1)))
    have fq99 := (Fld.ext E96 (Fld.other W21 (Fld.other W17 (Fld.other W13 (Fld.other W9 (Fld.other W5 (Fld.ext E1 F_value_t_TIMES) (Or.inl ne_t_TIMES_b1)) (Or.inl ne_t_TIMES_b1)) (Or.inl ne_t_TIMES_b1)) (Or.inl ne_t_TIMES_b1)) (Or.inl ne_t_TIMES_b1)))
    have fq100 := (Exa.ext E96 (Exa.wr W21 (Exa.wr W17 (Exa.wr W13 (Exa.wr W9 (Exa.wr W5 (Exa.ext E1 E_t_TIMES)))))))
    have fq101 := (((((((V_v_TIMES.ext E1).other W5 ne_v_TIMES_b1).other W9 ne_v_TIMES_b1).other W13 ne_v_TIMES_b1).other W17 ne_v_TIMES_b1).other W21 ne_v_TIMES_b1).ext E96)
    have fq102 := (fq90.ext E96)
    have z103 : n0 ≤ h96.size := (Nat.le_trans z91 E96.1)
    obtain ⟨cq97, kq97, iq97a, iq97b, iq97c⟩ := isOf hZ e96 fq100
    obtain ⟨_, _, ⟨T97, L97, k97, n97⟩, -, X97, ⟨Lc97, hQ97, l97, y97, z97⟩, st97⟩ := X96.virtualBack hx (y := (⟨"java/lang/String", "equals", "(Ljava/lang/Object;)Z"⟩ : MethodName)) (z := (⟨"java/lang/String", "equals", "(Ljava/lang/Object;)Z"⟩ : MethodName)) hown (mvT hZ (hw _ (List.mem_of_getElem? (i := 37) rfl))) (mvT hZ (hw _ (List.mem_of_getElem? (i := 38) rfl))) (notFace_of_selects (args := #[]) (mvT hZ (hw _ (List.mem_of_getElem? (i := 40) rfl)))) (mvT hZ (hw _ (List.mem_of_getElem? (i := 40) rfl))) (mvT hZ (hw _ (List.mem_of_getElem? (i := 39) rfl))) (by decide) (backOf (W := 0) (rm4003 l Z a0 hw [] t_TIMES b96 v_TIMES k_v_TIMES bv96 kk96 w_COMPACT_STRINGS h96 n0 z103 fq100 fq98 fq99 fq101 A96 C96 F96 V96 S_COMPACT_STRINGS fq102) hZ (hw _ (List.mem_of_getElem? (i := 41) rfl)) (hw _ (List.mem_of_getElem? (i := 30) rfl)) (by decide) (by decide)) iq97a iq97c (g := (mkF m 63 #[.val (.int p1), .val (.long q2), .second, .val (.ref b1), .val (.ref w_TIMES), .val (.int (0 : Int32)), .val (.ref t_TIMES), .unset, .unset, .unset] [(.ref b96), (.ref t_TIMES)])) rfl (by rw [hml]; rfl) (Steps.refl _) (argsL := [(.ref b96)]) (rest := []) (lenOf pd_0_2 rfl) rfl (by show 2 * 0 + _ ≤ _; exact Nat.le_of_eq rfl) (hb hby at_63) (fun _ _ => ⟨rfl, e96, (by decide : 3 + 0 ≤ _), (by decide : 13 + 0 ≤ _)⟩)
    dsimp only [Pt.U, Pt.locs, Pt.cells, Pt.slots] at X97 l97 y97 z97 st97 hQ97
    subst l97 y97 z97
    obtain ⟨rfl, N97q, e97⟩ := hQ97
    rw [show (F4003 w_COMPACT_STRINGS) = (0 : Int32) from by first | decide | (unfold F4003; repeat' split) <;> first | rfl | simp_all] at st97
    have N97 := Fr.app N93 N97q
    have pre104 : ∀ t, Steps p.tables e below (T97.setTop (mkF m 71 #[.val (.int p1), .val (.long q2), .second, .val (.ref b1), .val (.ref w_TIMES), .val (.int (0 : Int32)), .val (.ref t_TIMES), .unset, .unset, .unset] [(.ref t_TIMES)])) t → Steps p.tables e below (s₁.setTop (entryFrame m #[(.int p1), (.long q2)] maxLocals)) t := fun t kt => by
      refine pre95 t ?_
      show Steps p.tables e below (T93.setTop (mkF m 61 #[.val (.int p1), .val (.long q2), .second, .val (.ref b1), .val (.ref w_TIMES), .val (.int (0 : Int32)), .val (.ref t_TIMES), .unset, .unset, .unset] [(.ref t_TIMES)])) _
      refine st96 _ ?_
      show Steps p.tables e below (T96.setTop (mkF m 63 #[.val (.int p1), .val (.long q2), .second, .val (.ref b1), .val (.ref w_TIMES), .val (.int (0 : Int32)), .val (.ref t_TIMES), .unset, .unset, .unset] [(.ref b96), (.ref t_TIMES)])) _
      refine st97.trans ?_
      show Steps p.tables e below (T97.setTop (mkF m 66 #[.val (.int p1), .val (.long q2), .second, .val (.ref b1), .val (.ref w_TIMES), .val (.int (0 : Int32)), .val (.ref t_TIMES), .unset, .unset, .unset] [(.int (0 : Int32))])) _
      refine XS.ifNo X97.here hx rfl (hb hby at_66) rfl ((if0 _ _).trans (teq (rfl : (0 : Int32) = (0 : Int32))).2) ?_
      show Steps p.tables e below (T97.setTop (mkF m 69 #[.val (.int p1), .val (.long q2), .second, .val (.ref b1), .val (.ref w_TIMES), .val (.int (0 : Int32)), .val (.ref t_TIMES), .unset, .unset, .unset] [])) _
      refine XS.aload X97.here hx rfl (hb hby at_69) rfl rfl ?_
      exact kt
    obtain ⟨b105, T105, h105, kz105, bv105, kk105, X105, e105, E105, hS105, hk105, hZ, hown, A105, C105, F105, V105, lt105, ltb105, I105, st105⟩ := ldcSV (s := s) (vm0 := T96.vm) X97 hx hZ hown (hw _ (List.mem_of_getElem? (i := 51) rfl)) wS e97 hS96 hk96 (by rw [hsZ, ← hn0]; exact N97) (fun b cl q => by rw [hsZ]; exact q) I96 (by decide) HC42 hcw (vs := [(.int (37 : Int32))]) (z := (1 : Int32)) ⟨by decide, by rfl⟩ (by decide) (by rfl) (g := (mkF m 71 #[.val (.int p1), .val (.long q2), .second, .val (.ref b1), .val (.ref w_TIMES), .val (.int (0 : Int32)), .val (.ref t_TIMES), .unset, .unset, .unset] [(.ref t_TIMES)])) rfl (hb hby at_71) (n := 4) (by decide) (by decide) (by decide) (by decide)
    have fq107 := (Fld.ext E105 fq98)
    have fq108 := (Fld.ext E105 fq99)
    have fq109 := (Exa.ext E105 fq100)
    have fq110 := (fq101.ext E105)
    have fq111 := (fq102.ext E105)
    have z112 : n0 ≤ h105.size := (Nat.le_trans z103 E105.1)
    obtain ⟨cq106, kq106, iq106a, iq106b, iq106c⟩ := isOf hZ e105 fq109
    obtain ⟨_, _, ⟨T106, L106, k106, n106⟩, -, X106, ⟨Lc106, hQ106, l106, y106, z106⟩, st106⟩ := X105.virtualBack hx (y := (⟨"java/lang/String", "equals", "(Ljava/lang/Object;)Z"⟩ : MethodName)) (z := (⟨"java/lang/String", "equals", "(Ljava/lang/Object;)Z"⟩ : MethodName)) hown (mvT hZ (hw _ (List.mem_of_getElem? (i := 37) rfl))) (mvT hZ (hw _ (List.mem_of_getElem? (i := 38) rfl))) (notFace_of_selects (args := #[]) (mvT hZ (hw _ (List.mem_of_getElem? (i := 40) rfl)))) (mvT hZ (hw _ (List.mem_of_getElem? (i := 40) rfl))) (mvT hZ (hw _ (List.mem_of_getElem? (i := 39) rfl))) (by decide) (backOf (W := 0) (rm5003 l Z a0 hw [] t_TIMES b105 v_TIMES k_v_TIMES bv105 kk105 w_COMPACT_STRINGS h105 n0 z112 fq109 fq107 fq108 fq110 A105 C105 F105 V105 S_COMPACT_STRINGS fq111) hZ (hw _ (List.mem_of_getElem? (i := 41) rfl)) (hw _ (List.mem_of_getElem? (i := 30) rfl)) (by decide) (by decide)) iq106a iq106c (g := (mkF m 73 #[.val (.int p1), .val (.long q2), .second, .val (.ref b1), .val (.ref w_TIMES), .val (.int (0 : Int32)), .val (.ref t_TIMES), .unset, .unset, .unset] [(.ref b105), (.ref t_TIMES)])) rfl (by rw [hml]; rfl) (Steps.refl _) (argsL := [(.ref b105)]) (rest := []) (lenOf pd_0_2 rfl) rfl (by show 2 * 0 + _ ≤ _; exact Nat.le_of_eq rfl) (hb hby at_73) (fun _ _ => ⟨rfl, e105, (by decide : 5 + 0 ≤ _), (by decide : 21 + 0 ≤ _)⟩)
    dsimp only [Pt.U, Pt.locs, Pt.cells, Pt.slots] at X106 l106 y106 z106 st106 hQ106
    subst l106 y106 z106
    obtain ⟨rfl, N106q, e106⟩ := hQ106
    rw [show (F5003 w_COMPACT_STRINGS) = (0 : Int32) from by first | decide | (unfold F5003; repeat' split) <;> first | rfl | simp_all] at st106
    have N106 := Fr.app N97 N106q
    have fq114 := (Fld.ext E105 (Fld.ext E96 (Fld.other W21 (Fld.other W17 (Fld.other W13 (Fld.other W9 (Fld.other W5 (Fld.ext E1 F_ordinal_w_TIMES) (Or.inl ne_w_TIMES_b1)) (Or.inl ne_w_TIMES_b1)) (Or.inl ne_w_TIMES_b1)) (Or.inl ne_w_TIMES_b1)) (Or.inl ne_w_TIMES_b1))))
    have fq115 := (Exa.ext E105 (Exa.ext E96 fq92))
    obtain ⟨cq113, kq113, iq113a, iq113b, iq113c⟩ := isOf hZ e106 fq115
    obtain ⟨_, _, ⟨T113, L113, k113, n113⟩, -, X113, ⟨Lc113, hQ113, l113, y113, z113⟩, st113⟩ := X106.virtualBack hx (y := (⟨"com/example/preddb/preddb/Program$ArithmeticOperator", "apply", "(JJ)J"⟩ : MethodName)) (z := (⟨"com/example/preddb/preddb/Program$ArithmeticOperator", "apply", "(JJ)J"⟩ : MethodName)) hown (mvT hZ (hw _ (List.mem_of_getElem? (i := 52) rfl))) (mvT hZ (hw _ (List.mem_of_getElem? (i := 53) rfl))) (notFace_of_selects (args := #[]) (mvT hZ (hw _ (List.mem_of_getElem? (i := 55) rfl)))) (mvT hZ (hw _ (List.mem_of_getElem? (i := 55) rfl))) (mvT hZ (hw _ (List.mem_of_getElem? (i := 54) rfl))) (by decide) (backOf (W := 0) (rm2005 l Z a0 hw [] w_TIMES q2 (0 : Int64) h105 n0 z112 fq115 fq114) hZ (hw _ (List.mem_of_getElem? (i := 56) rfl)) (hw _ (List.mem_of_getElem? (i := 3) rfl)) (by decide) (by decide)) iq113a iq113c (g := (mkF m 119 #[.val (.int p1), .val (.long q2), .second, .val (.ref b1), .val (.ref w_TIMES), .val (.int (0 : Int32)), .val (.ref t_TIMES), .val (.int (0 : Int32)), .unset, .unset] [(.long (0 : Int64)), (.long q2), (.ref w_TIMES)])) rfl (by rw [hml]; rfl) (Steps.refl _) (argsL := [(.long q2), (.long (0 : Int64))]) (rest := []) (lenOf pd_0_4 rfl) rfl (by show 2 * 0 + _ ≤ _; exact Nat.le_of_eq rfl) (hb hby at_119) (fun _ _ => ⟨rfl, e106, (by decide : 5 + 0 ≤ _), (by decide : 21 + 0 ≤ _)⟩)
    dsimp only [Pt.U, Pt.locs, Pt.cells, Pt.slots] at X113 l113 y113 z113 st113 hQ113
    subst l113 y113 z113
    obtain ⟨rfl, N113q, e113⟩ := hQ113
    have N113 := Fr.app N106 N113q
    have pre116 : ∀ t, Steps p.tables e below (T113.setTop (mkF m 128 #[.val (.int p1), .val (.long q2), .second, .val (.ref b1), .val (.ref w_TIMES), .val (.int (0 : Int32)), .val (.ref t_TIMES), .val (.int (0 : Int32)), .val (.long (F2005 q2 (0 : Int64))), .second] [(.int (lcmpW (F2005 q2 (0 : Int64)) q2))])) t → Steps p.tables e below (s₁.setTop (entryFrame m #[(.int p1), (.long q2)] maxLocals)) t := fun t kt => by
      refine pre104 t ?_
      show Steps p.tables e below (T97.setTop (mkF m 71 #[.val (.int p1), .val (.long q2), .second, .val (.ref b1), .val (.ref w_TIMES), .val (.int (0 : Int32)), .val (.ref t_TIMES), .unset, .unset, .unset] [(.ref t_TIMES)])) _
      refine st105 _ ?_
      show Steps p.tables e below (T105.setTop (mkF m 73 #[.val (.int p1), .val (.long q2), .second, .val (.ref b1), .val (.ref w_TIMES), .val (.int (0 : Int32)), .val (.ref t_TIMES), .unset, .unset, .unset] [(.ref b105), (.ref t_TIMES)])) _
      refine st106.trans ?_
      show Steps p.tables e below (T106.setTop (mkF m 76 #[.val (.int p1), .val (.long q2), .second, .val (.ref b1), .val (.ref w_TIMES), .val (.int (0 : Int32)), .val (.ref t_TIMES), .unset, .unset, .unset] [(.int (0 : Int32))])) _
      refine XS.ifYes X106.here hx rfl (pc0 := 76) (pc' := 83) rfl (hb hby at_76) rfl ((if0 _ _).trans (teq (rfl : (0 : Int32) = (0 : Int32))).1) (by decide) (by decide) ?_
      show Steps p.tables e below (T106.setTop (mkF m 83 #[.val (.int p1), .val (.long q2), .second, .val (.ref b1), .val (.ref w_TIMES), .val (.int (0 : Int32)), .val (.ref t_TIMES), .unset, .unset, .unset] [])) _
      refine XS.iconst X106.here hx rfl (hb hby at_83) ?_
      show Steps p.tables e below (T106.setTop (mkF m 84 #[.val (.int p1), .val (.long q2), .second, .val (.ref b1), .val (.ref w_TIMES), .val (.int (0 : Int32)), .val (.ref t_TIMES), .unset, .unset, .unset] [(.int (0 : Int32))])) _
      refine XS.istore X106.here hx rfl (hb hby at_84) rfl (l' := #[.val (.int p1), .val (.long q2), .second, .val (.ref b1), .val (.ref w_TIMES), .val (.int (0 : Int32)), .val (.ref t_TIMES), .val (.int (0 : Int32)), .unset, .unset]) rfl ?_
      show Steps p.tables e below (T106.setTop (mkF m 86 #[.val (.int p1), .val (.long q2), .second, .val (.ref b1), .val (.ref w_TIMES), .val (.int (0 : Int32)), .val (.ref t_TIMES), .val (.int (0 : Int32)), .unset, .unset] [])) _
      refine XS.iload X106.here hx rfl (hb hby at_86) rfl ?_
      show Steps p.tables e below (T106.setTop (mkF m 88 #[.val (.int p1), .val (.long q2), .second, .val (.ref b1), .val (.ref w_TIMES), .val (.int (0 : Int32)), .val (.ref t_TIMES), .val (.int (0 : Int32)), .unset, .unset] [(.int (0 : Int32))])) _
      refine XS.iload X106.here hx rfl (hb hby at_88) rfl ?_
      show Steps p.tables e below (T106.setTop (mkF m 90 #[.val (.int p1), .val (.long q2), .second, .val (.ref b1), .val (.ref w_TIMES), .val (.int (0 : Int32)), .val (.ref t_TIMES), .val (.int (0 : Int32)), .unset, .unset] [(.int (0 : Int32)), (.int (0 : Int32))])) _
      refine XS.icmpYes X106.here hx rfl (pc0 := 90) (pc' := 95) rfl (hb hby at_90) rfl (teq (rfl : (0 : Int32) = (0 : Int32))).1 (by decide) (by decide) ?_
      show Steps p.tables e below (T106.setTop (mkF m 95 #[.val (.int p1), .val (.long q2), .second, .val (.ref b1), .val (.ref w_TIMES), .val (.int (0 : Int32)), .val (.ref t_TIMES), .val (.int (0 : Int32)), .unset, .unset] [])) _
      refine XS.iload X106.here hx rfl (hb hby at_95) rfl ?_
      show Steps p.tables e below (T106.setTop (mkF m 97 #[.val (.int p1), .val (.long q2), .second, .val (.ref b1), .val (.ref w_TIMES), .val (.int (0 : Int32)), .val (.ref t_TIMES), .val (.int (0 : Int32)), .unset, .unset] [(.int (0 : Int32))])) _
      refine XS.ifYes X106.here hx rfl (pc0 := 97) (pc' := 115) rfl (hb hby at_97) rfl ((if0 _ _).trans (teq (rfl : (0 : Int32) = (0 : Int32))).1) (by decide) (by decide) ?_
      show Steps p.tables e below (T106.setTop (mkF m 115 #[.val (.int p1), .val (.long q2), .second, .val (.ref b1), .val (.ref w_TIMES), .val (.int (0 : Int32)), .val (.ref t_TIMES), .val (.int (0 : Int32)), .unset, .unset] [])) _
      refine XS.aload X106.here hx rfl (hb hby at_115) rfl rfl ?_
      show Steps p.tables e below (T106.setTop (mkF m 117 #[.val (.int p1), .val (.long q2), .second, .val (.ref b1), .val (.ref w_TIMES), .val (.int (0 : Int32)), .val (.ref t_TIMES), .val (.int (0 : Int32)), .unset, .unset] [(.ref w_TIMES)])) _
      refine XS.lloadN X106.here hx rfl (hb hby at_117) rfl ?_
      show Steps p.tables e below (T106.setTop (mkF m 118 #[.val (.int p1), .val (.long q2), .second, .val (.ref b1), .val (.ref w_TIMES), .val (.int (0 : Int32)), .val (.ref t_TIMES), .val (.int (0 : Int32)), .unset, .unset] [(.long q2), (.ref w_TIMES)])) _
      refine XS.lconst X106.here hx rfl (hb hby at_118) ?_
      show Steps p.tables e below (T106.setTop (mkF m 119 #[.val (.int p1), .val (.long q2), .second, .val (.ref b1), .val (.ref w_TIMES), .val (.int (0 : Int32)), .val (.ref t_TIMES), .val (.int (0 : Int32)), .unset, .unset] [(.long (0 : Int64)), (.long q2), (.ref w_TIMES)])) _
      refine st113.trans ?_
      show Steps p.tables e below (T113.setTop (mkF m 122 #[.val (.int p1), .val (.long q2), .second, .val (.ref b1), .val (.ref w_TIMES), .val (.int (0 : Int32)), .val (.ref t_TIMES), .val (.int (0 : Int32)), .unset, .unset] [(.long (F2005 q2 (0 : Int64)))])) _
      refine XS.lstore X113.here hx rfl (hb hby at_122) rfl (l' := #[.val (.int p1), .val (.long q2), .second, .val (.ref b1), .val (.ref w_TIMES), .val (.int (0 : Int32)), .val (.ref t_TIMES), .val (.int (0 : Int32)), .val (.long (F2005 q2 (0 : Int64))), .second]) rfl ?_
      show Steps p.tables e below (T113.setTop (mkF m 124 #[.val (.int p1), .val (.long q2), .second, .val (.ref b1), .val (.ref w_TIMES), .val (.int (0 : Int32)), .val (.ref t_TIMES), .val (.int (0 : Int32)), .val (.long (F2005 q2 (0 : Int64))), .second] [])) _
      refine XS.lload X113.here hx rfl (hb hby at_124) rfl ?_
      show Steps p.tables e below (T113.setTop (mkF m 126 #[.val (.int p1), .val (.long q2), .second, .val (.ref b1), .val (.ref w_TIMES), .val (.int (0 : Int32)), .val (.ref t_TIMES), .val (.int (0 : Int32)), .val (.long (F2005 q2 (0 : Int64))), .second] [(.long (F2005 q2 (0 : Int64)))])) _
      refine XS.lloadN X113.here hx rfl (hb hby at_126) rfl ?_
      show Steps p.tables e below (T113.setTop (mkF m 127 #[.val (.int p1), .val (.long q2), .second, .val (.ref b1), .val (.ref w_TIMES), .val (.int (0 : Int32)), .val (.ref t_TIMES), .val (.int (0 : Int32)), .val (.long (F2005 q2 (0 : Int64))), .second] [(.long q2), (.long (F2005 q2 (0 : Int64)))])) _
      refine XS.lcmp X113.here hx rfl (hb hby at_127) rfl ?_
      exact kt
    by_cases hc117 : (lcmpW (F2005 q2 (0 : Int64)) q2) = (0 : Int32)
    · obtain ⟨fs, hr, hrun, hended, hE⟩ := Jvm.Stand.leaveW (s := s) (vm₁ := T105.vm) X113 hS105 (by rw [e113]; exact hk105) (v := some (.int (1 : Int32))) (fun h => by rw [Bd.returns] at h; cases h)
      refine ⟨_, _, pre116 _ ?_, hrun, hended, _, _, rfl, ?_, hE.1, hE.2.1, hE.2.2.1, hE.2.2.2.mono (by decide) (by decide)⟩
      · show Steps p.tables e below (T113.setTop (mkF m 128 #[.val (.int p1), .val (.long q2), .second, .val (.ref b1), .val (.ref w_TIMES), .val (.int (0 : Int32)), .val (.ref t_TIMES), .val (.int (0 : Int32)), .val (.long (F2005 q2 (0 : Int64))), .second] [(.int (lcmpW (F2005 q2 (0 : Int64)) q2))])) _
        refine XS.ifYes X113.here hx rfl (pc0 := 128) (pc' := 138) rfl (hb hby at_128) rfl ((if0 _ _).trans (teq hc117).1) (by decide) (by decide) ?_
        show Steps p.tables e below (T113.setTop (mkF m 138 #[.val (.int p1), .val (.long q2), .second, .val (.ref b1), .val (.ref w_TIMES), .val (.int (0 : Int32)), .val (.ref t_TIMES), .val (.int (0 : Int32)), .val (.long (F2005 q2 (0 : Int64))), .second] [])) _
        refine XS.iconst X113.here hx rfl (hb hby at_138) ?_
        show Steps p.tables e below (T113.setTop (mkF m 139 #[.val (.int p1), .val (.long q2), .second, .val (.ref b1), .val (.ref w_TIMES), .val (.int (0 : Int32)), .val (.ref t_TIMES), .val (.int (0 : Int32)), .val (.long (F2005 q2 (0 : Int64))), .second] [(.int (1 : Int32))])) _
        refine XS.goto X113.here hx rfl (pc0 := 139) (pc' := 143) rfl (hb hby at_139) (by decide) (by decide) ?_
        show Steps p.tables e below (T113.setTop (mkF m 143 #[.val (.int p1), .val (.long q2), .second, .val (.ref b1), .val (.ref w_TIMES), .val (.int (0 : Int32)), .val (.ref t_TIMES), .val (.int (0 : Int32)), .val (.long (F2005 q2 (0 : Int64))), .second] [(.int (1 : Int32))])) _
        exact retN X113 hx (t := .boolean) Bd.returns (by simp) (hb hby at_143) hr
      · show Q0 Z p1 q2 w_PLUS t_PLUS v_PLUS k_v_PLUS w_MINUS t_MINUS v_MINUS k_v_MINUS w_TIMES t_TIMES v_TIMES k_v_TIMES w_DIVIDE t_DIVIDE v_DIVIDE k_v_DIVIDE w_REMAINDER t_REMAINDER v_REMAINDER k_v_REMAINDER w_COMPACT_STRINGS h0 n0 _ T113.heap _
        rw [e113]
        exact ⟨rfl, N113⟩
    · have pre118 : ∀ t, Steps p.tables e below (T113.setTop (mkF m 135 #[.val (.int p1), .val (.long q2), .second, .val (.ref b1), .val (.ref w_TIMES), .val (.int (0 : Int32)), .val (.ref t_TIMES), .val (.int (0 : Int32)), .val (.long (F2005 q2 (0 : Int64))), .second] [(.int (lcmpW (F2005 q2 (0 : Int64)) (0 : Int64)))])) t → Steps p.tables e below (s₁.setTop (entryFrame m #[(.int p1), (.long q2)] maxLocals)) t := fun t kt => by
        refine pre116 t ?_
        show Steps p.tables e below (T113.setTop (mkF m 128 #[.val (.int p1), .val (.long q2), .second, .val (.ref b1), .val (.ref w_TIMES), .val (.int (0 : Int32)), .val (.ref t_TIMES), .val (.int (0 : Int32)), .val (.long (F2005 q2 (0 : Int64))), .second] [(.int (lcmpW (F2005 q2 (0 : Int64)) q2))])) _
        refine XS.ifNo X113.here hx rfl (hb hby at_128) rfl ((if0 _ _).trans (feq hc117).1) ?_
        show Steps p.tables e below (T113.setTop (mkF m 131 #[.val (.int p1), .val (.long q2), .second, .val (.ref b1), .val (.ref w_TIMES), .val (.int (0 : Int32)), .val (.ref t_TIMES), .val (.int (0 : Int32)), .val (.long (F2005 q2 (0 : Int64))), .second] [])) _
        refine XS.lload X113.here hx rfl (hb hby at_131) rfl ?_
        show Steps p.tables e below (T113.setTop (mkF m 133 #[.val (.int p1), .val (.long q2), .second, .val (.ref b1), .val (.ref w_TIMES), .val (.int (0 : Int32)), .val (.ref t_TIMES), .val (.int (0 : Int32)), .val (.long (F2005 q2 (0 : Int64))), .second] [(.long (F2005 q2 (0 : Int64)))])) _
        refine XS.lconst X113.here hx rfl (hb hby at_133) ?_
        show Steps p.tables e below (T113.setTop (mkF m 134 #[.val (.int p1), .val (.long q2), .second, .val (.ref b1), .val (.ref w_TIMES), .val (.int (0 : Int32)), .val (.ref t_TIMES), .val (.int (0 : Int32)), .val (.long (F2005 q2 (0 : Int64))), .second] [(.long (0 : Int64)), (.long (F2005 q2 (0 : Int64)))])) _
        refine XS.lcmp X113.here hx rfl (hb hby at_134) rfl ?_
        exact kt
      by_cases hc119 : (lcmpW (F2005 q2 (0 : Int64)) (0 : Int64)) = (0 : Int32)
      · obtain ⟨fs, hr, hrun, hended, hE⟩ := Jvm.Stand.leaveW (s := s) (vm₁ := T105.vm) X113 hS105 (by rw [e113]; exact hk105) (v := some (.int (1 : Int32))) (fun h => by rw [Bd.returns] at h; cases h)
        refine ⟨_, _, pre118 _ ?_, hrun, hended, _, _, rfl, ?_, hE.1, hE.2.1, hE.2.2.1, hE.2.2.2.mono (by decide) (by decide)⟩
        · show Steps p.tables e below (T113.setTop (mkF m 135 #[.val (.int p1), .val (.long q2), .second, .val (.ref b1), .val (.ref w_TIMES), .val (.int (0 : Int32)), .val (.ref t_TIMES), .val (.int (0 : Int32)), .val (.long (F2005 q2 (0 : Int64))), .second] [(.int (lcmpW (F2005 q2 (0 : Int64)) (0 : Int64)))])) _
          refine XS.ifNo X113.here hx rfl (hb hby at_135) rfl ((if0 _ _).trans (teq hc119).2) ?_
          show Steps p.tables e below (T113.setTop (mkF m 138 #[.val (.int p1), .val (.long q2), .second, .val (.ref b1), .val (.ref w_TIMES), .val (.int (0 : Int32)), .val (.ref t_TIMES), .val (.int (0 : Int32)), .val (.long (F2005 q2 (0 : Int64))), .second] [])) _
          refine XS.iconst X113.here hx rfl (hb hby at_138) ?_
          show Steps p.tables e below (T113.setTop (mkF m 139 #[.val (.int p1), .val (.long q2), .second, .val (.ref b1), .val (.ref w_TIMES), .val (.int (0 : Int32)), .val (.ref t_TIMES), .val (.int (0 : Int32)), .val (.long (F2005 q2 (0 : Int64))), .second] [(.int (1 : Int32))])) _
          refine XS.goto X113.here hx rfl (pc0 := 139) (pc' := 143) rfl (hb hby at_139) (by decide) (by decide) ?_
          show Steps p.tables e below (T113.setTop (mkF m 143 #[.val (.int p1), .val (.long q2), .second, .val (.ref b1), .val (.ref w_TIMES), .val (.int (0 : Int32)), .val (.ref t_TIMES), .val (.int (0 : Int32)), .val (.long (F2005 q2 (0 : Int64))), .second] [(.int (1 : Int32))])) _
          exact retN X113 hx (t := .boolean) Bd.returns (by simp) (hb hby at_143) hr
        · show Q0 Z p1 q2 w_PLUS t_PLUS v_PLUS k_v_PLUS w_MINUS t_MINUS v_MINUS k_v_MINUS w_TIMES t_TIMES v_TIMES k_v_TIMES w_DIVIDE t_DIVIDE v_DIVIDE k_v_DIVIDE w_REMAINDER t_REMAINDER v_REMAINDER k_v_REMAINDER w_COMPACT_STRINGS h0 n0 _ T113.heap _
          rw [e113]
          exact ⟨rfl, N113⟩
      · exact (leaf_0_9 p1 q2 w_COMPACT_STRINGS hk23 hc117 hc119).elim
  · rw [hk23] at pre22
    obtain ⟨cl120, Ar120, aq120, S120, M120, H120, G120⟩ := id V21
    have hin120 : ¬ ((3 : Int32) < 0 ∨ cl120.slots.size ≤ ((3 : Int32)).toNatClampNeg) := inb_of S120 ⟨by decide, by decide⟩
    have hat120 : cl120.slots[((3 : Int32)).toNatClampNeg]? = some (.ref w_DIVIDE) := Has.at H120 hin120 rfl
    have fq122 := (fq18.wr W21 g_b1)
    have z123 : n0 ≤ h21.size := (Nat.le_trans (Nat.le_trans (Nat.le_trans (Nat.le_trans (Nat.le_trans (Nat.le_trans Z0 E1.1) (Keep.of_wr W5).1) (Keep.of_wr W9).1) (Keep.of_wr W13).1) (Keep.of_wr W17).1) (Keep.of_wr W21).1)
    have fq124 := (Exa.wr W21 (Exa.wr W17 fq16))
    obtain ⟨cq121, kq121, iq121a, iq121b, iq121c⟩ := isOf hZ e21 fq124
    obtain ⟨_, _, ⟨T121, L121, k121, n121⟩, -, X121, ⟨Lc121, hQ121, l121, y121, z121⟩, st121⟩ := X21.virtualBack hx (y := (⟨"com/example/preddb/preddb/Program$ArithmeticOperator", "divides", "()Z"⟩ : MethodName)) (z := (⟨"com/example/preddb/preddb/Program$ArithmeticOperator", "divides", "()Z"⟩ : MethodName)) hown (mvT hZ (hw _ (List.mem_of_getElem? (i := 15) rfl))) (mvT hZ (hw _ (List.mem_of_getElem? (i := 16) rfl))) (notFace_of_selects (args := #[]) (mvT hZ (hw _ (List.mem_of_getElem? (i := 18) rfl)))) (mvT hZ (hw _ (List.mem_of_getElem? (i := 18) rfl))) (mvT hZ (hw _ (List.mem_of_getElem? (i := 17) rfl))) (by decide) (backOf (W := 0) (rm1 l Z a0 hw [] w_DIVIDE h21 n0 z123 S_DIVIDE fq122) hZ (hw _ (List.mem_of_getElem? (i := 19) rfl)) (hw _ (List.mem_of_getElem? (i := 3) rfl)) (by decide) (by decide)) iq121a iq121c (g := (mkF m 47 #[.val (.int p1), .val (.long q2), .second, .val (.ref b1), .val (.ref w_DIVIDE), .unset, .unset, .unset, .unset, .unset] [(.ref w_DIVIDE)])) rfl (by rw [hml]; rfl) (Steps.refl _) (argsL := []) (rest := []) (lenOf pd_0_0 rfl) rfl (by show 2 * 0 + _ ≤ _; exact Nat.le_of_eq rfl) (hb hby at_47) (fun _ _ => ⟨rfl, e21, (by decide : 1 + 0 ≤ _), (by decide : 5 + 0 ≤ _)⟩)
    dsimp only [Pt.U, Pt.locs, Pt.cells, Pt.slots] at X121 l121 y121 z121 st121 hQ121
    subst l121 y121 z121
    obtain ⟨rfl, N121q, e121⟩ := hQ121
    rw [show (F1 ) = (1 : Int32) from by first | decide | (unfold F1; repeat' split) <;> first | rfl | simp_all] at st121
    have N121 := Fr.app N21 N121q
    have fq126 := (Fld.other W21 (Fld.other W17 (Fld.other W13 (Fld.other W9 (Fld.other W5 (Fld.ext E1 F_token_w_DIVIDE) (Or.inl ne_w_DIVIDE_b1)) (Or.inl ne_w_DIVIDE_b1)) (Or.inl ne_w_DIVIDE_b1)) (Or.inl ne_w_DIVIDE_b1)) (Or.inl ne_w_DIVIDE_b1))
    obtain ⟨cq125, kq125, iq125a, iq125b, iq125c⟩ := isOf hZ e121 fq124
    obtain ⟨_, _, ⟨T125, L125, k125, n125⟩, -, X125, ⟨Lc125, hQ125, l125, y125, z125⟩, st125⟩ := X121.virtualBack hx (y := (⟨"com/example/preddb/preddb/Program$ArithmeticOperator", "token", "()Ljava/lang/String;"⟩ : MethodName)) (z := (⟨"com/example/preddb/preddb/Program$ArithmeticOperator", "token", "()Ljava/lang/String;"⟩ : MethodName)) hown (mvT hZ (hw _ (List.mem_of_getElem? (i := 22) rfl))) (mvT hZ (hw _ (List.mem_of_getElem? (i := 23) rfl))) (notFace_of_selects (args := #[]) (mvT hZ (hw _ (List.mem_of_getElem? (i := 25) rfl)))) (mvT hZ (hw _ (List.mem_of_getElem? (i := 25) rfl))) (mvT hZ (hw _ (List.mem_of_getElem? (i := 24) rfl))) (by decide) (backOf (W := 0) (rm2 l Z a0 hw [] w_DIVIDE t_DIVIDE h21 n0 z123 fq126) hZ (hw _ (List.mem_of_getElem? (i := 26) rfl)) (hw _ (List.mem_of_getElem? (i := 3) rfl)) (by decide) (by decide)) iq125a iq125c (g := (mkF m 54 #[.val (.int p1), .val (.long q2), .second, .val (.ref b1), .val (.ref w_DIVIDE), .val (.int (1 : Int32)), .unset, .unset, .unset, .unset] [(.ref w_DIVIDE)])) rfl (by rw [hml]; rfl) (Steps.refl _) (argsL := []) (rest := []) (lenOf pd_0_1 rfl) rfl (by show 2 * 0 + _ ≤ _; exact Nat.le_of_eq rfl) (hb hby at_54) (fun _ _ => ⟨rfl, e121, (by decide : 1 + 0 ≤ _), (by decide : 5 + 0 ≤ _)⟩)
    dsimp only [Pt.U, Pt.locs, Pt.cells, Pt.slots] at X125 l125 y125 z125 st125 hQ125
    subst l125 y125 z125
    obtain ⟨rfl, N125q, e125⟩ := hQ125
    have N125 := Fr.app N121 N125q
    have pre127 : ∀ t, Steps p.tables e below (T125.setTop (mkF m 61 #[.val (.int p1), .val (.long q2), .second, .val (.ref b1), .val (.ref w_DIVIDE), .val (.int (1 : Int32)), .val (.ref t_DIVIDE), .unset, .unset, .unset] [(.ref t_DIVIDE)])) t → Steps p.tables e below (s₁.setTop (entryFrame m #[(.int p1), (.long q2)] maxLocals)) t := fun t kt => by
      refine pre22 t ?_
      show Steps p.tables e below (T21.setTop (mkF m 42 #[.val (.int p1), .val (.long q2), .second, .val (.ref b1), .unset, .unset, .unset, .unset, .unset, .unset] [(.int (3 : Int32)), (.ref b1)])) _
      refine X21.aaload hx (j := (3 : Int32)) (v := (.ref w_DIVIDE)) (by rw [e21]; exact Ar120.1) (State.isArrayOf_alike hZ.alike Ar120.2.1) rfl Ar120.2.2 hin120 hat120 (g := (mkF m 42 #[.val (.int p1), .val (.long q2), .second, .val (.ref b1), .unset, .unset, .unset, .unset, .unset, .unset] [(.int (3 : Int32)), (.ref b1)])) rfl rfl (hb hby at_42) _ ?_
      show Steps p.tables e below (T21.setTop (mkF m 43 #[.val (.int p1), .val (.long q2), .second, .val (.ref b1), .unset, .unset, .unset, .unset, .unset, .unset] [(.ref w_DIVIDE)])) _
      refine XS.astore X21.here hx rfl (hb hby at_43) rfl rfl (l' := #[.val (.int p1), .val (.long q2), .second, .val (.ref b1), .val (.ref w_DIVIDE), .unset, .unset, .unset, .unset, .unset]) rfl ?_
      show Steps p.tables e below (T21.setTop (mkF m 45 #[.val (.int p1), .val (.long q2), .second, .val (.ref b1), .val (.ref w_DIVIDE), .unset, .unset, .unset, .unset, .unset] [])) _
      refine XS.aload X21.here hx rfl (hb hby at_45) rfl rfl ?_
      show Steps p.tables e below (T21.setTop (mkF m 47 #[.val (.int p1), .val (.long q2), .second, .val (.ref b1), .val (.ref w_DIVIDE), .unset, .unset, .unset, .unset, .unset] [(.ref w_DIVIDE)])) _
      refine st121.trans ?_
      show Steps p.tables e below (T121.setTop (mkF m 50 #[.val (.int p1), .val (.long q2), .second, .val (.ref b1), .val (.ref w_DIVIDE), .unset, .unset, .unset, .unset, .unset] [(.int (1 : Int32))])) _
      refine XS.istore X121.here hx rfl (hb hby at_50) rfl (l' := #[.val (.int p1), .val (.long q2), .second, .val (.ref b1), .val (.ref w_DIVIDE), .val (.int (1 : Int32)), .unset, .unset, .unset, .unset]) rfl ?_
      show Steps p.tables e below (T121.setTop (mkF m 52 #[.val (.int p1), .val (.long q2), .second, .val (.ref b1), .val (.ref w_DIVIDE), .val (.int (1 : Int32)), .unset, .unset, .unset, .unset] [])) _
      refine XS.aload X121.here hx rfl (hb hby at_52) rfl rfl ?_
      show Steps p.tables e below (T121.setTop (mkF m 54 #[.val (.int p1), .val (.long q2), .second, .val (.ref b1), .val (.ref w_DIVIDE), .val (.int (1 : Int32)), .unset, .unset, .unset, .unset] [(.ref w_DIVIDE)])) _
      refine st125.trans ?_
      show Steps p.tables e below (T125.setTop (mkF m 57 #[.val (.int p1), .val (.long q2), .second, .val (.ref b1), .val (.ref w_DIVIDE), .val (.int (1 : Int32)), .unset, .unset, .unset, .unset] [(.ref t_DIVIDE)])) _
      refine XS.astore X125.here hx rfl (hb hby at_57) rfl rfl (l' := #[.val (.int p1), .val (.long q2), .second, .val (.ref b1), .val (.ref w_DIVIDE), .val (.int (1 : Int32)), .val (.ref t_DIVIDE), .unset, .unset, .unset]) rfl ?_
      show Steps p.tables e below (T125.setTop (mkF m 59 #[.val (.int p1), .val (.long q2), .second, .val (.ref b1), .val (.ref w_DIVIDE), .val (.int (1 : Int32)), .val (.ref t_DIVIDE), .unset, .unset, .unset] [])) _
      refine XS.aload X125.here hx rfl (hb hby at_59) rfl rfl ?_
      exact kt
    obtain ⟨b128, T128, h128, kz128, bv128, kk128, X128, e128, E128, hS128, hk128, hZ, hown, A128, C128, F128, V128, lt128, ltb128, I128, st128⟩ := ldcSV (s := s) (vm0 := s.vm) X125 hx hZ hown (hw _ (List.mem_of_getElem? (i := 29) rfl)) wS e125 hS0 (Nat.le_trans (Nat.le_of_eq (by rw [hn0, hh0])) z123) (by rw [hsZ, ← hn0]; exact N125) (fun b cl q => by rw [hsZ]; exact q) I0 (by decide) HC34 hcw (vs := [(.int (47 : Int32))]) (z := (1 : Int32)) ⟨by decide, by rfl⟩ (by decide) (by rfl) (g := (mkF m 61 #[.val (.int p1), .val (.long q2), .second, .val (.ref b1), .val (.ref w_DIVIDE), .val (.int (1 : Int32)), .val (.ref t_DIVIDE), .unset, .unset, .unset] [(.ref t_DIVIDE)])) rfl (hb hby at_61) (n := 4) (by decide) (by decide) (by decide) (by decide)
    have fq130 := (Fld.ext E128 (Fld.other W21 (Fld.other W17 (Fld.other W13 (Fld.other W9 (Fld.other W5 (Fld.ext E1 F_coder_t_DIVIDE) (Or.inl ne_t_DIVIDE_b1)) (Or.inl ne_t_DIVIDE_b1)) (Or.inl ne_t_DIVIDE_b1)) (Or.inl ne_t_DIVIDE_b1)) (Or.inl ne_t_DIVIDE_b1)))
    have fq131 := (Fld.ext E128 (Fld.other W21 (Fld.other W17 (Fld.other W13 (Fld.other W9 (Fld.other W5 (Fld.ext E1 F_value_t_DIVIDE) (Or.inl ne_t_DIVIDE_b1)) (Or.inl ne_t_DIVIDE_b1)) (Or.inl ne_t_DIVIDE_b1)) (Or.inl ne_t_DIVIDE_b1)) (Or.inl ne_t_DIVIDE_b1)))
    have fq132 := (Exa.ext E128 (Exa.wr W21 (Exa.wr W17 (Exa.wr W13 (Exa.wr W9 (Exa.wr W5 (Exa.ext E1 E_t_DIVIDE)))))))
    have fq133 := (((((((V_v_DIVIDE.ext E1).other W5 ne_v_DIVIDE_b1).other W9 ne_v_DIVIDE_b1).other W13 ne_v_DIVIDE_b1).other W17 ne_v_DIVIDE_b1).other W21 ne_v_DIVIDE_b1).ext E128)
    have fq134 := (fq122.ext E128)
    have z135 : n0 ≤ h128.size := (Nat.le_trans z123 E128.1)
    obtain ⟨cq129, kq129, iq129a, iq129b, iq129c⟩ := isOf hZ e128 fq132
    obtain ⟨_, _, ⟨T129, L129, k129, n129⟩, -, X129, ⟨Lc129, hQ129, l129, y129, z129⟩, st129⟩ := X128.virtualBack hx (y := (⟨"java/lang/String", "equals", "(Ljava/lang/Object;)Z"⟩ : MethodName)) (z := (⟨"java/lang/String", "equals", "(Ljava/lang/Object;)Z"⟩ : MethodName)) hown (mvT hZ (hw _ (List.mem_of_getElem? (i := 37) rfl))) (mvT hZ (hw _ (List.mem_of_getElem? (i := 38) rfl))) (notFace_of_selects (args := #[]) (mvT hZ (hw _ (List.mem_of_getElem? (i := 40) rfl)))) (mvT hZ (hw _ (List.mem_of_getElem? (i := 40) rfl))) (mvT hZ (hw _ (List.mem_of_getElem? (i := 39) rfl))) (by decide) (backOf (W := 0) (rm6003 l Z a0 hw [] t_DIVIDE b128 v_DIVIDE k_v_DIVIDE bv128 kk128 w_COMPACT_STRINGS h128 n0 z135 fq132 fq130 fq131 fq133 A128 C128 F128 V128 S_COMPACT_STRINGS fq134) hZ (hw _ (List.mem_of_getElem? (i := 41) rfl)) (hw _ (List.mem_of_getElem? (i := 30) rfl)) (by decide) (by decide)) iq129a iq129c (g := (mkF m 63 #[.val (.int p1), .val (.long q2), .second, .val (.ref b1), .val (.ref w_DIVIDE), .val (.int (1 : Int32)), .val (.ref t_DIVIDE), .unset, .unset, .unset] [(.ref b128), (.ref t_DIVIDE)])) rfl (by rw [hml]; rfl) (Steps.refl _) (argsL := [(.ref b128)]) (rest := []) (lenOf pd_0_2 rfl) rfl (by show 2 * 0 + _ ≤ _; exact Nat.le_of_eq rfl) (hb hby at_63) (fun _ _ => ⟨rfl, e128, (by decide : 3 + 0 ≤ _), (by decide : 13 + 0 ≤ _)⟩)
    dsimp only [Pt.U, Pt.locs, Pt.cells, Pt.slots] at X129 l129 y129 z129 st129 hQ129
    subst l129 y129 z129
    obtain ⟨rfl, N129q, e129⟩ := hQ129
    rw [show (F6003 t_DIVIDE b128 w_COMPACT_STRINGS) = (1 : Int32) from by first | decide | (unfold F6003; repeat' split) <;> first | rfl | simp_all] at st129
    have N129 := Fr.app N125 N129q
    have fq137 := (Fld.ext E128 (Fld.other W21 (Fld.other W17 (Fld.other W13 (Fld.other W9 (Fld.other W5 (Fld.ext E1 F_level_w_DIVIDE) (Or.inl ne_w_DIVIDE_b1)) (Or.inl ne_w_DIVIDE_b1)) (Or.inl ne_w_DIVIDE_b1)) (Or.inl ne_w_DIVIDE_b1)) (Or.inl ne_w_DIVIDE_b1)))
    have fq138 := (Exa.ext E128 fq124)
    obtain ⟨cq136, kq136, iq136a, iq136b, iq136c⟩ := isOf hZ e129 fq138
    obtain ⟨_, _, ⟨T136, L136, k136, n136⟩, -, X136, ⟨Lc136, hQ136, l136, y136, z136⟩, st136⟩ := X129.virtualBack hx (y := (⟨"com/example/preddb/preddb/Program$ArithmeticOperator", "level", "()I"⟩ : MethodName)) (z := (⟨"com/example/preddb/preddb/Program$ArithmeticOperator", "level", "()I"⟩ : MethodName)) hown (mvT hZ (hw _ (List.mem_of_getElem? (i := 66) rfl))) (mvT hZ (hw _ (List.mem_of_getElem? (i := 67) rfl))) (notFace_of_selects (args := #[]) (mvT hZ (hw _ (List.mem_of_getElem? (i := 69) rfl)))) (mvT hZ (hw _ (List.mem_of_getElem? (i := 69) rfl))) (mvT hZ (hw _ (List.mem_of_getElem? (i := 68) rfl))) (by decide) (backOf (W := 0) (rm7 l Z a0 hw [] w_DIVIDE (2 : Int32) h128 n0 z135 fq137) hZ (hw _ (List.mem_of_getElem? (i := 70) rfl)) (hw _ (List.mem_of_getElem? (i := 3) rfl)) (by decide) (by decide)) iq136a iq136c (g := (mkF m 102 #[.val (.int p1), .val (.long q2), .second, .val (.ref b1), .val (.ref w_DIVIDE), .val (.int (1 : Int32)), .val (.ref t_DIVIDE), .val (.int (1 : Int32)), .unset, .unset] [(.ref w_DIVIDE)])) rfl (by rw [hml]; rfl) (Steps.refl _) (argsL := []) (rest := []) (lenOf pd_0_5 rfl) rfl (by show 2 * 0 + _ ≤ _; exact Nat.le_of_eq rfl) (hb hby at_102) (fun _ _ => ⟨rfl, e129, (by decide : 3 + 0 ≤ _), (by decide : 13 + 0 ≤ _)⟩)
    dsimp only [Pt.U, Pt.locs, Pt.cells, Pt.slots] at X136 l136 y136 z136 st136 hQ136
    subst l136 y136 z136
    obtain ⟨rfl, N136q, e136⟩ := hQ136
    rw [show (F7 (2 : Int32)) = (2 : Int32) from by first | decide | (unfold F7; repeat' split) <;> first | rfl | simp_all] at st136
    have N136 := Fr.app N129 N136q
    obtain ⟨fs, hr, hrun, hended, hE⟩ := Jvm.Stand.leaveW (s := s) (vm₁ := T128.vm) X136 hS128 (by rw [e136]; exact hk128) (v := some (.int (1 : Int32))) (fun h => by rw [Bd.returns] at h; cases h)
    refine ⟨_, _, pre127 _ ?_, hrun, hended, _, _, rfl, ?_, hE.1, hE.2.1, hE.2.2.1, hE.2.2.2.mono (by decide) (by decide)⟩
    · show Steps p.tables e below (T125.setTop (mkF m 61 #[.val (.int p1), .val (.long q2), .second, .val (.ref b1), .val (.ref w_DIVIDE), .val (.int (1 : Int32)), .val (.ref t_DIVIDE), .unset, .unset, .unset] [(.ref t_DIVIDE)])) _
      refine st128 _ ?_
      show Steps p.tables e below (T128.setTop (mkF m 63 #[.val (.int p1), .val (.long q2), .second, .val (.ref b1), .val (.ref w_DIVIDE), .val (.int (1 : Int32)), .val (.ref t_DIVIDE), .unset, .unset, .unset] [(.ref b128), (.ref t_DIVIDE)])) _
      refine st129.trans ?_
      show Steps p.tables e below (T129.setTop (mkF m 66 #[.val (.int p1), .val (.long q2), .second, .val (.ref b1), .val (.ref w_DIVIDE), .val (.int (1 : Int32)), .val (.ref t_DIVIDE), .unset, .unset, .unset] [(.int (1 : Int32))])) _
      refine XS.ifYes X129.here hx rfl (pc0 := 66) (pc' := 79) rfl (hb hby at_66) rfl ((if0 _ _).trans (feq (by decide : ¬ ((1 : Int32) = (0 : Int32)))).2) (by decide) (by decide) ?_
      show Steps p.tables e below (T129.setTop (mkF m 79 #[.val (.int p1), .val (.long q2), .second, .val (.ref b1), .val (.ref w_DIVIDE), .val (.int (1 : Int32)), .val (.ref t_DIVIDE), .unset, .unset, .unset] [])) _
      refine XS.iconst X129.here hx rfl (hb hby at_79) ?_
      show Steps p.tables e below (T129.setTop (mkF m 80 #[.val (.int p1), .val (.long q2), .second, .val (.ref b1), .val (.ref w_DIVIDE), .val (.int (1 : Int32)), .val (.ref t_DIVIDE), .unset, .unset, .unset] [(.int (1 : Int32))])) _
      refine XS.goto X129.here hx rfl (pc0 := 80) (pc' := 84) rfl (hb hby at_80) (by decide) (by decide) ?_
      show Steps p.tables e below (T129.setTop (mkF m 84 #[.val (.int p1), .val (.long q2), .second, .val (.ref b1), .val (.ref w_DIVIDE), .val (.int (1 : Int32)), .val (.ref t_DIVIDE), .unset, .unset, .unset] [(.int (1 : Int32))])) _
      refine XS.istore X129.here hx rfl (hb hby at_84) rfl (l' := #[.val (.int p1), .val (.long q2), .second, .val (.ref b1), .val (.ref w_DIVIDE), .val (.int (1 : Int32)), .val (.ref t_DIVIDE), .val (.int (1 : Int32)), .unset, .unset]) rfl ?_
      show Steps p.tables e below (T129.setTop (mkF m 86 #[.val (.int p1), .val (.long q2), .second, .val (.ref b1), .val (.ref w_DIVIDE), .val (.int (1 : Int32)), .val (.ref t_DIVIDE), .val (.int (1 : Int32)), .unset, .unset] [])) _
      refine XS.iload X129.here hx rfl (hb hby at_86) rfl ?_
      show Steps p.tables e below (T129.setTop (mkF m 88 #[.val (.int p1), .val (.long q2), .second, .val (.ref b1), .val (.ref w_DIVIDE), .val (.int (1 : Int32)), .val (.ref t_DIVIDE), .val (.int (1 : Int32)), .unset, .unset] [(.int (1 : Int32))])) _
      refine XS.iload X129.here hx rfl (hb hby at_88) rfl ?_
      show Steps p.tables e below (T129.setTop (mkF m 90 #[.val (.int p1), .val (.long q2), .second, .val (.ref b1), .val (.ref w_DIVIDE), .val (.int (1 : Int32)), .val (.ref t_DIVIDE), .val (.int (1 : Int32)), .unset, .unset] [(.int (1 : Int32)), (.int (1 : Int32))])) _
      refine XS.icmpYes X129.here hx rfl (pc0 := 90) (pc' := 95) rfl (hb hby at_90) rfl (teq (rfl : (1 : Int32) = (1 : Int32))).1 (by decide) (by decide) ?_
      show Steps p.tables e below (T129.setTop (mkF m 95 #[.val (.int p1), .val (.long q2), .second, .val (.ref b1), .val (.ref w_DIVIDE), .val (.int (1 : Int32)), .val (.ref t_DIVIDE), .val (.int (1 : Int32)), .unset, .unset] [])) _
      refine XS.iload X129.here hx rfl (hb hby at_95) rfl ?_
      show Steps p.tables e below (T129.setTop (mkF m 97 #[.val (.int p1), .val (.long q2), .second, .val (.ref b1), .val (.ref w_DIVIDE), .val (.int (1 : Int32)), .val (.ref t_DIVIDE), .val (.int (1 : Int32)), .unset, .unset] [(.int (1 : Int32))])) _
      refine XS.ifNo X129.here hx rfl (hb hby at_97) rfl ((if0 _ _).trans (feq (by decide : ¬ ((1 : Int32) = (0 : Int32)))).1) ?_
      show Steps p.tables e below (T129.setTop (mkF m 100 #[.val (.int p1), .val (.long q2), .second, .val (.ref b1), .val (.ref w_DIVIDE), .val (.int (1 : Int32)), .val (.ref t_DIVIDE), .val (.int (1 : Int32)), .unset, .unset] [])) _
      refine XS.aload X129.here hx rfl (hb hby at_100) rfl rfl ?_
      show Steps p.tables e below (T129.setTop (mkF m 102 #[.val (.int p1), .val (.long q2), .second, .val (.ref b1), .val (.ref w_DIVIDE), .val (.int (1 : Int32)), .val (.ref t_DIVIDE), .val (.int (1 : Int32)), .unset, .unset] [(.ref w_DIVIDE)])) _
      refine st136.trans ?_
      show Steps p.tables e below (T136.setTop (mkF m 105 #[.val (.int p1), .val (.long q2), .second, .val (.ref b1), .val (.ref w_DIVIDE), .val (.int (1 : Int32)), .val (.ref t_DIVIDE), .val (.int (1 : Int32)), .unset, .unset] [(.int (2 : Int32))])) _
      refine XS.iconst X136.here hx rfl (hb hby at_105) ?_
      show Steps p.tables e below (T136.setTop (mkF m 106 #[.val (.int p1), .val (.long q2), .second, .val (.ref b1), .val (.ref w_DIVIDE), .val (.int (1 : Int32)), .val (.ref t_DIVIDE), .val (.int (1 : Int32)), .unset, .unset] [(.int (2 : Int32)), (.int (2 : Int32))])) _
      refine XS.icmpNo X136.here hx rfl (hb hby at_106) rfl (teq (rfl : (2 : Int32) = (2 : Int32))).2 ?_
      show Steps p.tables e below (T136.setTop (mkF m 109 #[.val (.int p1), .val (.long q2), .second, .val (.ref b1), .val (.ref w_DIVIDE), .val (.int (1 : Int32)), .val (.ref t_DIVIDE), .val (.int (1 : Int32)), .unset, .unset] [])) _
      refine XS.iconst X136.here hx rfl (hb hby at_109) ?_
      show Steps p.tables e below (T136.setTop (mkF m 110 #[.val (.int p1), .val (.long q2), .second, .val (.ref b1), .val (.ref w_DIVIDE), .val (.int (1 : Int32)), .val (.ref t_DIVIDE), .val (.int (1 : Int32)), .unset, .unset] [(.int (1 : Int32))])) _
      refine XS.goto X136.here hx rfl (pc0 := 110) (pc' := 114) rfl (hb hby at_110) (by decide) (by decide) ?_
      show Steps p.tables e below (T136.setTop (mkF m 114 #[.val (.int p1), .val (.long q2), .second, .val (.ref b1), .val (.ref w_DIVIDE), .val (.int (1 : Int32)), .val (.ref t_DIVIDE), .val (.int (1 : Int32)), .unset, .unset] [(.int (1 : Int32))])) _
      exact retN X136 hx (t := .boolean) Bd.returns (by simp) (hb hby at_114) hr
    · show Q0 Z p1 q2 w_PLUS t_PLUS v_PLUS k_v_PLUS w_MINUS t_MINUS v_MINUS k_v_MINUS w_TIMES t_TIMES v_TIMES k_v_TIMES w_DIVIDE t_DIVIDE v_DIVIDE k_v_DIVIDE w_REMAINDER t_REMAINDER v_REMAINDER k_v_REMAINDER w_COMPACT_STRINGS h0 n0 _ T136.heap _
      rw [e136]
      exact ⟨rfl, N136⟩
  · rw [hk23] at pre22
    obtain ⟨cl139, Ar139, aq139, S139, M139, H139, G139⟩ := id V21
    have hin139 : ¬ ((4 : Int32) < 0 ∨ cl139.slots.size ≤ ((4 : Int32)).toNatClampNeg) := inb_of S139 ⟨by decide, by decide⟩
    have hat139 : cl139.slots[((4 : Int32)).toNatClampNeg]? = some (.ref w_REMAINDER) := Has.at H139 hin139 rfl
    have fq141 := (fq18.wr W21 g_b1)
    have z142 : n0 ≤ h21.size := (Nat.le_trans (Nat.le_trans (Nat.le_trans (Nat.le_trans (Nat.le_trans (Nat.le_trans Z0 E1.1) (Keep.of_wr W5).1) (Keep.of_wr W9).1) (Keep.of_wr W13).1) (Keep.of_wr W17).1) (Keep.of_wr W21).1)
    have fq143 := (Exa.wr W21 fq20)
    obtain ⟨cq140, kq140, iq140a, iq140b, iq140c⟩ := isOf hZ e21 fq143
    obtain ⟨_, _, ⟨T140, L140, k140, n140⟩, -, X140, ⟨Lc140, hQ140, l140, y140, z140⟩, st140⟩ := X21.virtualBack hx (y := (⟨"com/example/preddb/preddb/Program$ArithmeticOperator", "divides", "()Z"⟩ : MethodName)) (z := (⟨"com/example/preddb/preddb/Program$ArithmeticOperator", "divides", "()Z"⟩ : MethodName)) hown (mvT hZ (hw _ (List.mem_of_getElem? (i := 15) rfl))) (mvT hZ (hw _ (List.mem_of_getElem? (i := 16) rfl))) (notFace_of_selects (args := #[]) (mvT hZ (hw _ (List.mem_of_getElem? (i := 18) rfl)))) (mvT hZ (hw _ (List.mem_of_getElem? (i := 18) rfl))) (mvT hZ (hw _ (List.mem_of_getElem? (i := 17) rfl))) (by decide) (backOf (W := 0) (rm1001 l Z a0 hw [] w_REMAINDER w_DIVIDE h21 n0 z142 S_DIVIDE fq141 ne_w_REMAINDER_w_DIVIDE S_REMAINDER) hZ (hw _ (List.mem_of_getElem? (i := 19) rfl)) (hw _ (List.mem_of_getElem? (i := 3) rfl)) (by decide) (by decide)) iq140a iq140c (g := (mkF m 47 #[.val (.int p1), .val (.long q2), .second, .val (.ref b1), .val (.ref w_REMAINDER), .unset, .unset, .unset, .unset, .unset] [(.ref w_REMAINDER)])) rfl (by rw [hml]; rfl) (Steps.refl _) (argsL := []) (rest := []) (lenOf pd_0_0 rfl) rfl (by show 2 * 0 + _ ≤ _; exact Nat.le_of_eq rfl) (hb hby at_47) (fun _ _ => ⟨rfl, e21, (by decide : 1 + 0 ≤ _), (by decide : 5 + 0 ≤ _)⟩)
    dsimp only [Pt.U, Pt.locs, Pt.cells, Pt.slots] at X140 l140 y140 z140 st140 hQ140
    subst l140 y140 z140
    obtain ⟨rfl, N140q, e140⟩ := hQ140
    rw [show (F1001 ) = (1 : Int32) from by first | decide | (unfold F1001; repeat' split) <;> first | rfl | simp_all] at st140
    have N140 := Fr.app N21 N140q
    have fq145 := (Fld.other W21 (Fld.other W17 (Fld.other W13 (Fld.other W9 (Fld.other W5 (Fld.ext E1 F_token_w_REMAINDER) (Or.inl ne_w_REMAINDER_b1)) (Or.inl ne_w_REMAINDER_b1)) (Or.inl ne_w_REMAINDER_b1)) (Or.inl ne_w_REMAINDER_b1)) (Or.inl ne_w_REMAINDER_b1))
    obtain ⟨cq144, kq144, iq144a, iq144b, iq144c⟩ := isOf hZ e140 fq143
    obtain ⟨_, _, ⟨T144, L144, k144, n144⟩, -, X144, ⟨Lc144, hQ144, l144, y144, z144⟩, st144⟩ := X140.virtualBack hx (y := (⟨"com/example/preddb/preddb/Program$ArithmeticOperator", "token", "()Ljava/lang/String;"⟩ : MethodName)) (z := (⟨"com/example/preddb/preddb/Program$ArithmeticOperator", "token", "()Ljava/lang/String;"⟩ : MethodName)) hown (mvT hZ (hw _ (List.mem_of_getElem? (i := 22) rfl))) (mvT hZ (hw _ (List.mem_of_getElem? (i := 23) rfl))) (notFace_of_selects (args := #[]) (mvT hZ (hw _ (List.mem_of_getElem? (i := 25) rfl)))) (mvT hZ (hw _ (List.mem_of_getElem? (i := 25) rfl))) (mvT hZ (hw _ (List.mem_of_getElem? (i := 24) rfl))) (by decide) (backOf (W := 0) (rm2 l Z a0 hw [] w_REMAINDER t_REMAINDER h21 n0 z142 fq145) hZ (hw _ (List.mem_of_getElem? (i := 26) rfl)) (hw _ (List.mem_of_getElem? (i := 3) rfl)) (by decide) (by decide)) iq144a iq144c (g := (mkF m 54 #[.val (.int p1), .val (.long q2), .second, .val (.ref b1), .val (.ref w_REMAINDER), .val (.int (1 : Int32)), .unset, .unset, .unset, .unset] [(.ref w_REMAINDER)])) rfl (by rw [hml]; rfl) (Steps.refl _) (argsL := []) (rest := []) (lenOf pd_0_1 rfl) rfl (by show 2 * 0 + _ ≤ _; exact Nat.le_of_eq rfl) (hb hby at_54) (fun _ _ => ⟨rfl, e140, (by decide : 1 + 0 ≤ _), (by decide : 5 + 0 ≤ _)⟩)
    dsimp only [Pt.U, Pt.locs, Pt.cells, Pt.slots] at X144 l144 y144 z144 st144 hQ144
    subst l144 y144 z144
    obtain ⟨rfl, N144q, e144⟩ := hQ144
    have N144 := Fr.app N140 N144q
    have pre146 : ∀ t, Steps p.tables e below (T144.setTop (mkF m 61 #[.val (.int p1), .val (.long q2), .second, .val (.ref b1), .val (.ref w_REMAINDER), .val (.int (1 : Int32)), .val (.ref t_REMAINDER), .unset, .unset, .unset] [(.ref t_REMAINDER)])) t → Steps p.tables e below (s₁.setTop (entryFrame m #[(.int p1), (.long q2)] maxLocals)) t := fun t kt => by
      refine pre22 t ?_
      show Steps p.tables e below (T21.setTop (mkF m 42 #[.val (.int p1), .val (.long q2), .second, .val (.ref b1), .unset, .unset, .unset, .unset, .unset, .unset] [(.int (4 : Int32)), (.ref b1)])) _
      refine X21.aaload hx (j := (4 : Int32)) (v := (.ref w_REMAINDER)) (by rw [e21]; exact Ar139.1) (State.isArrayOf_alike hZ.alike Ar139.2.1) rfl Ar139.2.2 hin139 hat139 (g := (mkF m 42 #[.val (.int p1), .val (.long q2), .second, .val (.ref b1), .unset, .unset, .unset, .unset, .unset, .unset] [(.int (4 : Int32)), (.ref b1)])) rfl rfl (hb hby at_42) _ ?_
      show Steps p.tables e below (T21.setTop (mkF m 43 #[.val (.int p1), .val (.long q2), .second, .val (.ref b1), .unset, .unset, .unset, .unset, .unset, .unset] [(.ref w_REMAINDER)])) _
      refine XS.astore X21.here hx rfl (hb hby at_43) rfl rfl (l' := #[.val (.int p1), .val (.long q2), .second, .val (.ref b1), .val (.ref w_REMAINDER), .unset, .unset, .unset, .unset, .unset]) rfl ?_
      show Steps p.tables e below (T21.setTop (mkF m 45 #[.val (.int p1), .val (.long q2), .second, .val (.ref b1), .val (.ref w_REMAINDER), .unset, .unset, .unset, .unset, .unset] [])) _
      refine XS.aload X21.here hx rfl (hb hby at_45) rfl rfl ?_
      show Steps p.tables e below (T21.setTop (mkF m 47 #[.val (.int p1), .val (.long q2), .second, .val (.ref b1), .val (.ref w_REMAINDER), .unset, .unset, .unset, .unset, .unset] [(.ref w_REMAINDER)])) _
      refine st140.trans ?_
      show Steps p.tables e below (T140.setTop (mkF m 50 #[.val (.int p1), .val (.long q2), .second, .val (.ref b1), .val (.ref w_REMAINDER), .unset, .unset, .unset, .unset, .unset] [(.int (1 : Int32))])) _
      refine XS.istore X140.here hx rfl (hb hby at_50) rfl (l' := #[.val (.int p1), .val (.long q2), .second, .val (.ref b1), .val (.ref w_REMAINDER), .val (.int (1 : Int32)), .unset, .unset, .unset, .unset]) rfl ?_
      show Steps p.tables e below (T140.setTop (mkF m 52 #[.val (.int p1), .val (.long q2), .second, .val (.ref b1), .val (.ref w_REMAINDER), .val (.int (1 : Int32)), .unset, .unset, .unset, .unset] [])) _
      refine XS.aload X140.here hx rfl (hb hby at_52) rfl rfl ?_
      show Steps p.tables e below (T140.setTop (mkF m 54 #[.val (.int p1), .val (.long q2), .second, .val (.ref b1), .val (.ref w_REMAINDER), .val (.int (1 : Int32)), .unset, .unset, .unset, .unset] [(.ref w_REMAINDER)])) _
      refine st144.trans ?_
      show Steps p.tables e below (T144.setTop (mkF m 57 #[.val (.int p1), .val (.long q2), .second, .val (.ref b1), .val (.ref w_REMAINDER), .val (.int (1 : Int32)), .unset, .unset, .unset, .unset] [(.ref t_REMAINDER)])) _
      refine XS.astore X144.here hx rfl (hb hby at_57) rfl rfl (l' := #[.val (.int p1), .val (.long q2), .second, .val (.ref b1), .val (.ref w_REMAINDER), .val (.int (1 : Int32)), .val (.ref t_REMAINDER), .unset, .unset, .unset]) rfl ?_
      show Steps p.tables e below (T144.setTop (mkF m 59 #[.val (.int p1), .val (.long q2), .second, .val (.ref b1), .val (.ref w_REMAINDER), .val (.int (1 : Int32)), .val (.ref t_REMAINDER), .unset, .unset, .unset] [])) _
      refine XS.aload X144.here hx rfl (hb hby at_59) rfl rfl ?_
      exact kt
    obtain ⟨b147, T147, h147, kz147, bv147, kk147, X147, e147, E147, hS147, hk147, hZ, hown, A147, C147, F147, V147, lt147, ltb147, I147, st147⟩ := ldcSV (s := s) (vm0 := s.vm) X144 hx hZ hown (hw _ (List.mem_of_getElem? (i := 29) rfl)) wS e144 hS0 (Nat.le_trans (Nat.le_of_eq (by rw [hn0, hh0])) z142) (by rw [hsZ, ← hn0]; exact N144) (fun b cl q => by rw [hsZ]; exact q) I0 (by decide) HC34 hcw (vs := [(.int (47 : Int32))]) (z := (1 : Int32)) ⟨by decide, by rfl⟩ (by decide) (by rfl) (g := (mkF m 61 #[.val (.int p1), .val (.long q2), .second, .val (.ref b1), .val (.ref w_REMAINDER), .val (.int (1 : Int32)), .val (.ref t_REMAINDER), .unset, .unset, .unset] [(.ref t_REMAINDER)])) rfl (hb hby at_61) (n := 4) (by decide) (by decide) (by decide) (by decide)
    have fq149 := (Fld.ext E147 (Fld.other W21 (Fld.other W17 (Fld.other W13 (Fld.other W9 (Fld.other W5 (Fld.ext E1 F_coder_t_REMAINDER) (Or.inl ne_t_REMAINDER_b1)) (Or.inl ne_t_REMAINDER_b1)) (Or.inl ne_t_REMAINDER_b1)) (Or.inl ne_t_REMAINDER_b1)) (Or.inl ne_t_REMAINDER_b1)))
    have fq150 := (Fld.ext E147 (Fld.other W21 (Fld.other W17 (Fld.other W13 (Fld.other W9 (Fld.other W5 (Fld.ext E1 F_value_t_REMAINDER) (Or.inl ne_t_REMAINDER_b1)) (Or.inl ne_t_REMAINDER_b1)) (Or.inl ne_t_REMAINDER_b1)) (Or.inl ne_t_REMAINDER_b1)) (Or.inl ne_t_REMAINDER_b1)))
    have fq151 := (Exa.ext E147 (Exa.wr W21 (Exa.wr W17 (Exa.wr W13 (Exa.wr W9 (Exa.wr W5 (Exa.ext E1 E_t_REMAINDER)))))))
    have fq152 := (((((((V_v_REMAINDER.ext E1).other W5 ne_v_REMAINDER_b1).other W9 ne_v_REMAINDER_b1).other W13 ne_v_REMAINDER_b1).other W17 ne_v_REMAINDER_b1).other W21 ne_v_REMAINDER_b1).ext E147)
    have fq153 := (fq141.ext E147)
    have z154 : n0 ≤ h147.size := (Nat.le_trans z142 E147.1)
    obtain ⟨cq148, kq148, iq148a, iq148b, iq148c⟩ := isOf hZ e147 fq151
    obtain ⟨_, _, ⟨T148, L148, k148, n148⟩, -, X148, ⟨Lc148, hQ148, l148, y148, z148⟩, st148⟩ := X147.virtualBack hx (y := (⟨"java/lang/String", "equals", "(Ljava/lang/Object;)Z"⟩ : MethodName)) (z := (⟨"java/lang/String", "equals", "(Ljava/lang/Object;)Z"⟩ : MethodName)) hown (mvT hZ (hw _ (List.mem_of_getElem? (i := 37) rfl))) (mvT hZ (hw _ (List.mem_of_getElem? (i := 38) rfl))) (notFace_of_selects (args := #[]) (mvT hZ (hw _ (List.mem_of_getElem? (i := 40) rfl)))) (mvT hZ (hw _ (List.mem_of_getElem? (i := 40) rfl))) (mvT hZ (hw _ (List.mem_of_getElem? (i := 39) rfl))) (by decide) (backOf (W := 0) (rm7003 l Z a0 hw [] t_REMAINDER b147 v_REMAINDER k_v_REMAINDER bv147 kk147 w_COMPACT_STRINGS h147 n0 z154 fq151 fq149 fq150 fq152 A147 C147 F147 V147 S_COMPACT_STRINGS fq153) hZ (hw _ (List.mem_of_getElem? (i := 41) rfl)) (hw _ (List.mem_of_getElem? (i := 30) rfl)) (by decide) (by decide)) iq148a iq148c (g := (mkF m 63 #[.val (.int p1), .val (.long q2), .second, .val (.ref b1), .val (.ref w_REMAINDER), .val (.int (1 : Int32)), .val (.ref t_REMAINDER), .unset, .unset, .unset] [(.ref b147), (.ref t_REMAINDER)])) rfl (by rw [hml]; rfl) (Steps.refl _) (argsL := [(.ref b147)]) (rest := []) (lenOf pd_0_2 rfl) rfl (by show 2 * 0 + _ ≤ _; exact Nat.le_of_eq rfl) (hb hby at_63) (fun _ _ => ⟨rfl, e147, (by decide : 3 + 0 ≤ _), (by decide : 13 + 0 ≤ _)⟩)
    dsimp only [Pt.U, Pt.locs, Pt.cells, Pt.slots] at X148 l148 y148 z148 st148 hQ148
    subst l148 y148 z148
    obtain ⟨rfl, N148q, e148⟩ := hQ148
    rw [show (F7003 w_COMPACT_STRINGS) = (0 : Int32) from by first | decide | (unfold F7003; repeat' split) <;> first | rfl | simp_all] at st148
    have N148 := Fr.app N144 N148q
    have pre155 : ∀ t, Steps p.tables e below (T148.setTop (mkF m 71 #[.val (.int p1), .val (.long q2), .second, .val (.ref b1), .val (.ref w_REMAINDER), .val (.int (1 : Int32)), .val (.ref t_REMAINDER), .unset, .unset, .unset] [(.ref t_REMAINDER)])) t → Steps p.tables e below (s₁.setTop (entryFrame m #[(.int p1), (.long q2)] maxLocals)) t := fun t kt => by
      refine pre146 t ?_
      show Steps p.tables e below (T144.setTop (mkF m 61 #[.val (.int p1), .val (.long q2), .second, .val (.ref b1), .val (.ref w_REMAINDER), .val (.int (1 : Int32)), .val (.ref t_REMAINDER), .unset, .unset, .unset] [(.ref t_REMAINDER)])) _
      refine st147 _ ?_
      show Steps p.tables e below (T147.setTop (mkF m 63 #[.val (.int p1), .val (.long q2), .second, .val (.ref b1), .val (.ref w_REMAINDER), .val (.int (1 : Int32)), .val (.ref t_REMAINDER), .unset, .unset, .unset] [(.ref b147), (.ref t_REMAINDER)])) _
      refine st148.trans ?_
      show Steps p.tables e below (T148.setTop (mkF m 66 #[.val (.int p1), .val (.long q2), .second, .val (.ref b1), .val (.ref w_REMAINDER), .val (.int (1 : Int32)), .val (.ref t_REMAINDER), .unset, .unset, .unset] [(.int (0 : Int32))])) _
      refine XS.ifNo X148.here hx rfl (hb hby at_66) rfl ((if0 _ _).trans (teq (rfl : (0 : Int32) = (0 : Int32))).2) ?_
      show Steps p.tables e below (T148.setTop (mkF m 69 #[.val (.int p1), .val (.long q2), .second, .val (.ref b1), .val (.ref w_REMAINDER), .val (.int (1 : Int32)), .val (.ref t_REMAINDER), .unset, .unset, .unset] [])) _
      refine XS.aload X148.here hx rfl (hb hby at_69) rfl rfl ?_
      exact kt
    obtain ⟨b156, T156, h156, kz156, bv156, kk156, X156, e156, E156, hS156, hk156, hZ, hown, A156, C156, F156, V156, lt156, ltb156, I156, st156⟩ := ldcSV (s := s) (vm0 := T147.vm) X148 hx hZ hown (hw _ (List.mem_of_getElem? (i := 51) rfl)) wS e148 hS147 hk147 (by rw [hsZ, ← hn0]; exact N148) (fun b cl q => by rw [hsZ]; exact q) I147 (by decide) HC42 hcw (vs := [(.int (37 : Int32))]) (z := (1 : Int32)) ⟨by decide, by rfl⟩ (by decide) (by rfl) (g := (mkF m 71 #[.val (.int p1), .val (.long q2), .second, .val (.ref b1), .val (.ref w_REMAINDER), .val (.int (1 : Int32)), .val (.ref t_REMAINDER), .unset, .unset, .unset] [(.ref t_REMAINDER)])) rfl (hb hby at_71) (n := 4) (by decide) (by decide) (by decide) (by decide)
    have fq158 := (Fld.ext E156 fq149)
    have fq159 := (Fld.ext E156 fq150)
    have fq160 := (Exa.ext E156 fq151)
    have fq161 := (fq152.ext E156)
    have fq162 := (fq153.ext E156)
    have z163 : n0 ≤ h156.size := (Nat.le_trans z154 E156.1)
    obtain ⟨cq157, kq157, iq157a, iq157b, iq157c⟩ := isOf hZ e156 fq160
    obtain ⟨_, _, ⟨T157, L157, k157, n157⟩, -, X157, ⟨Lc157, hQ157, l157, y157, z157⟩, st157⟩ := X156.virtualBack hx (y := (⟨"java/lang/String", "equals", "(Ljava/lang/Object;)Z"⟩ : MethodName)) (z := (⟨"java/lang/String", "equals", "(Ljava/lang/Object;)Z"⟩ : MethodName)) hown (mvT hZ (hw _ (List.mem_of_getElem? (i := 37) rfl))) (mvT hZ (hw _ (List.mem_of_getElem? (i := 38) rfl))) (notFace_of_selects (args := #[]) (mvT hZ (hw _ (List.mem_of_getElem? (i := 40) rfl)))) (mvT hZ (hw _ (List.mem_of_getElem? (i := 40) rfl))) (mvT hZ (hw _ (List.mem_of_getElem? (i := 39) rfl))) (by decide) (backOf (W := 0) (rm8003 l Z a0 hw [] t_REMAINDER b156 v_REMAINDER k_v_REMAINDER bv156 kk156 w_COMPACT_STRINGS h156 n0 z163 fq160 fq158 fq159 fq161 A156 C156 F156 V156 S_COMPACT_STRINGS fq162) hZ (hw _ (List.mem_of_getElem? (i := 41) rfl)) (hw _ (List.mem_of_getElem? (i := 30) rfl)) (by decide) (by decide)) iq157a iq157c (g := (mkF m 73 #[.val (.int p1), .val (.long q2), .second, .val (.ref b1), .val (.ref w_REMAINDER), .val (.int (1 : Int32)), .val (.ref t_REMAINDER), .unset, .unset, .unset] [(.ref b156), (.ref t_REMAINDER)])) rfl (by rw [hml]; rfl) (Steps.refl _) (argsL := [(.ref b156)]) (rest := []) (lenOf pd_0_2 rfl) rfl (by show 2 * 0 + _ ≤ _; exact Nat.le_of_eq rfl) (hb hby at_73) (fun _ _ => ⟨rfl, e156, (by decide : 5 + 0 ≤ _), (by decide : 21 + 0 ≤ _)⟩)
    dsimp only [Pt.U, Pt.locs, Pt.cells, Pt.slots] at X157 l157 y157 z157 st157 hQ157
    subst l157 y157 z157
    obtain ⟨rfl, N157q, e157⟩ := hQ157
    rw [show (F8003 t_REMAINDER b156 w_COMPACT_STRINGS) = (1 : Int32) from by first | decide | (unfold F8003; repeat' split) <;> first | rfl | simp_all] at st157
    have N157 := Fr.app N148 N157q
    have fq165 := (Fld.ext E156 (Fld.ext E147 (Fld.other W21 (Fld.other W17 (Fld.other W13 (Fld.other W9 (Fld.other W5 (Fld.ext E1 F_level_w_REMAINDER) (Or.inl ne_w_REMAINDER_b1)) (Or.inl ne_w_REMAINDER_b1)) (Or.inl ne_w_REMAINDER_b1)) (Or.inl ne_w_REMAINDER_b1)) (Or.inl ne_w_REMAINDER_b1))))
    have fq166 := (Exa.ext E156 (Exa.ext E147 fq143))
    obtain ⟨cq164, kq164, iq164a, iq164b, iq164c⟩ := isOf hZ e157 fq166
    obtain ⟨_, _, ⟨T164, L164, k164, n164⟩, -, X164, ⟨Lc164, hQ164, l164, y164, z164⟩, st164⟩ := X157.virtualBack hx (y := (⟨"com/example/preddb/preddb/Program$ArithmeticOperator", "level", "()I"⟩ : MethodName)) (z := (⟨"com/example/preddb/preddb/Program$ArithmeticOperator", "level", "()I"⟩ : MethodName)) hown (mvT hZ (hw _ (List.mem_of_getElem? (i := 66) rfl))) (mvT hZ (hw _ (List.mem_of_getElem? (i := 67) rfl))) (notFace_of_selects (args := #[]) (mvT hZ (hw _ (List.mem_of_getElem? (i := 69) rfl)))) (mvT hZ (hw _ (List.mem_of_getElem? (i := 69) rfl))) (mvT hZ (hw _ (List.mem_of_getElem? (i := 68) rfl))) (by decide) (backOf (W := 0) (rm7 l Z a0 hw [] w_REMAINDER (2 : Int32) h156 n0 z163 fq165) hZ (hw _ (List.mem_of_getElem? (i := 70) rfl)) (hw _ (List.mem_of_getElem? (i := 3) rfl)) (by decide) (by decide)) iq164a iq164c (g := (mkF m 102 #[.val (.int p1), .val (.long q2), .second, .val (.ref b1), .val (.ref w_REMAINDER), .val (.int (1 : Int32)), .val (.ref t_REMAINDER), .val (.int (1 : Int32)), .unset, .unset] [(.ref w_REMAINDER)])) rfl (by rw [hml]; rfl) (Steps.refl _) (argsL := []) (rest := []) (lenOf pd_0_5 rfl) rfl (by show 2 * 0 + _ ≤ _; exact Nat.le_of_eq rfl) (hb hby at_102) (fun _ _ => ⟨rfl, e157, (by decide : 5 + 0 ≤ _), (by decide : 21 + 0 ≤ _)⟩)
    dsimp only [Pt.U, Pt.locs, Pt.cells, Pt.slots] at X164 l164 y164 z164 st164 hQ164
    subst l164 y164 z164
    obtain ⟨rfl, N164q, e164⟩ := hQ164
    rw [show (F7 (2 : Int32)) = (2 : Int32) from by first | decide | (unfold F7; repeat' split) <;> first | rfl | simp_all] at st164
    have N164 := Fr.app N157 N164q
    obtain ⟨fs, hr, hrun, hended, hE⟩ := Jvm.Stand.leaveW (s := s) (vm₁ := T156.vm) X164 hS156 (by rw [e164]; exact hk156) (v := some (.int (1 : Int32))) (fun h => by rw [Bd.returns] at h; cases h)
    refine ⟨_, _, pre155 _ ?_, hrun, hended, _, _, rfl, ?_, hE.1, hE.2.1, hE.2.2.1, hE.2.2.2.mono (by decide) (by decide)⟩
    · show Steps p.tables e below (T148.setTop (mkF m 71 #[.val (.int p1), .val (.long q2), .second, .val (.ref b1), .val (.ref w_REMAINDER), .val (.int (1 : Int32)), .val (.ref t_REMAINDER), .unset, .unset, .unset] [(.ref t_REMAINDER)])) _
      refine st156 _ ?_
      show Steps p.tables e below (T156.setTop (mkF m 73 #[.val (.int p1), .val (.long q2), .second, .val (.ref b1), .val (.ref w_REMAINDER), .val (.int (1 : Int32)), .val (.ref t_REMAINDER), .unset, .unset, .unset] [(.ref b156), (.ref t_REMAINDER)])) _
      refine st157.trans ?_
      show Steps p.tables e below (T157.setTop (mkF m 76 #[.val (.int p1), .val (.long q2), .second, .val (.ref b1), .val (.ref w_REMAINDER), .val (.int (1 : Int32)), .val (.ref t_REMAINDER), .unset, .unset, .unset] [(.int (1 : Int32))])) _
      refine XS.ifNo X157.here hx rfl (hb hby at_76) rfl ((if0 _ _).trans (feq (by decide : ¬ ((1 : Int32) = (0 : Int32)))).1) ?_
      show Steps p.tables e below (T157.setTop (mkF m 79 #[.val (.int p1), .val (.long q2), .second, .val (.ref b1), .val (.ref w_REMAINDER), .val (.int (1 : Int32)), .val (.ref t_REMAINDER), .unset, .unset, .unset] [])) _
      refine XS.iconst X157.here hx rfl (hb hby at_79) ?_
      show Steps p.tables e below (T157.setTop (mkF m 80 #[.val (.int p1), .val (.long q2), .second, .val (.ref b1), .val (.ref w_REMAINDER), .val (.int (1 : Int32)), .val (.ref t_REMAINDER), .unset, .unset, .unset] [(.int (1 : Int32))])) _
      refine XS.goto X157.here hx rfl (pc0 := 80) (pc' := 84) rfl (hb hby at_80) (by decide) (by decide) ?_
      show Steps p.tables e below (T157.setTop (mkF m 84 #[.val (.int p1), .val (.long q2), .second, .val (.ref b1), .val (.ref w_REMAINDER), .val (.int (1 : Int32)), .val (.ref t_REMAINDER), .unset, .unset, .unset] [(.int (1 : Int32))])) _
      refine XS.istore X157.here hx rfl (hb hby at_84) rfl (l' := #[.val (.int p1), .val (.long q2), .second, .val (.ref b1), .val (.ref w_REMAINDER), .val (.int (1 : Int32)), .val (.ref t_REMAINDER), .val (.int (1 : Int32)), .unset, .unset]) rfl ?_
      show Steps p.tables e below (T157.setTop (mkF m 86 #[.val (.int p1), .val (.long q2), .second, .val (.ref b1), .val (.ref w_REMAINDER), .val (.int (1 : Int32)), .val (.ref t_REMAINDER), .val (.int (1 : Int32)), .unset, .unset] [])) _
      refine XS.iload X157.here hx rfl (hb hby at_86) rfl ?_
      show Steps p.tables e below (T157.setTop (mkF m 88 #[.val (.int p1), .val (.long q2), .second, .val (.ref b1), .val (.ref w_REMAINDER), .val (.int (1 : Int32)), .val (.ref t_REMAINDER), .val (.int (1 : Int32)), .unset, .unset] [(.int (1 : Int32))])) _
      refine XS.iload X157.here hx rfl (hb hby at_88) rfl ?_
      show Steps p.tables e below (T157.setTop (mkF m 90 #[.val (.int p1), .val (.long q2), .second, .val (.ref b1), .val (.ref w_REMAINDER), .val (.int (1 : Int32)), .val (.ref t_REMAINDER), .val (.int (1 : Int32)), .unset, .unset] [(.int (1 : Int32)), (.int (1 : Int32))])) _
      refine XS.icmpYes X157.here hx rfl (pc0 := 90) (pc' := 95) rfl (hb hby at_90) rfl (teq (rfl : (1 : Int32) = (1 : Int32))).1 (by decide) (by decide) ?_
      show Steps p.tables e below (T157.setTop (mkF m 95 #[.val (.int p1), .val (.long q2), .second, .val (.ref b1), .val (.ref w_REMAINDER), .val (.int (1 : Int32)), .val (.ref t_REMAINDER), .val (.int (1 : Int32)), .unset, .unset] [])) _
      refine XS.iload X157.here hx rfl (hb hby at_95) rfl ?_
      show Steps p.tables e below (T157.setTop (mkF m 97 #[.val (.int p1), .val (.long q2), .second, .val (.ref b1), .val (.ref w_REMAINDER), .val (.int (1 : Int32)), .val (.ref t_REMAINDER), .val (.int (1 : Int32)), .unset, .unset] [(.int (1 : Int32))])) _
      refine XS.ifNo X157.here hx rfl (hb hby at_97) rfl ((if0 _ _).trans (feq (by decide : ¬ ((1 : Int32) = (0 : Int32)))).1) ?_
      show Steps p.tables e below (T157.setTop (mkF m 100 #[.val (.int p1), .val (.long q2), .second, .val (.ref b1), .val (.ref w_REMAINDER), .val (.int (1 : Int32)), .val (.ref t_REMAINDER), .val (.int (1 : Int32)), .unset, .unset] [])) _
      refine XS.aload X157.here hx rfl (hb hby at_100) rfl rfl ?_
      show Steps p.tables e below (T157.setTop (mkF m 102 #[.val (.int p1), .val (.long q2), .second, .val (.ref b1), .val (.ref w_REMAINDER), .val (.int (1 : Int32)), .val (.ref t_REMAINDER), .val (.int (1 : Int32)), .unset, .unset] [(.ref w_REMAINDER)])) _
      refine st164.trans ?_
      show Steps p.tables e below (T164.setTop (mkF m 105 #[.val (.int p1), .val (.long q2), .second, .val (.ref b1), .val (.ref w_REMAINDER), .val (.int (1 : Int32)), .val (.ref t_REMAINDER), .val (.int (1 : Int32)), .unset, .unset] [(.int (2 : Int32))])) _
      refine XS.iconst X164.here hx rfl (hb hby at_105) ?_
      show Steps p.tables e below (T164.setTop (mkF m 106 #[.val (.int p1), .val (.long q2), .second, .val (.ref b1), .val (.ref w_REMAINDER), .val (.int (1 : Int32)), .val (.ref t_REMAINDER), .val (.int (1 : Int32)), .unset, .unset] [(.int (2 : Int32)), (.int (2 : Int32))])) _
      refine XS.icmpNo X164.here hx rfl (hb hby at_106) rfl (teq (rfl : (2 : Int32) = (2 : Int32))).2 ?_
      show Steps p.tables e below (T164.setTop (mkF m 109 #[.val (.int p1), .val (.long q2), .second, .val (.ref b1), .val (.ref w_REMAINDER), .val (.int (1 : Int32)), .val (.ref t_REMAINDER), .val (.int (1 : Int32)), .unset, .unset] [])) _
      refine XS.iconst X164.here hx rfl (hb hby at_109) ?_
      show Steps p.tables e below (T164.setTop (mkF m 110 #[.val (.int p1), .val (.long q2), .second, .val (.ref b1), .val (.ref w_REMAINDER), .val (.int (1 : Int32)), .val (.ref t_REMAINDER), .val (.int (1 : Int32)), .unset, .unset] [(.int (1 : Int32))])) _
      refine XS.goto X164.here hx rfl (pc0 := 110) (pc' := 114) rfl (hb hby at_110) (by decide) (by decide) ?_
      show Steps p.tables e below (T164.setTop (mkF m 114 #[.val (.int p1), .val (.long q2), .second, .val (.ref b1), .val (.ref w_REMAINDER), .val (.int (1 : Int32)), .val (.ref t_REMAINDER), .val (.int (1 : Int32)), .unset, .unset] [(.int (1 : Int32))])) _
      exact retN X164 hx (t := .boolean) Bd.returns (by simp) (hb hby at_114) hr
    · show Q0 Z p1 q2 w_PLUS t_PLUS v_PLUS k_v_PLUS w_MINUS t_MINUS v_MINUS k_v_MINUS w_TIMES t_TIMES v_TIMES k_v_TIMES w_DIVIDE t_DIVIDE v_DIVIDE k_v_DIVIDE w_REMAINDER t_REMAINDER v_REMAINDER k_v_REMAINDER w_COMPACT_STRINGS h0 n0 _ T164.heap _
      rw [e164]
      exact ⟨rfl, N164⟩
set_option maxRecDepth 65536 in
set_option maxHeartbeats 40000000 in
theorem comes_1 {Post : Tables → Env → Array Value → State → Outcome → State → Prop} (hpost : ∀ tb e args s v u, (limb_1_1.after args s (.returned v) u = true ∧ limb_1_2.after args s (.returned v) u = true ∧ True) → ReturnedEndW s (.returned v) u (Jvm.fieldLocs frame_1_writes args s ++ Jvm.arrayLocs frame_1_arrays args s ++ Jvm.staticLocs frame_1_statics s) 16 2176 → Post tb e args s (.returned v) u) :
    ArmFor flags0 classFile x code maxLocals ret World_1 tables_1 room_1 Calls_1 rest_1 Pre_1 Post := by
  intro l hfl _ _ p e ha hc hk s m args below hf hA hF happ hP
  obtain ⟨hcalls, hrest, hpre⟩ := hP
  obtain ⟨-, -, -, hnamed, -, -, -, hat⟩ := (Spec.applies_iff hf).mp happ
  obtain ⟨hg, hn⟩ := and_e (Cond.before_iff.mp (show (Jvm.Cond.and given_1 narrow_1).before args s = true from hpre))
  obtain ⟨g1, g2⟩ := and_e hg
  obtain ⟨g3, g4⟩ := and_e g2
  obtain ⟨w0, w1, rfl⟩ : ∃ w0 w1 : Value, args = #[w0, w1] := by
    have hs : args.size = 2 := by simpa [Cond.value, given_1] using g1
    obtain ⟨L⟩ := args
    match L, hs with
    | [w0, w1], _ => exact ⟨w0, w1, rfl⟩
  have hw := fun d (hd : d ∈ tables_1) => atoms_spec (ws := Jvm.Cond.code x code maxLocals ret :: tables_1) hat d (List.mem_cons_of_mem _ hd)
  have hfit : Fit s := fun {y c} hc i hi => by
    obtain ⟨ha, rfl⟩ := Array.getElem?_eq_some_iff.mp hc
    have q := List.all_eq_true.mp ((Array.all_eq_true_iff_forall_mem.mp hF) _ (Array.getElem_mem ha)) i (List.mem_range.mpr hi)
    simpa [Array.getElem?_eq_getElem hi] using q
  obtain ⟨hsets, hown0⟩ := atoms_of _ (rest_1_c_eq ▸ (show rest_1_c.before _ s = true from hrest))
  have hr0 := Cond.before_iff.mp hown0
  obtain ⟨i0, ei0⟩ := is_v g3
  obtain rfl : w0 = (.int i0) := Option.some.inj ei0
  obtain ⟨i1, ei1⟩ := isL_v g4
  obtain rfl : w1 = (.long i1) := Option.some.inj ei1
  obtain ⟨nw1, nw2⟩ := and_e hn
  obtain ⟨nw3, nw4⟩ := and_e nw2
  obtain ⟨nw5, nw6⟩ := and_e nw4
  obtain ⟨nw7, nw8⟩ := and_e nw6
  obtain ⟨nw9, nw10⟩ := and_e nw8
  obtain ⟨nw11, nw12⟩ := and_e nw10
  obtain ⟨nw13, nw14⟩ := and_e nw12
  obtain ⟨nw15, nw16⟩ := and_e nw14
  obtain ⟨nw17, nw18⟩ := and_e nw16
  obtain ⟨nw19, nw20⟩ := and_e nw18
  obtain ⟨nw21, nw22⟩ := and_e nw20
  obtain ⟨nw23, nw24⟩ := and_e nw22
  obtain ⟨nw25, nw26⟩ := and_e nw24
  obtain ⟨nw27, nw28⟩ := and_e nw26
  obtain ⟨nw29, nw30⟩ := and_e nw28
  obtain ⟨nw31, nw32⟩ := and_e nw30
  obtain ⟨nw33, nw34⟩ := and_e nw32
  obtain ⟨nw35, nw36⟩ := and_e nw34
  obtain ⟨nw37, nw38⟩ := and_e nw36
  obtain ⟨nw39, nw40⟩ := and_e nw38
  obtain ⟨nw41, nw42⟩ := and_e nw40
  obtain ⟨nw43, nw44⟩ := and_e nw42
  obtain ⟨nw45, nw46⟩ := and_e nw44
  obtain ⟨nw47, nw48⟩ := and_e nw46
  obtain ⟨nw49, nw50⟩ := and_e nw48
  obtain ⟨nw51, nw52⟩ := and_e nw50
  obtain ⟨nw53, nw54⟩ := and_e nw52
  obtain ⟨nw55, nw56⟩ := and_e nw54
  obtain ⟨nw57, nw58⟩ := and_e nw56
  obtain ⟨nw59, nw60⟩ := and_e nw58
  obtain ⟨nw61, nw62⟩ := and_e nw60
  obtain ⟨nw63, nw64⟩ := and_e nw62
  obtain ⟨nw65, nw66⟩ := and_e nw64
  obtain ⟨nw67, nw68⟩ := and_e nw66
  obtain ⟨nw69, nw70⟩ := and_e nw68
  obtain ⟨nw71, nw72⟩ := and_e nw70
  obtain ⟨nw73, nw74⟩ := and_e nw72
  obtain ⟨nw75, nw76⟩ := and_e nw74
  obtain ⟨nw77, nw78⟩ := and_e nw76
  obtain ⟨w_PLUS, ev_w_PLUS⟩ := exa_v nw1
  have E_w_PLUS : Exa s s.heap w_PLUS "com/example/preddb/preddb/Program$ArithmeticOperator" := Exa.start ev_w_PLUS nw1
  have S_PLUS : Sta s s.heap "com/example/preddb/preddb/Program$ArithmeticOperator" "PLUS" "Lcom/example/preddb/preddb/Program$ArithmeticOperator;" (.ref w_PLUS) := Sta.start ev_w_PLUS (Or.inr ⟨(hw _ (List.mem_of_getElem? (i := 3) rfl)), (hw _ (List.mem_of_getElem? (i := 4) rfl))⟩)
  obtain ⟨w_MINUS, ev_w_MINUS⟩ := exa_v nw3
  have E_w_MINUS : Exa s s.heap w_MINUS "com/example/preddb/preddb/Program$ArithmeticOperator" := Exa.start ev_w_MINUS nw3
  have S_MINUS : Sta s s.heap "com/example/preddb/preddb/Program$ArithmeticOperator" "MINUS" "Lcom/example/preddb/preddb/Program$ArithmeticOperator;" (.ref w_MINUS) := Sta.start ev_w_MINUS (Or.inr ⟨(hw _ (List.mem_of_getElem? (i := 3) rfl)), (hw _ (List.mem_of_getElem? (i := 7) rfl))⟩)
  obtain ⟨w_TIMES, ev_w_TIMES⟩ := exa_v nw5
  have E_w_TIMES : Exa s s.heap w_TIMES "com/example/preddb/preddb/Program$ArithmeticOperator" := Exa.start ev_w_TIMES nw5
  have S_TIMES : Sta s s.heap "com/example/preddb/preddb/Program$ArithmeticOperator" "TIMES" "Lcom/example/preddb/preddb/Program$ArithmeticOperator;" (.ref w_TIMES) := Sta.start ev_w_TIMES (Or.inr ⟨(hw _ (List.mem_of_getElem? (i := 3) rfl)), (hw _ (List.mem_of_getElem? (i := 9) rfl))⟩)
  obtain ⟨w_DIVIDE, ev_w_DIVIDE⟩ := exa_v nw7
  have E_w_DIVIDE : Exa s s.heap w_DIVIDE "com/example/preddb/preddb/Program$ArithmeticOperator" := Exa.start ev_w_DIVIDE nw7
  have S_DIVIDE : Sta s s.heap "com/example/preddb/preddb/Program$ArithmeticOperator" "DIVIDE" "Lcom/example/preddb/preddb/Program$ArithmeticOperator;" (.ref w_DIVIDE) := Sta.start ev_w_DIVIDE (Or.inr ⟨(hw _ (List.mem_of_getElem? (i := 3) rfl)), (hw _ (List.mem_of_getElem? (i := 11) rfl))⟩)
  obtain ⟨w_REMAINDER, ev_w_REMAINDER⟩ := exa_v nw9
  have E_w_REMAINDER : Exa s s.heap w_REMAINDER "com/example/preddb/preddb/Program$ArithmeticOperator" := Exa.start ev_w_REMAINDER nw9
  have S_REMAINDER : Sta s s.heap "com/example/preddb/preddb/Program$ArithmeticOperator" "REMAINDER" "Lcom/example/preddb/preddb/Program$ArithmeticOperator;" (.ref w_REMAINDER) := Sta.start ev_w_REMAINDER (Or.inr ⟨(hw _ (List.mem_of_getElem? (i := 3) rfl)), (hw _ (List.mem_of_getElem? (i := 13) rfl))⟩)
  have F_ordinal_w_PLUS : Fld s s.heap w_PLUS "java/lang/Enum" "ordinal" "I" (.int (0 : Int32)) := Fld.start ((fld_at ev_w_PLUS).symm.trans (own_eqi nw11))
  have F_ordinal_w_DIVIDE : Fld s s.heap w_DIVIDE "java/lang/Enum" "ordinal" "I" (.int (3 : Int32)) := Fld.start ((fld_at ev_w_DIVIDE).symm.trans (own_eqi nw13))
  have F_ordinal_w_REMAINDER : Fld s s.heap w_REMAINDER "java/lang/Enum" "ordinal" "I" (.int (4 : Int32)) := Fld.start ((fld_at ev_w_REMAINDER).symm.trans (own_eqi nw15))
  obtain ⟨t_PLUS, ev_t_PLUS⟩ := exa_v nw17
  have E_t_PLUS : Exa s s.heap t_PLUS "java/lang/String" := Exa.start ev_t_PLUS nw17
  have F_token_w_PLUS : Fld s s.heap w_PLUS "com/example/preddb/preddb/Program$ArithmeticOperator" "token" "Ljava/lang/String;" (.ref t_PLUS) := Fld.start ((fld_at ev_w_PLUS).symm.trans ev_t_PLUS)
  have F_coder_t_PLUS : Fld s s.heap t_PLUS "java/lang/String" "coder" "B" (.int (0 : Int32)) := Fld.start ((fld_at ev_t_PLUS).symm.trans (own_eqi nw19))
  obtain ⟨v_PLUS, ev_v_PLUS⟩ := arr_v nw21
  obtain ⟨cl_v_PLUS, Ar_v_PLUS⟩ := Arr.start ev_v_PLUS nw21
  have F_value_t_PLUS : Fld s s.heap t_PLUS "java/lang/String" "value" "[B" (.ref v_PLUS) := Fld.start ((fld_at ev_t_PLUS).symm.trans ev_v_PLUS)
  have sz_v_PLUS := own_len ev_v_PLUS Ar_v_PLUS (own_eqi nw23)
  have el_v_PLUS_0 := (elem_in (own_eqi nw25) ev_v_PLUS (Term.int_eval _) Ar_v_PLUS.1).2
  have F_ordinal_w_MINUS : Fld s s.heap w_MINUS "java/lang/Enum" "ordinal" "I" (.int (1 : Int32)) := Fld.start ((fld_at ev_w_MINUS).symm.trans (own_eqi nw27))
  obtain ⟨t_MINUS, ev_t_MINUS⟩ := exa_v nw29
  have E_t_MINUS : Exa s s.heap t_MINUS "java/lang/String" := Exa.start ev_t_MINUS nw29
  have F_token_w_MINUS : Fld s s.heap w_MINUS "com/example/preddb/preddb/Program$ArithmeticOperator" "token" "Ljava/lang/String;" (.ref t_MINUS) := Fld.start ((fld_at ev_w_MINUS).symm.trans ev_t_MINUS)
  have F_coder_t_MINUS : Fld s s.heap t_MINUS "java/lang/String" "coder" "B" (.int (0 : Int32)) := Fld.start ((fld_at ev_t_MINUS).symm.trans (own_eqi nw31))
  obtain ⟨v_MINUS, ev_v_MINUS⟩ := arr_v nw33
  obtain ⟨cl_v_MINUS, Ar_v_MINUS⟩ := Arr.start ev_v_MINUS nw33
  have F_value_t_MINUS : Fld s s.heap t_MINUS "java/lang/String" "value" "[B" (.ref v_MINUS) := Fld.start ((fld_at ev_t_MINUS).symm.trans ev_v_MINUS)
  have sz_v_MINUS := own_len ev_v_MINUS Ar_v_MINUS (own_eqi nw35)
  have el_v_MINUS_0 := (elem_in (own_eqi nw37) ev_v_MINUS (Term.int_eval _) Ar_v_MINUS.1).2
  obtain ⟨t_REMAINDER, ev_t_REMAINDER⟩ := exa_v nw39
  have E_t_REMAINDER : Exa s s.heap t_REMAINDER "java/lang/String" := Exa.start ev_t_REMAINDER nw39
  have F_token_w_REMAINDER : Fld s s.heap w_REMAINDER "com/example/preddb/preddb/Program$ArithmeticOperator" "token" "Ljava/lang/String;" (.ref t_REMAINDER) := Fld.start ((fld_at ev_w_REMAINDER).symm.trans ev_t_REMAINDER)
  have F_coder_t_REMAINDER : Fld s s.heap t_REMAINDER "java/lang/String" "coder" "B" (.int (0 : Int32)) := Fld.start ((fld_at ev_t_REMAINDER).symm.trans (own_eqi nw41))
  obtain ⟨v_REMAINDER, ev_v_REMAINDER⟩ := arr_v nw43
  obtain ⟨cl_v_REMAINDER, Ar_v_REMAINDER⟩ := Arr.start ev_v_REMAINDER nw43
  have F_value_t_REMAINDER : Fld s s.heap t_REMAINDER "java/lang/String" "value" "[B" (.ref v_REMAINDER) := Fld.start ((fld_at ev_t_REMAINDER).symm.trans ev_v_REMAINDER)
  have sz_v_REMAINDER := own_len ev_v_REMAINDER Ar_v_REMAINDER (own_eqi nw45)
  have el_v_REMAINDER_0 := (elem_in (own_eqi nw47) ev_v_REMAINDER (Term.int_eval _) Ar_v_REMAINDER.1).2
  have F_level_w_REMAINDER : Fld s s.heap w_REMAINDER "com/example/preddb/preddb/Program$ArithmeticOperator" "level" "I" (.int (2 : Int32)) := Fld.start ((fld_at ev_w_REMAINDER).symm.trans (own_eqi nw49))
  obtain ⟨t_DIVIDE, ev_t_DIVIDE⟩ := exa_v nw51
  have E_t_DIVIDE : Exa s s.heap t_DIVIDE "java/lang/String" := Exa.start ev_t_DIVIDE nw51
  have F_token_w_DIVIDE : Fld s s.heap w_DIVIDE "com/example/preddb/preddb/Program$ArithmeticOperator" "token" "Ljava/lang/String;" (.ref t_DIVIDE) := Fld.start ((fld_at ev_w_DIVIDE).symm.trans ev_t_DIVIDE)
  have F_coder_t_DIVIDE : Fld s s.heap t_DIVIDE "java/lang/String" "coder" "B" (.int (0 : Int32)) := Fld.start ((fld_at ev_t_DIVIDE).symm.trans (own_eqi nw53))
  obtain ⟨v_DIVIDE, ev_v_DIVIDE⟩ := arr_v nw55
  obtain ⟨cl_v_DIVIDE, Ar_v_DIVIDE⟩ := Arr.start ev_v_DIVIDE nw55
  have F_value_t_DIVIDE : Fld s s.heap t_DIVIDE "java/lang/String" "value" "[B" (.ref v_DIVIDE) := Fld.start ((fld_at ev_t_DIVIDE).symm.trans ev_v_DIVIDE)
  have sz_v_DIVIDE := own_len ev_v_DIVIDE Ar_v_DIVIDE (own_eqi nw57)
  have el_v_DIVIDE_0 := (elem_in (own_eqi nw59) ev_v_DIVIDE (Term.int_eval _) Ar_v_DIVIDE.1).2
  have F_level_w_DIVIDE : Fld s s.heap w_DIVIDE "com/example/preddb/preddb/Program$ArithmeticOperator" "level" "I" (.int (2 : Int32)) := Fld.start ((fld_at ev_w_DIVIDE).symm.trans (own_eqi nw61))
  have F_ordinal_w_TIMES : Fld s s.heap w_TIMES "java/lang/Enum" "ordinal" "I" (.int (2 : Int32)) := Fld.start ((fld_at ev_w_TIMES).symm.trans (own_eqi nw63))
  obtain ⟨t_TIMES, ev_t_TIMES⟩ := exa_v nw65
  have E_t_TIMES : Exa s s.heap t_TIMES "java/lang/String" := Exa.start ev_t_TIMES nw65
  have F_token_w_TIMES : Fld s s.heap w_TIMES "com/example/preddb/preddb/Program$ArithmeticOperator" "token" "Ljava/lang/String;" (.ref t_TIMES) := Fld.start ((fld_at ev_w_TIMES).symm.trans ev_t_TIMES)
  have F_coder_t_TIMES : Fld s s.heap t_TIMES "java/lang/String" "coder" "B" (.int (0 : Int32)) := Fld.start ((fld_at ev_t_TIMES).symm.trans (own_eqi nw67))
  obtain ⟨v_TIMES, ev_v_TIMES⟩ := arr_v nw69
  obtain ⟨cl_v_TIMES, Ar_v_TIMES⟩ := Arr.start ev_v_TIMES nw69
  have F_value_t_TIMES : Fld s s.heap t_TIMES "java/lang/String" "value" "[B" (.ref v_TIMES) := Fld.start ((fld_at ev_t_TIMES).symm.trans ev_v_TIMES)
  have sz_v_TIMES := own_len ev_v_TIMES Ar_v_TIMES (own_eqi nw71)
  have el_v_TIMES_0 := (elem_in (own_eqi nw73) ev_v_TIMES (Term.int_eval _) Ar_v_TIMES.1).2
  have F_level_w_PLUS : Fld s s.heap w_PLUS "com/example/preddb/preddb/Program$ArithmeticOperator" "level" "I" (.int (1 : Int32)) := Fld.start ((fld_at ev_w_PLUS).symm.trans (own_eqi nw75))
  have F_level_w_MINUS : Fld s s.heap w_MINUS "com/example/preddb/preddb/Program$ArithmeticOperator" "level" "I" (.int (1 : Int32)) := Fld.start ((fld_at ev_w_MINUS).symm.trans (own_eqi nw77))
  have F_level_w_TIMES : Fld s s.heap w_TIMES "com/example/preddb/preddb/Program$ArithmeticOperator" "level" "I" (.int (2 : Int32)) := Fld.start ((fld_at ev_w_TIMES).symm.trans (own_eqi nw78))
  obtain ⟨k_v_PLUS, V_v_PLUS⟩ : ∃ k, Arv s s.heap v_PLUS k .byte (1 : Int32) [(.int (43 : Int32))] (.int (0 : Int32)) := ⟨_, Arv.start hfit Ar_v_PLUS sz_v_PLUS.1 sz_v_PLUS.2 (by decide) rfl ⟨el_v_PLUS_0, trivial⟩⟩
  obtain ⟨k_v_MINUS, V_v_MINUS⟩ : ∃ k, Arv s s.heap v_MINUS k .byte (1 : Int32) [(.int (45 : Int32))] (.int (0 : Int32)) := ⟨_, Arv.start hfit Ar_v_MINUS sz_v_MINUS.1 sz_v_MINUS.2 (by decide) rfl ⟨el_v_MINUS_0, trivial⟩⟩
  obtain ⟨k_v_REMAINDER, V_v_REMAINDER⟩ : ∃ k, Arv s s.heap v_REMAINDER k .byte (1 : Int32) [(.int (37 : Int32))] (.int (0 : Int32)) := ⟨_, Arv.start hfit Ar_v_REMAINDER sz_v_REMAINDER.1 sz_v_REMAINDER.2 (by decide) rfl ⟨el_v_REMAINDER_0, trivial⟩⟩
  obtain ⟨k_v_DIVIDE, V_v_DIVIDE⟩ : ∃ k, Arv s s.heap v_DIVIDE k .byte (1 : Int32) [(.int (47 : Int32))] (.int (0 : Int32)) := ⟨_, Arv.start hfit Ar_v_DIVIDE sz_v_DIVIDE.1 sz_v_DIVIDE.2 (by decide) rfl ⟨el_v_DIVIDE_0, trivial⟩⟩
  obtain ⟨k_v_TIMES, V_v_TIMES⟩ : ∃ k, Arv s s.heap v_TIMES k .byte (1 : Int32) [(.int (42 : Int32))] (.int (0 : Int32)) := ⟨_, Arv.start hfit Ar_v_TIMES sz_v_TIMES.1 sz_v_TIMES.2 (by decide) rfl ⟨el_v_TIMES_0, trivial⟩⟩
  have X00 := Old.start s
  have ne_w_PLUS_w_DIVIDE := Fld.ne F_ordinal_w_PLUS F_ordinal_w_DIVIDE (fun q => absurd (Value.int.inj q) (by decide))
  have ne_w_PLUS_w_REMAINDER := Fld.ne F_ordinal_w_PLUS F_ordinal_w_REMAINDER (fun q => absurd (Value.int.inj q) (by decide))
  have HC34 : Jvm.Lit.constHeld s "com/example/preddb/preddb/ArithmeticOperatorDividesPinLaw" 34 := hcalls.1 ("com/example/preddb/preddb/ArithmeticOperatorDividesPinLaw", 34) (List.mem_of_getElem? (i := 0) rfl)
  obtain ⟨w_COMPACT_STRINGS, eCS⟩ := is_v (Cond.before_iff.mp (hsets _ (List.mem_of_getElem? (i := 1) rfl)))
  have S_COMPACT_STRINGS : Sta s s.heap "java/lang/String" "COMPACT_STRINGS" "Z" (.int w_COMPACT_STRINGS) := Sta.start eCS (Or.inl (hsets _ (List.mem_of_getElem? (i := 0) rfl)))
  have HC42 : Jvm.Lit.constHeld s "com/example/preddb/preddb/ArithmeticOperatorDividesPinLaw" 42 := hcalls.1 ("com/example/preddb/preddb/ArithmeticOperatorDividesPinLaw", 42) (List.mem_of_getElem? (i := 1) rfl)
  have ne_w_MINUS_w_DIVIDE := Fld.ne F_ordinal_w_MINUS F_ordinal_w_DIVIDE (fun q => absurd (Value.int.inj q) (by decide))
  have ne_w_MINUS_w_REMAINDER := Fld.ne F_ordinal_w_MINUS F_ordinal_w_REMAINDER (fun q => absurd (Value.int.inj q) (by decide))
  have ne_w_TIMES_w_DIVIDE := Fld.ne F_ordinal_w_TIMES F_ordinal_w_DIVIDE (fun q => absurd (Value.int.inj q) (by decide))
  have ne_w_TIMES_w_REMAINDER := Fld.ne F_ordinal_w_TIMES F_ordinal_w_REMAINDER (fun q => absurd (Value.int.inj q) (by decide))
  have ne_w_REMAINDER_w_DIVIDE := Fld.ne F_ordinal_w_REMAINDER F_ordinal_w_DIVIDE (fun q => absurd (Value.int.inj q) (by decide))
  have hcw : Jvm.Lit.compactW.before _ s = true := hsets _ (List.mem_of_getElem? (i := 2) rfl)
  obtain ⟨n, o, h1, h2, h3, _, L, rfl, ⟨rfl, N⟩, hq⟩ := rm0 l s _ hw tables_1 i0 i1 w_PLUS t_PLUS v_PLUS k_v_PLUS w_MINUS t_MINUS v_MINUS k_v_MINUS w_TIMES t_TIMES v_TIMES k_v_TIMES w_DIVIDE t_DIVIDE v_DIVIDE k_v_DIVIDE w_REMAINDER t_REMAINDER v_REMAINDER k_v_REMAINDER w_COMPACT_STRINGS s.heap s.heap.size (Nat.le_refl _) rfl rfl hcw E_w_PLUS F_ordinal_w_PLUS F_token_w_PLUS F_level_w_PLUS E_t_PLUS F_coder_t_PLUS F_value_t_PLUS V_v_PLUS E_w_MINUS F_ordinal_w_MINUS F_token_w_MINUS F_level_w_MINUS E_t_MINUS F_coder_t_MINUS F_value_t_MINUS V_v_MINUS E_w_TIMES F_ordinal_w_TIMES F_token_w_TIMES F_level_w_TIMES E_t_TIMES F_coder_t_TIMES F_value_t_TIMES V_v_TIMES E_w_DIVIDE F_ordinal_w_DIVIDE F_token_w_DIVIDE F_level_w_DIVIDE E_t_DIVIDE F_coder_t_DIVIDE F_value_t_DIVIDE V_v_DIVIDE E_w_REMAINDER F_ordinal_w_REMAINDER F_token_w_REMAINDER F_level_w_REMAINDER E_t_REMAINDER F_coder_t_REMAINDER F_value_t_REMAINDER V_v_REMAINDER S_PLUS X00 S_MINUS S_TIMES S_DIVIDE S_REMAINDER ne_w_PLUS_w_DIVIDE ne_w_PLUS_w_REMAINDER HC34 S_COMPACT_STRINGS HC42 ne_w_MINUS_w_DIVIDE ne_w_MINUS_w_REMAINDER ne_w_TIMES_w_DIVIDE ne_w_TIMES_w_REMAINDER ne_w_REMAINDER_w_DIVIDE p e ha hc hk s m _ below hf ((Spec.applies_iff_loose hf).mp happ).1 ⟨rfl, rfl⟩ trivial
  refine ⟨n, _, h1, h2, h3, hpost _ _ _ _ _ _ ⟨Cond.after_iff.mpr rfl, Cond.after_iff.mpr (eq_i res_at (Term.int_eval (1)) rfl), trivial⟩ ⟨hq.1, hq.2.1, hq.2.2.1, (hq.2.2.2.sift fun y hy => Or.inr (N y hy)).mono (by decide) (by decide)⟩⟩
theorem main_1_1 : Claimed_1_1 := comes_1 fun _ _ _ _ _ _ h hF => ⟨h.1, hF⟩
theorem main_1_2 : Claimed_1_2 := comes_1 fun _ _ _ _ _ _ h hF => ⟨h.2.1, hF⟩
end Jvm.Pilot.@@N@@
namespace Jvm.Pilot.@@N@@
open Jvm Jvm.ClassFile Sem Op Lib Jvm.Free Jvm.Stand Jvm.Pilot.@@N@@.Jvm.D
/-! MADE BY PROGRAM (witnessworld.py) out of the Statement's table words and the real class files: 19 classes; the members and pool entries that the words name. The judged class is class 1, her method 1. -/
namespace start1
open Jvm.ClassFile
def u (s : String) : CpInfo := .utf8 (stringToUtf16 s)
/-- a pool by its gaps: so many unusable entries, then the entry; so many at the end -/
def gap : Nat → List CpInfo → List CpInfo
  | 0, r => r
  | n + 1, r => .unusable :: gap n r
def poolList (es : List (Nat × CpInfo)) (last : Nat) : List CpInfo := es.foldr (fun e r => gap e.1 (e.2 :: r)) (gap last [])
def pool (es : List (Nat × CpInfo)) (last : Nat) : Array CpInfo := ⟨poolList es last⟩
def fileOf (pool : Array CpInfo) (this : Nat) (attrs : Array Attribute := #[]) (ms : Array MethodInfo := #[]) (fl : Nat := 33) (sup : Nat := 0) (ifs : Array Nat := #[]) (fds : Array FieldInfo := #[]) : ClassFile where
  minorVersion := 0
  majorVersion := 65
  constantPool := pool
  accessFlags := fl
  thisClass := this
  superClass := sup
  interfaces := ifs
  fields := fds
  methods := ms
  attributes := attrs
def plain (name : String) (sup : Option ClassId) : Class where
  name := name
  kind := .ordinary
  loader := none
  accessFlags := 33
  super := sup
  interfaces := #[]
  cf := none
  fields := #[]
  methods := #[]
  instanceTypes := #[]
  staticTypes := #[]
  resolved := #[]
  callSites := []
  init := .initialized
  statics := none
  mirror := none

def pool0 : Array CpInfo := pool [(5, u "<init>"), (0, u "()V"), (1, .class_ 10), (1, u "java/lang/Object")] 113

def k0m0 : Method := { name := "<init>", desc := "()V", sig := { parameters := [], returnType := none }, accessFlags := 1, code := none }
/-- java/lang/Object -/
def k0 : Class := { plain "java/lang/Object" none with
  accessFlags := 33
  interfaces := #[]
  cf := some (fileOf pool0 8 #[] #[{ accessFlags := 1, nameIndex := 5, descriptorIndex := 6, attributes := #[] }] 33 0 #[] #[])
  fields := #[]
  methods := #[k0m0]
  instanceTypes := #[]
  staticTypes := #[]
  resolved := Array.replicate 124 none
  statics := none }

def pool1 : Array CpInfo := pool [(2, .class_ 4), (1, u "java/lang/Object"), (0, u "<init>"), (0, u "()V"), (0, .class_ 8), (0, u "com/example/preddb/preddb/Program$ArithmeticOperator"), (0, .fieldref 7 10), (0, .nameAndType 11 12), (0, u "PLUS"), (0, u "Lcom/example/preddb/preddb/Program$ArithmeticOperator;"), (0, .fieldref 7 14), (0, .nameAndType 15 12), (0, u "MINUS"), (0, .fieldref 7 17), (0, .nameAndType 18 12), (0, u "TIMES"), (0, .fieldref 7 20), (0, .nameAndType 21 12), (0, u "DIVIDE"), (0, .fieldref 7 23), (0, .nameAndType 24 12), (0, u "REMAINDER"), (0, .integer 2147483647), (0, .methodref 7 27), (0, .nameAndType 28 29), (0, u "divides"), (0, u "()Z"), (0, .methodref 7 31), (0, .nameAndType 32 33), (0, u "token"), (0, u "()Ljava/lang/String;"), (0, .string 35), (0, u "/"), (0, .methodref 37 38), (0, .class_ 39), (0, .nameAndType 40 41), (0, u "java/lang/String"), (0, u "equals"), (0, u "(Ljava/lang/Object;)Z"), (0, .string 43), (0, u "%"), (0, .methodref 7 45), (0, .nameAndType 46 47), (0, u "level"), (0, u "()I"), (0, .methodref 7 49), (0, .nameAndType 50 51), (0, u "apply"), (0, u "(JJ)J"), (0, .class_ 53), (0, u "com/example/preddb/preddb/ArithmeticOperatorDividesPinLaw"), (2, u "law"), (0, u "(IJ)Z")] 9

def k1m0 : Method := { name := "<init>", desc := "()V", sig := { parameters := [], returnType := none }, accessFlags := 1, code := none }
def k1c1 : Code := { maxStack := 5, maxLocals := 10, code := code, exceptionTable := #[], attributes := #[] }
def k1m1 : Method := { name := "law", desc := "(IJ)Z", sig := { parameters := [.int, .long], returnType := some .boolean }, accessFlags := 9, code := some k1c1 }
/-- com/example/preddb/preddb/ArithmeticOperatorDividesPinLaw -/
def k1 : Class := { plain "com/example/preddb/preddb/ArithmeticOperatorDividesPinLaw" (some 0) with
  accessFlags := 49
  interfaces := #[]
  cf := some (fileOf pool1 52 #[] #[{ accessFlags := 1, nameIndex := 5, descriptorIndex := 6, attributes := #[] }, { accessFlags := 9, nameIndex := 56, descriptorIndex := 57, attributes := #[] }] 49 2 #[] #[])
  fields := #[]
  methods := #[k1m0, k1m1]
  instanceTypes := #[]
  staticTypes := #[]
  resolved := Array.replicate 67 none
  statics := none }

def pool2 : Array CpInfo := pool [(1, .class_ 2), (0, u "java/lang/constant/Constable"), (0, .class_ 4), (0, u "java/lang/Object")] 6

/-- java/lang/constant/Constable -/
def k2 : Class := { plain "java/lang/constant/Constable" (some 0) with
  accessFlags := 1537
  interfaces := #[]
  cf := some (fileOf pool2 1 #[] #[] 1537 3 #[] #[])
  fields := #[]
  methods := #[]
  instanceTypes := #[]
  staticTypes := #[]
  resolved := Array.replicate 11 none
  statics := none }

def pool3 : Array CpInfo := pool [(1, .class_ 2), (0, u "java/lang/Comparable"), (0, .class_ 4), (0, u "java/lang/Object")] 7

/-- java/lang/Comparable -/
def k3 : Class := { plain "java/lang/Comparable" (some 0) with
  accessFlags := 1537
  interfaces := #[]
  cf := some (fileOf pool3 1 #[] #[] 1537 3 #[] #[])
  fields := #[]
  methods := #[]
  instanceTypes := #[]
  staticTypes := #[]
  resolved := Array.replicate 12 none
  statics := none }

def pool4 : Array CpInfo := pool [(1, .class_ 2), (0, u "java/io/Serializable"), (0, .class_ 4), (0, u "java/lang/Object")] 2

/-- java/io/Serializable -/
def k4 : Class := { plain "java/io/Serializable" (some 0) with
  accessFlags := 1537
  interfaces := #[]
  cf := some (fileOf pool4 1 #[] #[] 1537 3 #[] #[])
  fields := #[]
  methods := #[]
  instanceTypes := #[]
  staticTypes := #[]
  resolved := Array.replicate 7 none
  statics := none }

def pool5 : Array CpInfo := pool [(2, .class_ 4), (1, u "java/lang/Enum"), (0, u "name"), (0, u "Ljava/lang/String;"), (0, .fieldref 2 8), (0, .nameAndType 9 10), (0, u "ordinal"), (0, u "I"), (1, .class_ 14), (1, u "java/lang/Object"), (4, u "hash"), (86, .class_ 108), (1, u "java/lang/Enum$EnumDesc"), (2, .class_ 112), (0, u "java/lang/constant/Constable"), (0, .class_ 114), (0, u "java/lang/Comparable"), (0, .class_ 116), (0, u "java/io/Serializable"), (9, u "()I")] 77

def k5c0 : Code := { maxStack := 1, maxLocals := 1, code := jdk_37_method_2_code, exceptionTable := #[], attributes := #[] }
def k5m0 : Method := { name := "ordinal", desc := "()I", sig := { parameters := [], returnType := some .int }, accessFlags := 17, code := some k5c0 }
/-- java/lang/Enum -/
def k5 : Class := { plain "java/lang/Enum" (some 0) with
  accessFlags := 1057
  interfaces := #[2, 3, 4]
  cf := some (fileOf pool5 2 #[.nestMembers #[106]] #[{ accessFlags := 17, nameIndex := 9, descriptorIndex := 126, attributes := #[] }] 1057 12 #[111, 113, 115] #[{ accessFlags := 18, nameIndex := 5, descriptorIndex := 6, attributes := #[] }, { accessFlags := 18, nameIndex := 9, descriptorIndex := 10, attributes := #[] }, { accessFlags := 2, nameIndex := 19, descriptorIndex := 10, attributes := #[] }])
  fields := #[{ name := "name", type := (.object "java/lang/String"), accessFlags := 18, slot := 0, constantValue := 0 }, { name := "ordinal", type := .int, accessFlags := 18, slot := 1, constantValue := 0 }, { name := "hash", type := .int, accessFlags := 2, slot := 2, constantValue := 0 }]
  methods := #[k5m0]
  instanceTypes := #[(.object "java/lang/String"), .int, .int]
  staticTypes := #[]
  resolved := Array.replicate 204 none
  statics := none }

def pool6 : Array CpInfo := pool [(1, .class_ 2), (0, u "com/example/preddb/preddb/Program$ArithmeticOperator"), (2, u "PLUS"), (0, u "Lcom/example/preddb/preddb/Program$ArithmeticOperator;"), (2, u "MINUS"), (2, u "TIMES"), (0, .fieldref 1 14), (0, .nameAndType 15 6), (0, u "DIVIDE"), (0, .fieldref 1 17), (0, .nameAndType 18 6), (0, u "REMAINDER"), (2, u "$VALUES"), (0, u "[Lcom/example/preddb/preddb/Program$ArithmeticOperator;"), (6, .class_ 31), (1, u "java/lang/Enum"), (6, .fieldref 1 39), (0, .nameAndType 40 41), (0, u "token"), (0, u "Ljava/lang/String;"), (0, .fieldref 1 43), (0, .nameAndType 44 45), (0, u "level"), (0, u "I"), (0, .methodref 1 47), (0, .nameAndType 48 49), (0, u "ordinal"), (0, u "()I"), (27, u "LOOSEST"), (2, u "TIGHTEST"), (7, u "()Ljava/lang/String;"), (0, u "divides"), (0, u "()Z"), (1, u "apply"), (0, u "(JJ)J"), (6, .class_ 101), (0, u "com/example/preddb/preddb/Program")] 2

def k6c0 : Code := { maxStack := 1, maxLocals := 1, code := prog_23_method_4_code, exceptionTable := #[], attributes := #[] }
def k6m0 : Method := { name := "token", desc := "()Ljava/lang/String;", sig := { parameters := [], returnType := some (.object "java/lang/String") }, accessFlags := 0, code := some k6c0 }
def k6c1 : Code := { maxStack := 1, maxLocals := 1, code := prog_23_method_5_code, exceptionTable := #[], attributes := #[] }
def k6m1 : Method := { name := "level", desc := "()I", sig := { parameters := [], returnType := some .int }, accessFlags := 0, code := some k6c1 }
def k6c2 : Code := { maxStack := 2, maxLocals := 1, code := prog_23_method_6_code, exceptionTable := #[], attributes := #[] }
def k6m2 : Method := { name := "divides", desc := "()Z", sig := { parameters := [], returnType := some .boolean }, accessFlags := 0, code := some k6c2 }
def k6c3 : Code := { maxStack := 4, maxLocals := 5, code := prog_23_method_7_code, exceptionTable := #[], attributes := #[] }
def k6m3 : Method := { name := "apply", desc := "(JJ)J", sig := { parameters := [.long, .long], returnType := some .long }, accessFlags := 0, code := some k6c3 }
/-- com/example/preddb/preddb/Program$ArithmeticOperator -/
def k6 : Class := { plain "com/example/preddb/preddb/Program$ArithmeticOperator" (some 5) with
  accessFlags := 16432
  interfaces := #[]
  cf := some (fileOf pool6 1 #[.nestHost 100] #[{ accessFlags := 0, nameIndex := 40, descriptorIndex := 88, attributes := #[] }, { accessFlags := 0, nameIndex := 44, descriptorIndex := 49, attributes := #[] }, { accessFlags := 0, nameIndex := 89, descriptorIndex := 90, attributes := #[] }, { accessFlags := 0, nameIndex := 92, descriptorIndex := 93, attributes := #[] }] 16432 29 #[] #[{ accessFlags := 16409, nameIndex := 5, descriptorIndex := 6, attributes := #[] }, { accessFlags := 16409, nameIndex := 9, descriptorIndex := 6, attributes := #[] }, { accessFlags := 16409, nameIndex := 12, descriptorIndex := 6, attributes := #[] }, { accessFlags := 16409, nameIndex := 15, descriptorIndex := 6, attributes := #[] }, { accessFlags := 16409, nameIndex := 18, descriptorIndex := 6, attributes := #[] }, { accessFlags := 24, nameIndex := 77, descriptorIndex := 45, attributes := #[] }, { accessFlags := 24, nameIndex := 80, descriptorIndex := 45, attributes := #[] }, { accessFlags := 18, nameIndex := 40, descriptorIndex := 41, attributes := #[] }, { accessFlags := 18, nameIndex := 44, descriptorIndex := 45, attributes := #[] }, { accessFlags := 4122, nameIndex := 21, descriptorIndex := 22, attributes := #[] }])
  fields := #[{ name := "PLUS", type := (.object "com/example/preddb/preddb/Program$ArithmeticOperator"), accessFlags := 16409, slot := 0, constantValue := 0 }, { name := "MINUS", type := (.object "com/example/preddb/preddb/Program$ArithmeticOperator"), accessFlags := 16409, slot := 1, constantValue := 0 }, { name := "TIMES", type := (.object "com/example/preddb/preddb/Program$ArithmeticOperator"), accessFlags := 16409, slot := 2, constantValue := 0 }, { name := "DIVIDE", type := (.object "com/example/preddb/preddb/Program$ArithmeticOperator"), accessFlags := 16409, slot := 3, constantValue := 0 }, { name := "REMAINDER", type := (.object "com/example/preddb/preddb/Program$ArithmeticOperator"), accessFlags := 16409, slot := 4, constantValue := 0 }, { name := "LOOSEST", type := .int, accessFlags := 24, slot := 5, constantValue := 0 }, { name := "TIGHTEST", type := .int, accessFlags := 24, slot := 6, constantValue := 0 }, { name := "token", type := (.object "java/lang/String"), accessFlags := 18, slot := 3, constantValue := 0 }, { name := "level", type := .int, accessFlags := 18, slot := 4, constantValue := 0 }, { name := "$VALUES", type := (.array (.object "com/example/preddb/preddb/Program$ArithmeticOperator")), accessFlags := 4122, slot := 7, constantValue := 0 }]
  methods := #[k6m0, k6m1, k6m2, k6m3]
  instanceTypes := #[(.object "java/lang/String"), .int, .int, (.object "java/lang/String"), .int]
  staticTypes := #[(.object "com/example/preddb/preddb/Program$ArithmeticOperator"), (.object "com/example/preddb/preddb/Program$ArithmeticOperator"), (.object "com/example/preddb/preddb/Program$ArithmeticOperator"), (.object "com/example/preddb/preddb/Program$ArithmeticOperator"), (.object "com/example/preddb/preddb/Program$ArithmeticOperator"), .int, .int, (.array (.object "com/example/preddb/preddb/Program$ArithmeticOperator"))]
  resolved := Array.replicate 104 none
  statics := some 0 }

def pool7 : Array CpInfo := pool [(2, .class_ 4), (1, u "java/lang/CharSequence"), (42, .class_ 48), (0, u "java/lang/CharSequence$1CodePointIterator"), (10, .class_ 60), (0, u "java/lang/CharSequence$1CharIterator"), (5, .class_ 67), (0, u "java/lang/Object")] 63

/-- java/lang/CharSequence -/
def k7 : Class := { plain "java/lang/CharSequence" (some 0) with
  accessFlags := 1537
  interfaces := #[]
  cf := some (fileOf pool7 2 #[.nestMembers #[47, 59]] #[] 1537 66 #[] #[])
  fields := #[]
  methods := #[]
  instanceTypes := #[]
  staticTypes := #[]
  resolved := Array.replicate 131 none
  statics := none }

def pool8 : Array CpInfo := pool [(1, .class_ 2), (0, u "java/lang/constant/ConstantDesc"), (0, .class_ 4), (0, u "java/lang/Object")] 32

/-- java/lang/constant/ConstantDesc -/
def k8 : Class := { plain "java/lang/constant/ConstantDesc" (some 0) with
  accessFlags := 1537
  interfaces := #[]
  cf := some (fileOf pool8 1 #[] #[] 1537 3 #[] #[])
  fields := #[]
  methods := #[]
  instanceTypes := #[]
  staticTypes := #[]
  resolved := Array.replicate 37 none
  statics := none }

def pool9 : Array CpInfo := pool [(2, .class_ 4), (1, u "java/lang/Object"), (0, u "<init>"), (0, u "()V"), (2, .fieldref 10 11), (0, .class_ 12), (0, .nameAndType 13 14), (0, u "java/lang/String"), (0, u "value"), (0, u "[B"), (0, .fieldref 10 16), (0, .nameAndType 17 18), (0, u "coder"), (0, u "B"), (2, u "hash"), (0, u "I"), (2, u "hashIsZero"), (0, u "Z"), (11, .fieldref 10 39), (0, .nameAndType 40 26), (0, u "COMPACT_STRINGS"), (66, .class_ 109), (1, u "java/lang/StringLatin1"), (431, .methodref 107 542), (0, .nameAndType 543 544), (0, u "equals"), (0, u "([B[B)Z"), (28, u "(Ljava/lang/Object;)Z"), (1, .class_ 576), (0, u "java/lang/CharSequence"), (22, u "CASE_INSENSITIVE_ORDER"), (0, u "Ljava/util/Comparator;"), (500, u "serialPersistentFields"), (0, u "[Ljava/io/ObjectStreamField;"), (0, .class_ 1104), (0, u "java/lang/String$CaseInsensitiveComparator"), (1, .class_ 1107), (0, u "java/io/Serializable"), (0, .class_ 1109), (0, u "java/lang/Comparable"), (0, .class_ 1111), (0, u "java/lang/constant/Constable"), (0, .class_ 1113), (0, u "java/lang/constant/ConstantDesc"), (2, u "serialVersionUID"), (0, u "J"), (3, u "REPL"), (0, u "C"), (2, u "LATIN1"), (1, u "UTF16")] 323

def k9m0 : Method := { name := "<init>", desc := "()V", sig := { parameters := [], returnType := none }, accessFlags := 1, code := none }
def k9c1 : Code := { maxStack := 2, maxLocals := 3, code := jdk_42_method_66_code, exceptionTable := #[], attributes := #[] }
def k9m1 : Method := { name := "equals", desc := "(Ljava/lang/Object;)Z", sig := { parameters := [(.object "java/lang/Object")], returnType := some .boolean }, accessFlags := 1, code := some k9c1 }
/-- java/lang/String -/
def k9 : Class := { plain "java/lang/String" (some 0) with
  accessFlags := 49
  interfaces := #[4, 3, 7, 2, 8]
  cf := some (fileOf pool9 10 #[.nestMembers #[1103]] #[{ accessFlags := 1, nameIndex := 5, descriptorIndex := 6, attributes := #[] }, { accessFlags := 1, nameIndex := 543, descriptorIndex := 573, attributes := #[] }] 49 2 #[1106, 1108, 575, 1110, 1112] #[{ accessFlags := 18, nameIndex := 13, descriptorIndex := 14, attributes := #[] }, { accessFlags := 18, nameIndex := 17, descriptorIndex := 18, attributes := #[] }, { accessFlags := 2, nameIndex := 21, descriptorIndex := 22, attributes := #[] }, { accessFlags := 2, nameIndex := 25, descriptorIndex := 26, attributes := #[] }, { accessFlags := 26, nameIndex := 1116, descriptorIndex := 1117, attributes := #[] }, { accessFlags := 24, nameIndex := 40, descriptorIndex := 26, attributes := #[] }, { accessFlags := 26, nameIndex := 1101, descriptorIndex := 1102, attributes := #[] }, { accessFlags := 26, nameIndex := 1121, descriptorIndex := 1122, attributes := #[] }, { accessFlags := 25, nameIndex := 599, descriptorIndex := 600, attributes := #[] }, { accessFlags := 24, nameIndex := 1125, descriptorIndex := 18, attributes := #[] }, { accessFlags := 24, nameIndex := 1127, descriptorIndex := 18, attributes := #[] }])
  fields := #[{ name := "value", type := (.array .byte), accessFlags := 18, slot := 0, constantValue := 0 }, { name := "coder", type := .byte, accessFlags := 18, slot := 1, constantValue := 0 }, { name := "hash", type := .int, accessFlags := 2, slot := 2, constantValue := 0 }, { name := "hashIsZero", type := .boolean, accessFlags := 2, slot := 3, constantValue := 0 }, { name := "serialVersionUID", type := .long, accessFlags := 26, slot := 0, constantValue := 0 }, { name := "COMPACT_STRINGS", type := .boolean, accessFlags := 24, slot := 1, constantValue := 0 }, { name := "serialPersistentFields", type := (.array (.object "java/io/ObjectStreamField")), accessFlags := 26, slot := 2, constantValue := 0 }, { name := "REPL", type := .char, accessFlags := 26, slot := 3, constantValue := 0 }, { name := "CASE_INSENSITIVE_ORDER", type := (.object "java/util/Comparator"), accessFlags := 25, slot := 4, constantValue := 0 }, { name := "LATIN1", type := .byte, accessFlags := 24, slot := 5, constantValue := 0 }, { name := "UTF16", type := .byte, accessFlags := 24, slot := 6, constantValue := 0 }]
  methods := #[k9m0, k9m1]
  instanceTypes := #[(.array .byte), .byte, .int, .boolean]
  staticTypes := #[.long, .boolean, (.array (.object "java/io/ObjectStreamField")), .char, (.object "java/util/Comparator"), .byte, .byte]
  resolved := Array.replicate 1451 none
  statics := some 1 }

def pool10 : Array CpInfo := pool [(4, .class_ 6), (1, u "java/lang/Object"), (0, u "<init>"), (0, u "()V"), (5, .class_ 16), (1, u "java/lang/StringLatin1"), (104, u "$assertionsDisabled"), (0, u "Z"), (98, .class_ 223), (1, u "java/lang/StringLatin1$LinesSpliterator"), (57, u "equals"), (0, u "([B[B)Z"), (107, .class_ 391), (0, u "java/lang/StringLatin1$CharsSpliterator")] 3

def k10m0 : Method := { name := "<init>", desc := "()V", sig := { parameters := [], returnType := none }, accessFlags := 0, code := none }
def k10c1 : Code := { maxStack := 3, maxLocals := 3, code := jdk_43_method_13_code, exceptionTable := #[], attributes := #[] }
def k10m1 : Method := { name := "equals", desc := "([B[B)Z", sig := { parameters := [(.array .byte), (.array .byte)], returnType := some .boolean }, accessFlags := 9, code := some k10c1 }
/-- java/lang/StringLatin1 -/
def k10 : Class := { plain "java/lang/StringLatin1" (some 0) with
  accessFlags := 48
  interfaces := #[]
  cf := some (fileOf pool10 14 #[.nestMembers #[390, 221]] #[{ accessFlags := 0, nameIndex := 7, descriptorIndex := 8, attributes := #[] }, { accessFlags := 9, nameIndex := 281, descriptorIndex := 282, attributes := #[] }] 48 4 #[] #[{ accessFlags := 4120, nameIndex := 121, descriptorIndex := 122, attributes := #[] }])
  fields := #[{ name := "$assertionsDisabled", type := .boolean, accessFlags := 4120, slot := 0, constantValue := 0 }]
  methods := #[k10m0, k10m1]
  instanceTypes := #[]
  staticTypes := #[.boolean]
  resolved := Array.replicate 395 none
  statics := none }

def pool11 : Array CpInfo := pool [(2, .class_ 4), (1, u "java/lang/Object"), (0, u "<init>"), (0, u "()V"), (17, .class_ 26), (1, u "jdk/internal/util/Preconditions"), (28, .class_ 56), (0, u "jdk/internal/util/Preconditions$4"), (57, .class_ 115), (0, u "jdk/internal/util/Preconditions$1"), (7, u "SIOOBE_FORMATTER"), (0, u "Ljava/util/function/BiFunction;"), (0, .class_ 126), (0, u "jdk/internal/util/Preconditions$2"), (3, u "AIOOBE_FORMATTER"), (0, .class_ 132), (0, u "jdk/internal/util/Preconditions$3"), (3, u "IOOBE_FORMATTER")] 57

def k11m0 : Method := { name := "<init>", desc := "()V", sig := { parameters := [], returnType := none }, accessFlags := 1, code := none }
/-- jdk/internal/util/Preconditions -/
def k11 : Class := { plain "jdk/internal/util/Preconditions" (some 0) with
  accessFlags := 33
  interfaces := #[]
  cf := some (fileOf pool11 24 #[.nestMembers #[55, 131, 125, 114]] #[{ accessFlags := 1, nameIndex := 5, descriptorIndex := 6, attributes := #[] }] 33 2 #[] #[{ accessFlags := 25, nameIndex := 123, descriptorIndex := 124, attributes := #[] }, { accessFlags := 25, nameIndex := 130, descriptorIndex := 124, attributes := #[] }, { accessFlags := 25, nameIndex := 136, descriptorIndex := 124, attributes := #[] }])
  fields := #[{ name := "SIOOBE_FORMATTER", type := (.object "java/util/function/BiFunction"), accessFlags := 25, slot := 0, constantValue := 0 }, { name := "AIOOBE_FORMATTER", type := (.object "java/util/function/BiFunction"), accessFlags := 25, slot := 1, constantValue := 0 }, { name := "IOOBE_FORMATTER", type := (.object "java/util/function/BiFunction"), accessFlags := 25, slot := 2, constantValue := 0 }]
  methods := #[k11m0]
  instanceTypes := #[]
  staticTypes := #[(.object "java/util/function/BiFunction"), (.object "java/util/function/BiFunction"), (.object "java/util/function/BiFunction")]
  resolved := Array.replicate 194 none
  statics := some 2 }

def pool12 : Array CpInfo := pool [(9, u "<init>"), (6, .class_ 18), (1, u "java/lang/Object"), (0, u "()V"), (1, .class_ 23), (1, u "jdk/internal/util/ArraysSupport"), (0, u "LOG2_ARRAY_LONG_INDEX_SCALE"), (0, u "I"), (2, u "U"), (0, u "Ljdk/internal/misc/Unsafe;"), (8, u "BIG_ENDIAN"), (0, u "Z"), (8, u "LOG2_BYTE_BIT_SIZE"), (4, u "LOG2_ARRAY_INT_INDEX_SCALE"), (54, u "JLA"), (0, u "Ljdk/internal/access/JavaLangAccess;"), (11, u "LOG2_ARRAY_BOOLEAN_INDEX_SCALE"), (9, u "LOG2_ARRAY_BYTE_INDEX_SCALE"), (5, u "LOG2_ARRAY_CHAR_INDEX_SCALE"), (5, u "LOG2_ARRAY_SHORT_INDEX_SCALE"), (18, u "LOG2_ARRAY_FLOAT_INDEX_SCALE"), (24, u "LOG2_ARRAY_DOUBLE_INDEX_SCALE"), (89, u "T_BOOLEAN"), (2, u "T_CHAR"), (1, u "T_FLOAT"), (1, u "T_DOUBLE"), (1, u "T_BYTE"), (1, u "T_SHORT"), (1, u "T_INT"), (1, u "T_LONG"), (1, u "SOFT_MAX_ARRAY_LENGTH")] 83

def k12m0 : Method := { name := "<init>", desc := "()V", sig := { parameters := [], returnType := none }, accessFlags := 2, code := none }
/-- jdk/internal/util/ArraysSupport -/
def k12 : Class := { plain "jdk/internal/util/ArraysSupport" (some 0) with
  accessFlags := 33
  interfaces := #[]
  cf := some (fileOf pool12 21 #[] #[{ accessFlags := 2, nameIndex := 9, descriptorIndex := 19, attributes := #[] }] 33 16 #[] #[{ accessFlags := 24, nameIndex := 28, descriptorIndex := 29, attributes := #[] }, { accessFlags := 26, nameIndex := 38, descriptorIndex := 39, attributes := #[] }, { accessFlags := 25, nameIndex := 121, descriptorIndex := 25, attributes := #[] }, { accessFlags := 25, nameIndex := 131, descriptorIndex := 25, attributes := #[] }, { accessFlags := 25, nameIndex := 137, descriptorIndex := 25, attributes := #[] }, { accessFlags := 25, nameIndex := 143, descriptorIndex := 25, attributes := #[] }, { accessFlags := 25, nameIndex := 53, descriptorIndex := 25, attributes := #[] }, { accessFlags := 25, nameIndex := 24, descriptorIndex := 25, attributes := #[] }, { accessFlags := 25, nameIndex := 162, descriptorIndex := 25, attributes := #[] }, { accessFlags := 25, nameIndex := 187, descriptorIndex := 25, attributes := #[] }, { accessFlags := 26, nameIndex := 48, descriptorIndex := 25, attributes := #[] }, { accessFlags := 25, nameIndex := 277, descriptorIndex := 25, attributes := #[] }, { accessFlags := 25, nameIndex := 280, descriptorIndex := 25, attributes := #[] }, { accessFlags := 25, nameIndex := 282, descriptorIndex := 25, attributes := #[] }, { accessFlags := 25, nameIndex := 284, descriptorIndex := 25, attributes := #[] }, { accessFlags := 25, nameIndex := 286, descriptorIndex := 25, attributes := #[] }, { accessFlags := 25, nameIndex := 288, descriptorIndex := 25, attributes := #[] }, { accessFlags := 25, nameIndex := 290, descriptorIndex := 25, attributes := #[] }, { accessFlags := 25, nameIndex := 292, descriptorIndex := 25, attributes := #[] }, { accessFlags := 26, nameIndex := 108, descriptorIndex := 109, attributes := #[] }, { accessFlags := 25, nameIndex := 294, descriptorIndex := 25, attributes := #[] }])
  fields := #[{ name := "U", type := (.object "jdk/internal/misc/Unsafe"), accessFlags := 24, slot := 0, constantValue := 0 }, { name := "BIG_ENDIAN", type := .boolean, accessFlags := 26, slot := 1, constantValue := 0 }, { name := "LOG2_ARRAY_BOOLEAN_INDEX_SCALE", type := .int, accessFlags := 25, slot := 2, constantValue := 0 }, { name := "LOG2_ARRAY_BYTE_INDEX_SCALE", type := .int, accessFlags := 25, slot := 3, constantValue := 0 }, { name := "LOG2_ARRAY_CHAR_INDEX_SCALE", type := .int, accessFlags := 25, slot := 4, constantValue := 0 }, { name := "LOG2_ARRAY_SHORT_INDEX_SCALE", type := .int, accessFlags := 25, slot := 5, constantValue := 0 }, { name := "LOG2_ARRAY_INT_INDEX_SCALE", type := .int, accessFlags := 25, slot := 6, constantValue := 0 }, { name := "LOG2_ARRAY_LONG_INDEX_SCALE", type := .int, accessFlags := 25, slot := 7, constantValue := 0 }, { name := "LOG2_ARRAY_FLOAT_INDEX_SCALE", type := .int, accessFlags := 25, slot := 8, constantValue := 0 }, { name := "LOG2_ARRAY_DOUBLE_INDEX_SCALE", type := .int, accessFlags := 25, slot := 9, constantValue := 0 }, { name := "LOG2_BYTE_BIT_SIZE", type := .int, accessFlags := 26, slot := 10, constantValue := 0 }, { name := "T_BOOLEAN", type := .int, accessFlags := 25, slot := 11, constantValue := 0 }, { name := "T_CHAR", type := .int, accessFlags := 25, slot := 12, constantValue := 0 }, { name := "T_FLOAT", type := .int, accessFlags := 25, slot := 13, constantValue := 0 }, { name := "T_DOUBLE", type := .int, accessFlags := 25, slot := 14, constantValue := 0 }, { name := "T_BYTE", type := .int, accessFlags := 25, slot := 15, constantValue := 0 }, { name := "T_SHORT", type := .int, accessFlags := 25, slot := 16, constantValue := 0 }, { name := "T_INT", type := .int, accessFlags := 25, slot := 17, constantValue := 0 }, { name := "T_LONG", type := .int, accessFlags := 25, slot := 18, constantValue := 0 }, { name := "JLA", type := (.object "jdk/internal/access/JavaLangAccess"), accessFlags := 26, slot := 19, constantValue := 0 }, { name := "SOFT_MAX_ARRAY_LENGTH", type := .int, accessFlags := 25, slot := 20, constantValue := 0 }]
  methods := #[k12m0]
  instanceTypes := #[]
  staticTypes := #[(.object "jdk/internal/misc/Unsafe"), .boolean, .int, .int, .int, .int, .int, .int, .int, .int, .int, .int, .int, .int, .int, .int, .int, .int, .int, (.object "jdk/internal/access/JavaLangAccess"), .int]
  resolved := Array.replicate 378 none
  statics := none }

def pool13 : Array CpInfo := pool [(1, u "java/lang/Cloneable"), (0, .class_ 1), (0, u "java/lang/Object"), (0, .class_ 3)] 3

/-- java/lang/Cloneable -/
def k13 : Class := { plain "java/lang/Cloneable" (some 0) with
  accessFlags := 1537
  interfaces := #[]
  cf := some (fileOf pool13 2 #[] #[] 1537 4 #[] #[])
  fields := #[]
  methods := #[]
  instanceTypes := #[]
  staticTypes := #[]
  resolved := Array.replicate 8 none
  statics := none }

/-- the primitive byte -/
def k14 : Class := { plain "byte" none with kind := .primitive 'B', accessFlags := 0x411 }
/-- [B -/
def k15 : Class := { plain "[B" (some 0) with kind := .array 14 .byte, interfaces := #[13, 4], accessFlags := 1041 }

/-- the primitive int -/
def k16 : Class := { plain "int" none with kind := .primitive 'I', accessFlags := 0x411 }
/-- [I -/
def k17 : Class := { plain "[I" (some 0) with kind := .array 16 .int, interfaces := #[13, 4], accessFlags := 1041 }

/-- [Lcom/example/preddb/preddb/Program$ArithmeticOperator; -/
def k18 : Class := { plain "[Lcom/example/preddb/preddb/Program$ArithmeticOperator;" (some 0) with kind := .array 6 (.object "com/example/preddb/preddb/Program$ArithmeticOperator"), interfaces := #[13, 4], accessFlags := 1041 }

def heap : Heap := #[{ cls := 6, slots := #[.ref 5, .ref 8, .ref 11, .ref 14, .ref 17, .int 0, .int 0, .null], vm := .statics 6 },
  { cls := 9, slots := #[.long 0, .int 1, .null, .int 0, .null, .int 0, .int 0], vm := .statics 9 },
  { cls := 11, slots := #[.null, .null, .null], vm := .statics 11 },
  { cls := 15, slots := #[.int 43], vm := .none },
  { cls := 9, slots := #[.ref 3, .int 0, .int 0, .int 0], vm := .none },
  { cls := 6, slots := #[.null, .int 0, .int 0, .ref 4, .int 1], vm := .none },
  { cls := 15, slots := #[.int 45], vm := .none },
  { cls := 9, slots := #[.ref 6, .int 0, .int 0, .int 0], vm := .none },
  { cls := 6, slots := #[.null, .int 1, .int 0, .ref 7, .int 1], vm := .none },
  { cls := 15, slots := #[.int 42], vm := .none },
  { cls := 9, slots := #[.ref 9, .int 0, .int 0, .int 0], vm := .none },
  { cls := 6, slots := #[.null, .int 2, .int 0, .ref 10, .int 2], vm := .none },
  { cls := 15, slots := #[.int 47], vm := .none },
  { cls := 9, slots := #[.ref 12, .int 0, .int 0, .int 0], vm := .none },
  { cls := 6, slots := #[.null, .int 3, .int 0, .ref 13, .int 2], vm := .none },
  { cls := 15, slots := #[.int 37], vm := .none },
  { cls := 9, slots := #[.ref 15, .int 0, .int 0, .int 0], vm := .none },
  { cls := 6, slots := #[.null, .int 4, .int 0, .ref 16, .int 2], vm := .none }]
def classes : Array Class := #[k0, k1, k2, k3, k4, k5, k6, k7, k8, k9, k10, k11, k12, k13, k14, k15, k16, k17, k18]
def interned : List (Array UInt16 × Addr) := []
def slotsUsed : Nat := 68
def theMethod : MethodId := ⟨1, 1⟩
def args0 : Array Value := #[.int 5, .long 3]
def aboutOver (below : List Frame) : State where
  vm := { classes := classes, interned := interned.toArray }
  heap := heap
  slotsUsed := slotsUsed
  threads := #[{ frames := .invoking theMethod args0 :: below }]
def below0 : List Frame := [.native { method := ⟨0, 0⟩, args := #[] }]
def about1 : State := aboutOver below0
def p0 : Program := .bare "" "" ""
def e0 : Env := launch0.env 0 0 0
theorem w_frames : about1.frames = Frame.invoking theMethod args0 :: below0 := rfl
set_option maxRecDepth 65536 in
theorem w_args : argsFit about1.vm theMethod args0 = true := by decide +kernel
set_option maxRecDepth 65536 in
theorem w_heap : heapFits about1 = true := by decide +kernel
set_option maxRecDepth 65536 in
theorem w_runnable : about1.curStatus? = some .runnable := by decide +kernel
set_option maxRecDepth 65536 in
theorem w_alone : about1.alone = true := by decide +kernel
set_option maxRecDepth 65536 in
theorem w_named : about1.methodNamed? x = some theMethod := by decide +kernel
set_option maxRecDepth 65536 in
theorem w_hears : about1.hears theMethod below0 = true := by decide +kernel
set_option maxRecDepth 65536 in
theorem w_ripe : about1.ripe theMethod args0 below0 = true := by decide +kernel
theorem w_running : about1.status = .running := rfl
set_option maxRecDepth 65536 in
theorem w_room : about1.hasRoom e0.platform room_1 = true :=
  launch0.hasRoom_least _ room_1 (by decide +kernel) (by decide +kernel) (by decide +kernel) (by decide +kernel) (by decide +kernel) (by decide +kernel)
theorem allAtoms_all (ts : List Jvm.Cond) (a : Array Jvm.Value) (st : Jvm.State) : (allAtoms ts).before a st = ts.all (fun c => c.before a st) := by
  induction ts with
  | nil => rfl
  | cons c t ih =>
    show (Jvm.Cond.and c (allAtoms t)).before a st = _
    rw [Jvm.Cond.before_and, ih, List.all_cons]
def words1 : List Jvm.Cond := Jvm.Cond.code x code maxLocals ret :: tables_1
/-- a 'code' word, met by the world's own term for the bytes: nothing is compared byte by byte -/
theorem code_word {y : MethodName} {bytes : ByteArray} {mx : Nat} {rt : Option FieldType} {a : Array Value} {s : State} {m : MethodId} {meth : Method} {c : Code} (h1 : s.methodNamed? y = some m) (h2 : s.vm.method? m = some meth) (h3 : meth.code = some c) (h4 : c.code = bytes)
    (h5 : (c.maxLocals == mx && c.exceptionTable.isEmpty && decide (c.maxStack ≤ mostOperands) && decide (meth.sig.returnType = rt) && !meth.locks && decide (parseMethodDescriptor y.desc = some meth.sig)) = true) : (Jvm.Cond.code y bytes mx rt).before a s = true := by
  simp only [Bool.and_eq_true, beq_iff_eq, Bool.not_eq_true', decide_eq_true_eq] at h5
  obtain ⟨⟨⟨⟨⟨g1, g2⟩, g3⟩, g4⟩, g5⟩, g6⟩ := h5
  simp [Cond.before, Cond.holds, Cond.value, h1, h2, h3, h4, g1, g2, g3, g4, g5, g6]
def isCode : Jvm.Cond → Bool
  | .code _ _ _ _ => true
  | _ => false
theorem all_split {L : List Jvm.Cond} {P : Jvm.Cond → Bool} (h1 : L.all (fun c => isCode c || P c) = true) (h2 : ∀ c ∈ L.filter isCode, P c = true) : L.all P = true := by
  refine List.all_eq_true.mpr fun c hc => ?_
  have h := List.all_eq_true.mp h1 c hc
  rcases Bool.eq_false_or_eq_true (isCode c) with hi | hi
  · exact h2 c (List.mem_filter.mpr ⟨hc, hi⟩)
  · simpa [hi] using h
set_option maxRecDepth 65536 in
theorem w_c0 : (Jvm.Cond.code x code maxLocals ret).before args0 about1 = true := code_word (m := ⟨1, 1⟩) (meth := k1m1) (c := k1c1) (by decide +kernel) rfl rfl rfl (by decide +kernel)
set_option maxRecDepth 65536 in
theorem w_c1 : (Jvm.Cond.code ({ cls := "com/example/preddb/preddb/Program$ArithmeticOperator", name := "divides", desc := "()Z" } : Jvm.MethodName) prog_23_method_6_code (1 : Nat) (Option.some Jvm.ClassFile.FieldType.boolean)).before args0 about1 = true := code_word (m := ⟨6, 2⟩) (meth := k6m2) (c := k6c2) (by decide +kernel) rfl rfl rfl (by decide +kernel)
set_option maxRecDepth 65536 in
theorem w_c2 : (Jvm.Cond.code ({ cls := "com/example/preddb/preddb/Program$ArithmeticOperator", name := "token", desc := "()Ljava/lang/String;" } : Jvm.MethodName) prog_23_method_4_code (1 : Nat) (Option.some (Jvm.ClassFile.FieldType.object "java/lang/String"))).before args0 about1 = true := code_word (m := ⟨6, 0⟩) (meth := k6m0) (c := k6c0) (by decide +kernel) rfl rfl rfl (by decide +kernel)
set_option maxRecDepth 65536 in
theorem w_c3 : (Jvm.Cond.code ({ cls := "java/lang/String", name := "equals", desc := "(Ljava/lang/Object;)Z" } : Jvm.MethodName) jdk_42_method_66_code (3 : Nat) (Option.some Jvm.ClassFile.FieldType.boolean)).before args0 about1 = true := code_word (m := ⟨9, 1⟩) (meth := k9m1) (c := k9c1) (by decide +kernel) rfl rfl rfl (by decide +kernel)
set_option maxRecDepth 65536 in
theorem w_c4 : (Jvm.Cond.code ({ cls := "java/lang/StringLatin1", name := "equals", desc := "([B[B)Z" } : Jvm.MethodName) jdk_43_method_13_code (3 : Nat) (Option.some Jvm.ClassFile.FieldType.boolean)).before args0 about1 = true := code_word (m := ⟨10, 1⟩) (meth := k10m1) (c := k10c1) (by decide +kernel) rfl rfl rfl (by decide +kernel)
set_option maxRecDepth 65536 in
theorem w_c5 : (Jvm.Cond.code ({ cls := "com/example/preddb/preddb/Program$ArithmeticOperator", name := "apply", desc := "(JJ)J" } : Jvm.MethodName) prog_23_method_7_code (5 : Nat) (Option.some Jvm.ClassFile.FieldType.long)).before args0 about1 = true := code_word (m := ⟨6, 3⟩) (meth := k6m3) (c := k6c3) (by decide +kernel) rfl rfl rfl (by decide +kernel)
set_option maxRecDepth 65536 in
theorem w_c6 : (Jvm.Cond.code ({ cls := "java/lang/Enum", name := "ordinal", desc := "()I" } : Jvm.MethodName) jdk_37_method_2_code (1 : Nat) (Option.some Jvm.ClassFile.FieldType.int)).before args0 about1 = true := code_word (m := ⟨5, 0⟩) (meth := k5m0) (c := k5c0) (by decide +kernel) rfl rfl rfl (by decide +kernel)
set_option maxRecDepth 65536 in
theorem w_c7 : (Jvm.Cond.code ({ cls := "com/example/preddb/preddb/Program$ArithmeticOperator", name := "level", desc := "()I" } : Jvm.MethodName) prog_23_method_5_code (1 : Nat) (Option.some Jvm.ClassFile.FieldType.int)).before args0 about1 = true := code_word (m := ⟨6, 1⟩) (meth := k6m1) (c := k6c1) (by decide +kernel) rfl rfl rfl (by decide +kernel)
def codes1 : List Jvm.Cond := [Jvm.Cond.code x code maxLocals ret, Jvm.Cond.code ({ cls := "com/example/preddb/preddb/Program$ArithmeticOperator", name := "divides", desc := "()Z" } : Jvm.MethodName) prog_23_method_6_code (1 : Nat) (Option.some Jvm.ClassFile.FieldType.boolean), Jvm.Cond.code ({ cls := "com/example/preddb/preddb/Program$ArithmeticOperator", name := "token", desc := "()Ljava/lang/String;" } : Jvm.MethodName) prog_23_method_4_code (1 : Nat) (Option.some (Jvm.ClassFile.FieldType.object "java/lang/String")), Jvm.Cond.code ({ cls := "java/lang/String", name := "equals", desc := "(Ljava/lang/Object;)Z" } : Jvm.MethodName) jdk_42_method_66_code (3 : Nat) (Option.some Jvm.ClassFile.FieldType.boolean), Jvm.Cond.code ({ cls := "java/lang/StringLatin1", name := "equals", desc := "([B[B)Z" } : Jvm.MethodName) jdk_43_method_13_code (3 : Nat) (Option.some Jvm.ClassFile.FieldType.boolean), Jvm.Cond.code ({ cls := "com/example/preddb/preddb/Program$ArithmeticOperator", name := "apply", desc := "(JJ)J" } : Jvm.MethodName) prog_23_method_7_code (5 : Nat) (Option.some Jvm.ClassFile.FieldType.long), Jvm.Cond.code ({ cls := "java/lang/Enum", name := "ordinal", desc := "()I" } : Jvm.MethodName) jdk_37_method_2_code (1 : Nat) (Option.some Jvm.ClassFile.FieldType.int), Jvm.Cond.code ({ cls := "com/example/preddb/preddb/Program$ArithmeticOperator", name := "level", desc := "()I" } : Jvm.MethodName) prog_23_method_5_code (1 : Nat) (Option.some Jvm.ClassFile.FieldType.int)]
set_option maxRecDepth 65536 in
theorem codes_eq : words1.filter isCode = codes1 := rfl
theorem w_codes : ∀ c ∈ words1.filter isCode, c.before args0 about1 = true := by
  rw [codes_eq]
  intro c hc
  simp only [codes1, List.mem_cons, List.not_mem_nil, or_false] at hc
  rcases hc with rfl | rfl | rfl | rfl | rfl | rfl | rfl | rfl
  · exact w_c0
  · exact w_c1
  · exact w_c2
  · exact w_c3
  · exact w_c4
  · exact w_c5
  · exact w_c6
  · exact w_c7
set_option maxRecDepth 65536 in
theorem w_t1 : (words1.take 24).all (fun c => isCode c || c.before args0 about1) = true := by decide +kernel
set_option maxRecDepth 65536 in
theorem w_t2 : ((words1.drop 24).take 24).all (fun c => isCode c || c.before args0 about1) = true := by decide +kernel
set_option maxRecDepth 65536 in
theorem w_t3 : (((words1.drop 24).drop 24).take 24).all (fun c => isCode c || c.before args0 about1) = true := by decide +kernel
set_option maxRecDepth 65536 in
theorem w_t4 : (((words1.drop 24).drop 24).drop 24).all (fun c => isCode c || c.before args0 about1) = true := by decide +kernel
theorem w_tables : (allAtoms (Jvm.Cond.code x code maxLocals ret :: tables_1)).before args0 about1 = true := by
  rw [allAtoms_all]
  show words1.all (fun c => c.before args0 about1) = true
  refine all_split ?_ w_codes
  rw [← List.take_append_drop 24 words1, List.all_append, w_t1, ← List.take_append_drop 24 (words1.drop 24), List.all_append, w_t2, ← List.take_append_drop 24 ((words1.drop 24).drop 24), List.all_append, w_t3, w_t4]
  rfl
set_option maxRecDepth 65536 in
theorem w_rest : rest_1_c.before args0 about1 = true := by decide +kernel
set_option maxRecDepth 65536 in
theorem w_case : (Jvm.Cond.and given_1 narrow_1).before args0 about1 = true := by decide +kernel
set_option maxRecDepth 65536 in
theorem w_consts : constsHeld consts_1 about1 := Jvm.Lit.constsHeldB_iff.mp (by decide +kernel)
theorem w_applies : (headSpec (Jvm.Cond.code x code maxLocals ret :: tables_1) room_1).applies x e0.platform about1 = true :=
  (Spec.applies_iff w_frames).mpr ⟨w_running, w_runnable, w_alone, w_named, w_hears, w_ripe, w_room, w_tables⟩
theorem atStart : AtStart classFile x code maxLocals ret World_1 tables_1 room_1 Calls_1 rest_1 Pre_1 launch0 p0 e0 about1 theMethod args0 below0 :=
  ⟨lists_1, trivial, launch0.admits_env _ _ _, launch0.least_env, fairChoices_fair.cas, fairChoices_fair.clock, w_frames, w_args, w_heap, w_applies, ⟨w_consts, trivial⟩, w_rest, w_case⟩
end start1
theorem witness_1 : WitnessClaimed_1 := ⟨start1.p0, start1.e0, start1.about1, start1.theMethod, start1.args0, start1.below0, start1.atStart⟩
end Jvm.Pilot.@@N@@
