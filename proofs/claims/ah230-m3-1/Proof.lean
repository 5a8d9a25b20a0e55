import JvmDerived
import JvmDerived.Pilot.@@N@@Statement
import JvmDerived.Pilot.@@N@@Code
set_option linter.unusedVariables false
set_option linter.unusedSimpArgs false
namespace Jvm.RoadKit
open Sem ClassFile Op Lib Jvm.Stand Jvm.Free Jvm.LawKit
section New
variable {p : Program} {l : Launch} {e : Env} {R : Room} {s : State} {m : MethodId} {args : Array Value} {below : List Frame} {meth : Method} {c : Code} {T : State} {locs : List Loc} {cells slots : Nat}
theorem retI (X : Stand p l e R s m args below meth c T locs cells slots) (hx : p.tables.exec = Jvm.exec) {pc : Nat} {Ls : Array Slot} {z : Int32} {rest : List Value} (hret : meth.sig.returnType = some .int) (hd : decode c.code pc = .ok (.ireturn, 1)) {fs : List Frame}
    (hl : ∀ (f : JFrame) (acts : List Action), f.method = m → f.locked = none → f.entered = [] → (doReturn e (T.setTop f) acts (some (.int z))).1 = T.setFrames fs) : Steps p.tables e below (T.setTop (mkF m pc Ls (.int z :: rest))) (T.setFrames fs) := by
  have hm' : T.vm.method? m = some meth := X.method'
  have hn : narrow .int (.int z) = .int z := rfl
  show Steps p.tables e below (T.setTop { method := m, pc := pc, locals := Ls, stack := _ :: rest, locked := none }) _
  jvm_step X.here [X.here.top, hx, hd, hm', hret, hn]
  first | (intro acts; rw [hl _ acts rfl rfl rfl]) | rw [hl _ _ rfl rfl rfl]
  exact Steps.refl _
end New
end Jvm.RoadKit

@@BLOCK:NumsL.lean.txt@@

namespace Jvm.Pilot.@@N@@
open Jvm Jvm.ClassFile Sem Op Lib Jvm.Free Jvm.Stand Jvm.LawKit Jvm.RoadKit Bundle Jvm.Pilot.@@N@@.Jvm.D
def own_at (L : List Int32) (j : Int32) : Int32 := L.getD j.toNatClampNeg 0
theorem own_getD (L : List Int32) (i : Nat) : (L.map Value.int).getD i (.int (0 : Int32)) = .int (L.getD i 0) := by
  induction L generalizing i with
  | nil => rfl
  | cons a t ih => cases i with
    | zero => rfl
    | succ i => exact ih i

theorem own_eqI {a b : Int32} : a = b ↔ a.toInt = b.toInt := Int32.toInt_inj.symm
theorem own_ltI {a b : Int32} : a < b ↔ a.toInt < b.toInt := Int32.lt_iff_toInt_lt
theorem own_bd (a : Int32) : -2147483648 ≤ a.toInt ∧ a.toInt < 2147483648 := ⟨Int32.le_toInt a, Int32.toInt_lt a⟩
theorem own_tdiv (x m : Int) (hm : 0 < m) : (0 ≤ x → x.tdiv m = x / m ∧ x.tmod m = x % m) ∧ (x < 0 → x.tdiv m = -((-x) / m) ∧ x.tmod m = -((-x) % m)) := by
  refine ⟨fun h => ⟨Int.tdiv_eq_ediv_of_nonneg h, Int.tmod_eq_emod_of_nonneg h⟩, fun h => ?_⟩
  have h1 : x = -(-x) := by omega
  have a1 : (-(-x)).tdiv m = -((-x).tdiv m) := Int.neg_tdiv ..
  have a2 : (-(-x)).tmod m = -((-x).tmod m) := Int.neg_tmod ..
  rw [← h1] at a1 a2
  rw [a1, a2, Int.tdiv_eq_ediv_of_nonneg (by omega), Int.tmod_eq_emod_of_nonneg (by omega)]
  exact ⟨rfl, rfl⟩
theorem own_dm (a k : Int32) (hk : 1 < k.toInt) : (0 ≤ a.toInt → (a / k).toInt = a.toInt / k.toInt ∧ (a % k).toInt = a.toInt % k.toInt) ∧ (a.toInt < 0 → (a / k).toInt = -((-a.toInt) / k.toInt) ∧ (a % k).toInt = -((-a.toInt) % k.toInt)) := by
  have e1 : (a / k).toInt = a.toInt.tdiv k.toInt := Jvm.Kit.i32_div (fun h => by omega)
  have e2 : (a % k).toInt = a.toInt.tmod k.toInt := Jvm.Kit.i32_rem a k
  rw [e1, e2]
  exact own_tdiv _ _ (by omega)

theorem d1_0 : decode method_2_code 0 = .ok (.iload_n 0, 1) := by decide +kernel
theorem d1_1 : decode method_2_code 1 = .ok (.iload_n 1, 1) := by decide +kernel
theorem d1_2 : decode method_2_code 2 = .ok (.if_icmp .lt 12, 3) := by decide +kernel
theorem d1_5 : decode method_2_code 5 = .ok (.iload_n 0, 1) := by decide +kernel
theorem d1_6 : decode method_2_code 6 = .ok (.iload_n 2, 1) := by decide +kernel
theorem d1_7 : decode method_2_code 7 = .ok (.if_icmp .gt 7, 3) := by decide +kernel
theorem d1_10 : decode method_2_code 10 = .ok (.iconst 1, 1) := by decide +kernel
theorem d1_11 : decode method_2_code 11 = .ok (.goto 4, 3) := by decide +kernel
theorem d1_14 : decode method_2_code 14 = .ok (.iconst 0, 1) := by decide +kernel
theorem d1_15 : decode method_2_code 15 = .ok (.ireturn, 1) := by decide +kernel
theorem pn_1 : plainName "com/example/lofu/lofu/text/IriCharactersIsPrivatePinLaw" = true := by first | (simp [plainName, overriddenIn]; done) | decide +kernel
theorem ef_1 (m : MethodId) (p1 : Int32) (p2 : Int32) (p3 : Int32) : entryFrame m #[(.int p1), (.int p2), (.int p3)] 3 = mkF m 0 #[.val (.int p1), .val (.int p2), .val (.int p3)] [] := by first | (simp [entryFrame, mkF, argsToLocals, Value.category]; done) | rfl
def F1 (p1 : Int32) (p2 : Int32) (p3 : Int32) : Int32 := (if p1 < p2 then (0 : Int32) else (if p3 < p1 then (0 : Int32) else (1 : Int32)))
def Q1 (Z : State) (p1 : Int32) (p2 : Int32) (p3 : Int32) (h0 : Heap) (n0 : Nat) (v : Option Value) (h : Heap) (L : List Loc) : Prop := v = some (.int (F1 p1 p2 p3)) ∧ Fr n0 L ∧ h = h0
set_option maxRecDepth 65536 in
set_option maxHeartbeats 40000000 in
theorem rm1 (l : Launch) (Z : State) (a0 : Array Value) (hw : ∀ d ∈ tables_1, d.before a0 Z = true) (ws : List Jvm.Cond) (p1 : Int32) (p2 : Int32) (p3 : Int32) (h0 : Heap) (n0 : Nat) (Z0 : n0 ≤ h0.size) :
    MetFree l (⟨"com/example/lofu/lofu/text/IriCharactersIsPrivatePinLaw", "inRange", "(III)Z"⟩ : MethodName) (head1 (Jvm.Cond.code (⟨"com/example/lofu/lofu/text/IriCharactersIsPrivatePinLaw", "inRange", "(III)Z"⟩ : MethodName) method_2_code 3 (some .boolean) :: ws) ({ frames := 0, cells := 0, slots := 0, locals := 0 } : Room)) (fun a U => a = #[(.int p1), (.int p2), (.int p3)] ∧ Z.Warmed39 U.vm ∧ U.heap = h0) (fun _ _ _ _ _ => True) (fun _ U o U' => ∃ v L, o = .returned v ∧ Q1 Z p1 p2 p3 h0 n0 v U'.heap L ∧ FrameEnd U o U' L ({ frames := 0, cells := 0, slots := 0, locals := 0 } : Room).cells ({ frames := 0, cells := 0, slots := 0, locals := 0 } : Room).slots) := by
  refine MetFree.of_bodySF (plainFor_of_name pn_1) hisR ?_
  intro p e s m args below meth c s₁ Bd hml0 hP hK
  obtain ⟨rfl, hZ, hh⟩ := hP
  have hx := Bd.exec
  have hby := Bd.bytes
  have hml : c.maxLocals = 3 := hml0
  have hown : s.vm.findClass "com/example/lofu/lofu/text/IriCharactersIsPrivatePinLaw" = some m.cls := findClass_of_methodNamed Bd.named
  have hnm := (name_of_methodNamed Bd.named Bd.method).1
  have X0 : Stand p l e ({ frames := 0, cells := 0, slots := 0, locals := 0 } : Room) s m #[(.int p1), (.int p2), (.int p3)] below meth c s₁ [] 0 0 := Stand.of_body Bd
  have e0 : s₁.heap = h0 := by rw [← hh, Bd.state]; rfl
  have N0 := Fr.nil n0
  have pre0 : ∀ t, Steps p.tables e below (s₁.setTop (mkF m 0 #[.val (.int p1), .val (.int p2), .val (.int p3)] [])) t → Steps p.tables e below (s₁.setTop (entryFrame m #[(.int p1), (.int p2), (.int p3)] 3)) t := fun t k => castTop (ef_1 m p1 p2 p3) k
  have pre1 : ∀ t, Steps p.tables e below (s₁.setTop (mkF m 2 #[.val (.int p1), .val (.int p2), .val (.int p3)] [(.int p2), (.int p1)])) t → Steps p.tables e below (s₁.setTop (entryFrame m #[(.int p1), (.int p2), (.int p3)] 3)) t := fun t kt => by
    refine pre0 t ?_
    show Steps p.tables e below (s₁.setTop (mkF m 0 #[.val (.int p1), .val (.int p2), .val (.int p3)] [])) _
    refine XS.iloadN X0.here hx rfl (hb hby d1_0) rfl ?_
    show Steps p.tables e below (s₁.setTop (mkF m 1 #[.val (.int p1), .val (.int p2), .val (.int p3)] [(.int p1)])) _
    refine XS.iloadN X0.here hx rfl (hb hby d1_1) rfl ?_
    exact kt
  by_cases hc2 : p1 < p2
  · obtain ⟨fs, hr, hrun, hended, hW, hsame⟩ := X0.leave (v := some (.int (0 : Int32))) (fun h => by rw [Bd.returns] at h; cases h)
    refine ⟨_, _, pre1 _ ?_, hrun, hended, _, _, rfl, ?_, ⟨_, rfl⟩, hW, hsame.mono (by decide) (by decide)⟩
    · show Steps p.tables e below (s₁.setTop (mkF m 2 #[.val (.int p1), .val (.int p2), .val (.int p3)] [(.int p2), (.int p1)])) _
      refine XS.icmpYes X0.here hx rfl (pc0 := 2) (pc' := 14) rfl (hb hby d1_2) rfl (tlt hc2).1 (by decide) (by decide) ?_
      show Steps p.tables e below (s₁.setTop (mkF m 14 #[.val (.int p1), .val (.int p2), .val (.int p3)] [])) _
      refine XS.iconst X0.here hx rfl (hb hby d1_14) ?_
      show Steps p.tables e below (s₁.setTop (mkF m 15 #[.val (.int p1), .val (.int p2), .val (.int p3)] [(.int (0 : Int32))])) _
      exact retN X0 hx (t := .boolean) Bd.returns (by simp) (hb hby d1_15) hr
    · show Q1 Z p1 p2 p3 h0 n0 _ s₁.heap _
      rw [e0]
      refine ⟨?_, N0, rfl⟩
      show (some (.int (0 : Int32)) : Option Value) = some (.int (F1 p1 p2 p3))
      rw [F1, if_pos hc2]
  · have pre3 : ∀ t, Steps p.tables e below (s₁.setTop (mkF m 7 #[.val (.int p1), .val (.int p2), .val (.int p3)] [(.int p3), (.int p1)])) t → Steps p.tables e below (s₁.setTop (entryFrame m #[(.int p1), (.int p2), (.int p3)] 3)) t := fun t kt => by
      refine pre1 t ?_
      show Steps p.tables e below (s₁.setTop (mkF m 2 #[.val (.int p1), .val (.int p2), .val (.int p3)] [(.int p2), (.int p1)])) _
      refine XS.icmpNo X0.here hx rfl (hb hby d1_2) rfl (flt hc2).1 ?_
      show Steps p.tables e below (s₁.setTop (mkF m 5 #[.val (.int p1), .val (.int p2), .val (.int p3)] [])) _
      refine XS.iloadN X0.here hx rfl (hb hby d1_5) rfl ?_
      show Steps p.tables e below (s₁.setTop (mkF m 6 #[.val (.int p1), .val (.int p2), .val (.int p3)] [(.int p1)])) _
      refine XS.iloadN X0.here hx rfl (hb hby d1_6) rfl ?_
      exact kt
    by_cases hc4 : p3 < p1
    · obtain ⟨fs, hr, hrun, hended, hW, hsame⟩ := X0.leave (v := some (.int (0 : Int32))) (fun h => by rw [Bd.returns] at h; cases h)
      refine ⟨_, _, pre3 _ ?_, hrun, hended, _, _, rfl, ?_, ⟨_, rfl⟩, hW, hsame.mono (by decide) (by decide)⟩
      · show Steps p.tables e below (s₁.setTop (mkF m 7 #[.val (.int p1), .val (.int p2), .val (.int p3)] [(.int p3), (.int p1)])) _
        refine XS.icmpYes X0.here hx rfl (pc0 := 7) (pc' := 14) rfl (hb hby d1_7) rfl (tlt hc4).2.2.1 (by decide) (by decide) ?_
        show Steps p.tables e below (s₁.setTop (mkF m 14 #[.val (.int p1), .val (.int p2), .val (.int p3)] [])) _
        refine XS.iconst X0.here hx rfl (hb hby d1_14) ?_
        show Steps p.tables e below (s₁.setTop (mkF m 15 #[.val (.int p1), .val (.int p2), .val (.int p3)] [(.int (0 : Int32))])) _
        exact retN X0 hx (t := .boolean) Bd.returns (by simp) (hb hby d1_15) hr
      · show Q1 Z p1 p2 p3 h0 n0 _ s₁.heap _
        rw [e0]
        refine ⟨?_, N0, rfl⟩
        show (some (.int (0 : Int32)) : Option Value) = some (.int (F1 p1 p2 p3))
        rw [F1, if_neg hc2, if_pos hc4]
    · obtain ⟨fs, hr, hrun, hended, hW, hsame⟩ := X0.leave (v := some (.int (1 : Int32))) (fun h => by rw [Bd.returns] at h; cases h)
      refine ⟨_, _, pre3 _ ?_, hrun, hended, _, _, rfl, ?_, ⟨_, rfl⟩, hW, hsame.mono (by decide) (by decide)⟩
      · show Steps p.tables e below (s₁.setTop (mkF m 7 #[.val (.int p1), .val (.int p2), .val (.int p3)] [(.int p3), (.int p1)])) _
        refine XS.icmpNo X0.here hx rfl (hb hby d1_7) rfl (flt hc4).2.2.1 ?_
        show Steps p.tables e below (s₁.setTop (mkF m 10 #[.val (.int p1), .val (.int p2), .val (.int p3)] [])) _
        refine XS.iconst X0.here hx rfl (hb hby d1_10) ?_
        show Steps p.tables e below (s₁.setTop (mkF m 11 #[.val (.int p1), .val (.int p2), .val (.int p3)] [(.int (1 : Int32))])) _
        refine XS.goto X0.here hx rfl (pc0 := 11) (pc' := 15) rfl (hb hby d1_11) (by decide) (by decide) ?_
        show Steps p.tables e below (s₁.setTop (mkF m 15 #[.val (.int p1), .val (.int p2), .val (.int p3)] [(.int (1 : Int32))])) _
        exact retN X0 hx (t := .boolean) Bd.returns (by simp) (hb hby d1_15) hr
      · show Q1 Z p1 p2 p3 h0 n0 _ s₁.heap _
        rw [e0]
        refine ⟨?_, N0, rfl⟩
        show (some (.int (1 : Int32)) : Option Value) = some (.int (F1 p1 p2 p3))
        rw [F1, if_neg hc2, if_neg hc4]
theorem d2_0 : decode prog_12_method_3_code 0 = .ok (.iload_n 0, 1) := by decide +kernel
theorem d2_1 : decode prog_12_method_3_code 1 = .ok (.ldc 9, 2) := by decide +kernel
theorem d2_3 : decode prog_12_method_3_code 3 = .ok (.idiv, 1) := by decide +kernel
theorem d2_4 : decode prog_12_method_3_code 4 = .ok (.istore_n 1, 1) := by decide +kernel
theorem d2_5 : decode prog_12_method_3_code 5 = .ok (.iload_n 0, 1) := by decide +kernel
theorem d2_6 : decode prog_12_method_3_code 6 = .ok (.ldc 9, 2) := by decide +kernel
theorem d2_8 : decode prog_12_method_3_code 8 = .ok (.irem, 1) := by decide +kernel
theorem d2_9 : decode prog_12_method_3_code 9 = .ok (.istore_n 2, 1) := by decide +kernel
theorem d2_10 : decode prog_12_method_3_code 10 = .ok (.iload_n 1, 1) := by decide +kernel
theorem d2_11 : decode prog_12_method_3_code 11 = .ok (.ifCond .ne 24, 3) := by decide +kernel
theorem d2_14 : decode prog_12_method_3_code 14 = .ok (.iload_n 0, 1) := by decide +kernel
theorem d2_15 : decode prog_12_method_3_code 15 = .ok (.ldc 16, 2) := by decide +kernel
theorem d2_17 : decode prog_12_method_3_code 17 = .ok (.if_icmp .lt 13, 3) := by decide +kernel
theorem d2_20 : decode prog_12_method_3_code 20 = .ok (.iload_n 0, 1) := by decide +kernel
theorem d2_21 : decode prog_12_method_3_code 21 = .ok (.ldc 17, 2) := by decide +kernel
theorem d2_23 : decode prog_12_method_3_code 23 = .ok (.if_icmp .gt 7, 3) := by decide +kernel
theorem d2_26 : decode prog_12_method_3_code 26 = .ok (.iconst 1, 1) := by decide +kernel
theorem d2_27 : decode prog_12_method_3_code 27 = .ok (.goto 4, 3) := by decide +kernel
theorem d2_30 : decode prog_12_method_3_code 30 = .ok (.iconst 0, 1) := by decide +kernel
theorem d2_31 : decode prog_12_method_3_code 31 = .ok (.istore_n 3, 1) := by decide +kernel
theorem d2_32 : decode prog_12_method_3_code 32 = .ok (.goto 27, 3) := by decide +kernel
theorem d2_35 : decode prog_12_method_3_code 35 = .ok (.iload_n 1, 1) := by decide +kernel
theorem d2_36 : decode prog_12_method_3_code 36 = .ok (.bipush 15, 2) := by decide +kernel
theorem d2_38 : decode prog_12_method_3_code 38 = .ok (.if_icmp .eq 9, 3) := by decide +kernel
theorem d2_41 : decode prog_12_method_3_code 41 = .ok (.iload_n 1, 1) := by decide +kernel
theorem d2_42 : decode prog_12_method_3_code 42 = .ok (.bipush 16, 2) := by decide +kernel
theorem d2_44 : decode prog_12_method_3_code 44 = .ok (.if_icmp .ne 13, 3) := by decide +kernel
theorem d2_47 : decode prog_12_method_3_code 47 = .ok (.iload_n 2, 1) := by decide +kernel
theorem d2_48 : decode prog_12_method_3_code 48 = .ok (.ldc 15, 2) := by decide +kernel
theorem d2_50 : decode prog_12_method_3_code 50 = .ok (.if_icmp .gt 7, 3) := by decide +kernel
theorem d2_53 : decode prog_12_method_3_code 53 = .ok (.iconst 1, 1) := by decide +kernel
theorem d2_54 : decode prog_12_method_3_code 54 = .ok (.goto 4, 3) := by decide +kernel
theorem d2_57 : decode prog_12_method_3_code 57 = .ok (.iconst 0, 1) := by decide +kernel
theorem d2_58 : decode prog_12_method_3_code 58 = .ok (.istore_n 3, 1) := by decide +kernel
theorem d2_59 : decode prog_12_method_3_code 59 = .ok (.iload_n 3, 1) := by decide +kernel
theorem d2_60 : decode prog_12_method_3_code 60 = .ok (.ireturn, 1) := by decide +kernel
theorem pn_2 : plainName "com/example/lofu/lofu/text/IriCharacters" = true := by first | (simp [plainName, overriddenIn]; done) | decide +kernel
theorem ef_2 (m : MethodId) (p1 : Int32) : entryFrame m #[(.int p1)] 4 = mkF m 0 #[.val (.int p1), .unset, .unset, .unset] [] := by first | (simp [entryFrame, mkF, argsToLocals, Value.category]; done) | rfl
def F2 (p1 : Int32) : Int32 := (if (p1 / (65536 : Int32)) = (0 : Int32) then (if p1 < (57344 : Int32) then (0 : Int32) else (if (63743 : Int32) < p1 then (0 : Int32) else (1 : Int32))) else (if (p1 / (65536 : Int32)) = (15 : Int32) then (if (65533 : Int32) < (p1 % (65536 : Int32)) then (0 : Int32) else (1 : Int32)) else (if (p1 / (65536 : Int32)) = (16 : Int32) then (if (65533 : Int32) < (p1 % (65536 : Int32)) then (0 : Int32) else (1 : Int32)) else (0 : Int32))))
def Q2 (Z : State) (p1 : Int32) (h0 : Heap) (n0 : Nat) (v : Option Value) (h : Heap) (L : List Loc) : Prop := v = some (.int (F2 p1)) ∧ Fr n0 L ∧ h = h0
set_option maxRecDepth 65536 in
set_option maxHeartbeats 40000000 in
theorem rm2 (l : Launch) (Z : State) (a0 : Array Value) (hw : ∀ d ∈ tables_1, d.before a0 Z = true) (ws : List Jvm.Cond) (p1 : Int32) (h0 : Heap) (n0 : Nat) (Z0 : n0 ≤ h0.size) :
    MetFree l (⟨"com/example/lofu/lofu/text/IriCharacters", "isPrivate", "(I)Z"⟩ : MethodName) (head1 (Jvm.Cond.code (⟨"com/example/lofu/lofu/text/IriCharacters", "isPrivate", "(I)Z"⟩ : MethodName) prog_12_method_3_code 4 (some .boolean) :: ws) ({ frames := 0, cells := 0, slots := 0, locals := 0 } : Room)) (fun a U => a = #[(.int p1)] ∧ Z.Warmed39 U.vm ∧ U.heap = h0) (fun _ _ _ _ _ => True) (fun _ U o U' => ∃ v L, o = .returned v ∧ Q2 Z p1 h0 n0 v U'.heap L ∧ FrameEnd U o U' L ({ frames := 0, cells := 0, slots := 0, locals := 0 } : Room).cells ({ frames := 0, cells := 0, slots := 0, locals := 0 } : Room).slots) := by
  refine MetFree.of_bodySF (plainFor_of_name pn_2) hisR ?_
  intro p e s m args below meth c s₁ Bd hml0 hP hK
  obtain ⟨rfl, hZ, hh⟩ := hP
  have hx := Bd.exec
  have hby := Bd.bytes
  have hml : c.maxLocals = 4 := hml0
  have hown : s.vm.findClass "com/example/lofu/lofu/text/IriCharacters" = some m.cls := findClass_of_methodNamed Bd.named
  have hnm := (name_of_methodNamed Bd.named Bd.method).1
  have X0 : Stand p l e ({ frames := 0, cells := 0, slots := 0, locals := 0 } : Room) s m #[(.int p1)] below meth c s₁ [] 0 0 := Stand.of_body Bd
  have e0 : s₁.heap = h0 := by rw [← hh, Bd.state]; rfl
  have N0 := Fr.nil n0
  have pre0 : ∀ t, Steps p.tables e below (s₁.setTop (mkF m 0 #[.val (.int p1), .unset, .unset, .unset] [])) t → Steps p.tables e below (s₁.setTop (entryFrame m #[(.int p1)] 4)) t := fun t k => castTop (ef_2 m p1) k
  have pre1 : ∀ t, Steps p.tables e below (s₁.setTop (mkF m 11 #[.val (.int p1), .val (.int (p1 / (65536 : Int32))), .val (.int (p1 % (65536 : Int32))), .unset] [(.int (p1 / (65536 : Int32)))])) t → Steps p.tables e below (s₁.setTop (entryFrame m #[(.int p1)] 4)) t := fun t kt => by
    refine pre0 t ?_
    show Steps p.tables e below (s₁.setTop (mkF m 0 #[.val (.int p1), .unset, .unset, .unset] [])) _
    refine XS.iloadN X0.here hx rfl (hb hby d2_0) rfl ?_
    show Steps p.tables e below (s₁.setTop (mkF m 1 #[.val (.int p1), .unset, .unset, .unset] [(.int p1)])) _
    refine X0.ldcInt hx hown (mvT hZ (hw _ (List.mem_of_getElem? (i := 14) rfl))) (g := (mkF m 1 #[.val (.int p1), .unset, .unset, .unset] [(.int p1)])) rfl (hb hby d2_1) _ ?_
    show Steps p.tables e below (s₁.setTop (mkF m 3 #[.val (.int p1), .unset, .unset, .unset] [(.int (65536 : Int32)), (.int p1)])) _
    refine XS.idiv X0.here hx rfl (hb hby d2_3) rfl (by decide) ?_
    show Steps p.tables e below (s₁.setTop (mkF m 4 #[.val (.int p1), .unset, .unset, .unset] [(.int (p1 / (65536 : Int32)))])) _
    refine XS.istoreN X0.here hx rfl (hb hby d2_4) rfl (l' := #[.val (.int p1), .val (.int (p1 / (65536 : Int32))), .unset, .unset]) rfl ?_
    show Steps p.tables e below (s₁.setTop (mkF m 5 #[.val (.int p1), .val (.int (p1 / (65536 : Int32))), .unset, .unset] [])) _
    refine XS.iloadN X0.here hx rfl (hb hby d2_5) rfl ?_
    show Steps p.tables e below (s₁.setTop (mkF m 6 #[.val (.int p1), .val (.int (p1 / (65536 : Int32))), .unset, .unset] [(.int p1)])) _
    refine X0.ldcInt hx hown (mvT hZ (hw _ (List.mem_of_getElem? (i := 14) rfl))) (g := (mkF m 6 #[.val (.int p1), .val (.int (p1 / (65536 : Int32))), .unset, .unset] [(.int p1)])) rfl (hb hby d2_6) _ ?_
    show Steps p.tables e below (s₁.setTop (mkF m 8 #[.val (.int p1), .val (.int (p1 / (65536 : Int32))), .unset, .unset] [(.int (65536 : Int32)), (.int p1)])) _
    refine iremM X0 hx rfl (hb hby d2_8) rfl (by decide) ?_
    show Steps p.tables e below (s₁.setTop (mkF m 9 #[.val (.int p1), .val (.int (p1 / (65536 : Int32))), .unset, .unset] [(.int (p1 % (65536 : Int32)))])) _
    refine XS.istoreN X0.here hx rfl (hb hby d2_9) rfl (l' := #[.val (.int p1), .val (.int (p1 / (65536 : Int32))), .val (.int (p1 % (65536 : Int32))), .unset]) rfl ?_
    show Steps p.tables e below (s₁.setTop (mkF m 10 #[.val (.int p1), .val (.int (p1 / (65536 : Int32))), .val (.int (p1 % (65536 : Int32))), .unset] [])) _
    refine XS.iloadN X0.here hx rfl (hb hby d2_10) rfl ?_
    exact kt
  by_cases hc2 : (p1 / (65536 : Int32)) = (0 : Int32)
  · have pre3 : ∀ t, Steps p.tables e below (s₁.setTop (mkF m 17 #[.val (.int p1), .val (.int (p1 / (65536 : Int32))), .val (.int (p1 % (65536 : Int32))), .unset] [(.int (57344 : Int32)), (.int p1)])) t → Steps p.tables e below (s₁.setTop (entryFrame m #[(.int p1)] 4)) t := fun t kt => by
      refine pre1 t ?_
      show Steps p.tables e below (s₁.setTop (mkF m 11 #[.val (.int p1), .val (.int (p1 / (65536 : Int32))), .val (.int (p1 % (65536 : Int32))), .unset] [(.int (p1 / (65536 : Int32)))])) _
      refine XS.ifNo X0.here hx rfl (hb hby d2_11) rfl ((if0 _ _).trans (teq hc2).2) ?_
      show Steps p.tables e below (s₁.setTop (mkF m 14 #[.val (.int p1), .val (.int (p1 / (65536 : Int32))), .val (.int (p1 % (65536 : Int32))), .unset] [])) _
      refine XS.iloadN X0.here hx rfl (hb hby d2_14) rfl ?_
      show Steps p.tables e below (s₁.setTop (mkF m 15 #[.val (.int p1), .val (.int (p1 / (65536 : Int32))), .val (.int (p1 % (65536 : Int32))), .unset] [(.int p1)])) _
      refine X0.ldcInt hx hown (mvT hZ (hw _ (List.mem_of_getElem? (i := 15) rfl))) (g := (mkF m 15 #[.val (.int p1), .val (.int (p1 / (65536 : Int32))), .val (.int (p1 % (65536 : Int32))), .unset] [(.int p1)])) rfl (hb hby d2_15) _ ?_
      exact kt
    by_cases hc4 : p1 < (57344 : Int32)
    · obtain ⟨fs, hr, hrun, hended, hW, hsame⟩ := X0.leave (v := some (.int (0 : Int32))) (fun h => by rw [Bd.returns] at h; cases h)
      refine ⟨_, _, pre3 _ ?_, hrun, hended, _, _, rfl, ?_, ⟨_, rfl⟩, hW, hsame.mono (by decide) (by decide)⟩
      · show Steps p.tables e below (s₁.setTop (mkF m 17 #[.val (.int p1), .val (.int (p1 / (65536 : Int32))), .val (.int (p1 % (65536 : Int32))), .unset] [(.int (57344 : Int32)), (.int p1)])) _
        refine XS.icmpYes X0.here hx rfl (pc0 := 17) (pc' := 30) rfl (hb hby d2_17) rfl (tlt hc4).1 (by decide) (by decide) ?_
        show Steps p.tables e below (s₁.setTop (mkF m 30 #[.val (.int p1), .val (.int (p1 / (65536 : Int32))), .val (.int (p1 % (65536 : Int32))), .unset] [])) _
        refine XS.iconst X0.here hx rfl (hb hby d2_30) ?_
        show Steps p.tables e below (s₁.setTop (mkF m 31 #[.val (.int p1), .val (.int (p1 / (65536 : Int32))), .val (.int (p1 % (65536 : Int32))), .unset] [(.int (0 : Int32))])) _
        refine XS.istoreN X0.here hx rfl (hb hby d2_31) rfl (l' := #[.val (.int p1), .val (.int (p1 / (65536 : Int32))), .val (.int (p1 % (65536 : Int32))), .val (.int (0 : Int32))]) rfl ?_
        show Steps p.tables e below (s₁.setTop (mkF m 32 #[.val (.int p1), .val (.int (p1 / (65536 : Int32))), .val (.int (p1 % (65536 : Int32))), .val (.int (0 : Int32))] [])) _
        refine XS.goto X0.here hx rfl (pc0 := 32) (pc' := 59) rfl (hb hby d2_32) (by decide) (by decide) ?_
        show Steps p.tables e below (s₁.setTop (mkF m 59 #[.val (.int p1), .val (.int (p1 / (65536 : Int32))), .val (.int (p1 % (65536 : Int32))), .val (.int (0 : Int32))] [])) _
        refine XS.iloadN X0.here hx rfl (hb hby d2_59) rfl ?_
        show Steps p.tables e below (s₁.setTop (mkF m 60 #[.val (.int p1), .val (.int (p1 / (65536 : Int32))), .val (.int (p1 % (65536 : Int32))), .val (.int (0 : Int32))] [(.int (0 : Int32))])) _
        exact retN X0 hx (t := .boolean) Bd.returns (by simp) (hb hby d2_60) hr
      · show Q2 Z p1 h0 n0 _ s₁.heap _
        rw [e0]
        refine ⟨?_, N0, rfl⟩
        show (some (.int (0 : Int32)) : Option Value) = some (.int (F2 p1))
        rw [F2, if_pos hc2, if_pos hc4]
    · have pre5 : ∀ t, Steps p.tables e below (s₁.setTop (mkF m 23 #[.val (.int p1), .val (.int (p1 / (65536 : Int32))), .val (.int (p1 % (65536 : Int32))), .unset] [(.int (63743 : Int32)), (.int p1)])) t → Steps p.tables e below (s₁.setTop (entryFrame m #[(.int p1)] 4)) t := fun t kt => by
        refine pre3 t ?_
        show Steps p.tables e below (s₁.setTop (mkF m 17 #[.val (.int p1), .val (.int (p1 / (65536 : Int32))), .val (.int (p1 % (65536 : Int32))), .unset] [(.int (57344 : Int32)), (.int p1)])) _
        refine XS.icmpNo X0.here hx rfl (hb hby d2_17) rfl (flt hc4).1 ?_
        show Steps p.tables e below (s₁.setTop (mkF m 20 #[.val (.int p1), .val (.int (p1 / (65536 : Int32))), .val (.int (p1 % (65536 : Int32))), .unset] [])) _
        refine XS.iloadN X0.here hx rfl (hb hby d2_20) rfl ?_
        show Steps p.tables e below (s₁.setTop (mkF m 21 #[.val (.int p1), .val (.int (p1 / (65536 : Int32))), .val (.int (p1 % (65536 : Int32))), .unset] [(.int p1)])) _
        refine X0.ldcInt hx hown (mvT hZ (hw _ (List.mem_of_getElem? (i := 16) rfl))) (g := (mkF m 21 #[.val (.int p1), .val (.int (p1 / (65536 : Int32))), .val (.int (p1 % (65536 : Int32))), .unset] [(.int p1)])) rfl (hb hby d2_21) _ ?_
        exact kt
      by_cases hc6 : (63743 : Int32) < p1
      · obtain ⟨fs, hr, hrun, hended, hW, hsame⟩ := X0.leave (v := some (.int (0 : Int32))) (fun h => by rw [Bd.returns] at h; cases h)
        refine ⟨_, _, pre5 _ ?_, hrun, hended, _, _, rfl, ?_, ⟨_, rfl⟩, hW, hsame.mono (by decide) (by decide)⟩
        · show Steps p.tables e below (s₁.setTop (mkF m 23 #[.val (.int p1), .val (.int (p1 / (65536 : Int32))), .val (.int (p1 % (65536 : Int32))), .unset] [(.int (63743 : Int32)), (.int p1)])) _
          refine XS.icmpYes X0.here hx rfl (pc0 := 23) (pc' := 30) rfl (hb hby d2_23) rfl (tlt hc6).2.2.1 (by decide) (by decide) ?_
          show Steps p.tables e below (s₁.setTop (mkF m 30 #[.val (.int p1), .val (.int (p1 / (65536 : Int32))), .val (.int (p1 % (65536 : Int32))), .unset] [])) _
          refine XS.iconst X0.here hx rfl (hb hby d2_30) ?_
          show Steps p.tables e below (s₁.setTop (mkF m 31 #[.val (.int p1), .val (.int (p1 / (65536 : Int32))), .val (.int (p1 % (65536 : Int32))), .unset] [(.int (0 : Int32))])) _
          refine XS.istoreN X0.here hx rfl (hb hby d2_31) rfl (l' := #[.val (.int p1), .val (.int (p1 / (65536 : Int32))), .val (.int (p1 % (65536 : Int32))), .val (.int (0 : Int32))]) rfl ?_
          show Steps p.tables e below (s₁.setTop (mkF m 32 #[.val (.int p1), .val (.int (p1 / (65536 : Int32))), .val (.int (p1 % (65536 : Int32))), .val (.int (0 : Int32))] [])) _
          refine XS.goto X0.here hx rfl (pc0 := 32) (pc' := 59) rfl (hb hby d2_32) (by decide) (by decide) ?_
          show Steps p.tables e below (s₁.setTop (mkF m 59 #[.val (.int p1), .val (.int (p1 / (65536 : Int32))), .val (.int (p1 % (65536 : Int32))), .val (.int (0 : Int32))] [])) _
          refine XS.iloadN X0.here hx rfl (hb hby d2_59) rfl ?_
          show Steps p.tables e below (s₁.setTop (mkF m 60 #[.val (.int p1), .val (.int (p1 / (65536 : Int32))), .val (.int (p1 % (65536 : Int32))), .val (.int (0 : Int32))] [(.int (0 : Int32))])) _
          exact retN X0 hx (t := .boolean) Bd.returns (by simp) (hb hby d2_60) hr
        · show Q2 Z p1 h0 n0 _ s₁.heap _
          rw [e0]
          refine ⟨?_, N0, rfl⟩
          show (some (.int (0 : Int32)) : Option Value) = some (.int (F2 p1))
          rw [F2, if_pos hc2, if_neg hc4, if_pos hc6]
      · obtain ⟨fs, hr, hrun, hended, hW, hsame⟩ := X0.leave (v := some (.int (1 : Int32))) (fun h => by rw [Bd.returns] at h; cases h)
        refine ⟨_, _, pre5 _ ?_, hrun, hended, _, _, rfl, ?_, ⟨_, rfl⟩, hW, hsame.mono (by decide) (by decide)⟩
        · show Steps p.tables e below (s₁.setTop (mkF m 23 #[.val (.int p1), .val (.int (p1 / (65536 : Int32))), .val (.int (p1 % (65536 : Int32))), .unset] [(.int (63743 : Int32)), (.int p1)])) _
          refine XS.icmpNo X0.here hx rfl (hb hby d2_23) rfl (flt hc6).2.2.1 ?_
          show Steps p.tables e below (s₁.setTop (mkF m 26 #[.val (.int p1), .val (.int (p1 / (65536 : Int32))), .val (.int (p1 % (65536 : Int32))), .unset] [])) _
          refine XS.iconst X0.here hx rfl (hb hby d2_26) ?_
          show Steps p.tables e below (s₁.setTop (mkF m 27 #[.val (.int p1), .val (.int (p1 / (65536 : Int32))), .val (.int (p1 % (65536 : Int32))), .unset] [(.int (1 : Int32))])) _
          refine XS.goto X0.here hx rfl (pc0 := 27) (pc' := 31) rfl (hb hby d2_27) (by decide) (by decide) ?_
          show Steps p.tables e below (s₁.setTop (mkF m 31 #[.val (.int p1), .val (.int (p1 / (65536 : Int32))), .val (.int (p1 % (65536 : Int32))), .unset] [(.int (1 : Int32))])) _
          refine XS.istoreN X0.here hx rfl (hb hby d2_31) rfl (l' := #[.val (.int p1), .val (.int (p1 / (65536 : Int32))), .val (.int (p1 % (65536 : Int32))), .val (.int (1 : Int32))]) rfl ?_
          show Steps p.tables e below (s₁.setTop (mkF m 32 #[.val (.int p1), .val (.int (p1 / (65536 : Int32))), .val (.int (p1 % (65536 : Int32))), .val (.int (1 : Int32))] [])) _
          refine XS.goto X0.here hx rfl (pc0 := 32) (pc' := 59) rfl (hb hby d2_32) (by decide) (by decide) ?_
          show Steps p.tables e below (s₁.setTop (mkF m 59 #[.val (.int p1), .val (.int (p1 / (65536 : Int32))), .val (.int (p1 % (65536 : Int32))), .val (.int (1 : Int32))] [])) _
          refine XS.iloadN X0.here hx rfl (hb hby d2_59) rfl ?_
          show Steps p.tables e below (s₁.setTop (mkF m 60 #[.val (.int p1), .val (.int (p1 / (65536 : Int32))), .val (.int (p1 % (65536 : Int32))), .val (.int (1 : Int32))] [(.int (1 : Int32))])) _
          exact retN X0 hx (t := .boolean) Bd.returns (by simp) (hb hby d2_60) hr
        · show Q2 Z p1 h0 n0 _ s₁.heap _
          rw [e0]
          refine ⟨?_, N0, rfl⟩
          show (some (.int (1 : Int32)) : Option Value) = some (.int (F2 p1))
          rw [F2, if_pos hc2, if_neg hc4, if_neg hc6]
  · have pre7 : ∀ t, Steps p.tables e below (s₁.setTop (mkF m 38 #[.val (.int p1), .val (.int (p1 / (65536 : Int32))), .val (.int (p1 % (65536 : Int32))), .unset] [(.int (15 : Int32)), (.int (p1 / (65536 : Int32)))])) t → Steps p.tables e below (s₁.setTop (entryFrame m #[(.int p1)] 4)) t := fun t kt => by
      refine pre1 t ?_
      show Steps p.tables e below (s₁.setTop (mkF m 11 #[.val (.int p1), .val (.int (p1 / (65536 : Int32))), .val (.int (p1 % (65536 : Int32))), .unset] [(.int (p1 / (65536 : Int32)))])) _
      refine XS.ifYes X0.here hx rfl (pc0 := 11) (pc' := 35) rfl (hb hby d2_11) rfl ((if0 _ _).trans (feq hc2).2) (by decide) (by decide) ?_
      show Steps p.tables e below (s₁.setTop (mkF m 35 #[.val (.int p1), .val (.int (p1 / (65536 : Int32))), .val (.int (p1 % (65536 : Int32))), .unset] [])) _
      refine XS.iloadN X0.here hx rfl (hb hby d2_35) rfl ?_
      show Steps p.tables e below (s₁.setTop (mkF m 36 #[.val (.int p1), .val (.int (p1 / (65536 : Int32))), .val (.int (p1 % (65536 : Int32))), .unset] [(.int (p1 / (65536 : Int32)))])) _
      refine XS.bipush X0.here hx rfl (hb hby d2_36) ?_
      exact kt
    by_cases hc8 : (p1 / (65536 : Int32)) = (15 : Int32)
    · have pre9 : ∀ t, Steps p.tables e below (s₁.setTop (mkF m 50 #[.val (.int p1), .val (.int (p1 / (65536 : Int32))), .val (.int (p1 % (65536 : Int32))), .unset] [(.int (65533 : Int32)), (.int (p1 % (65536 : Int32)))])) t → Steps p.tables e below (s₁.setTop (entryFrame m #[(.int p1)] 4)) t := fun t kt => by
        refine pre7 t ?_
        show Steps p.tables e below (s₁.setTop (mkF m 38 #[.val (.int p1), .val (.int (p1 / (65536 : Int32))), .val (.int (p1 % (65536 : Int32))), .unset] [(.int (15 : Int32)), (.int (p1 / (65536 : Int32)))])) _
        refine XS.icmpYes X0.here hx rfl (pc0 := 38) (pc' := 47) rfl (hb hby d2_38) rfl (teq hc8).1 (by decide) (by decide) ?_
        show Steps p.tables e below (s₁.setTop (mkF m 47 #[.val (.int p1), .val (.int (p1 / (65536 : Int32))), .val (.int (p1 % (65536 : Int32))), .unset] [])) _
        refine XS.iloadN X0.here hx rfl (hb hby d2_47) rfl ?_
        show Steps p.tables e below (s₁.setTop (mkF m 48 #[.val (.int p1), .val (.int (p1 / (65536 : Int32))), .val (.int (p1 % (65536 : Int32))), .unset] [(.int (p1 % (65536 : Int32)))])) _
        refine X0.ldcInt hx hown (mvT hZ (hw _ (List.mem_of_getElem? (i := 17) rfl))) (g := (mkF m 48 #[.val (.int p1), .val (.int (p1 / (65536 : Int32))), .val (.int (p1 % (65536 : Int32))), .unset] [(.int (p1 % (65536 : Int32)))])) rfl (hb hby d2_48) _ ?_
        exact kt
      by_cases hc10 : (65533 : Int32) < (p1 % (65536 : Int32))
      · obtain ⟨fs, hr, hrun, hended, hW, hsame⟩ := X0.leave (v := some (.int (0 : Int32))) (fun h => by rw [Bd.returns] at h; cases h)
        refine ⟨_, _, pre9 _ ?_, hrun, hended, _, _, rfl, ?_, ⟨_, rfl⟩, hW, hsame.mono (by decide) (by decide)⟩
        · show Steps p.tables e below (s₁.setTop (mkF m 50 #[.val (.int p1), .val (.int (p1 / (65536 : Int32))), .val (.int (p1 % (65536 : Int32))), .unset] [(.int (65533 : Int32)), (.int (p1 % (65536 : Int32)))])) _
          refine XS.icmpYes X0.here hx rfl (pc0 := 50) (pc' := 57) rfl (hb hby d2_50) rfl (tlt hc10).2.2.1 (by decide) (by decide) ?_
          show Steps p.tables e below (s₁.setTop (mkF m 57 #[.val (.int p1), .val (.int (p1 / (65536 : Int32))), .val (.int (p1 % (65536 : Int32))), .unset] [])) _
          refine XS.iconst X0.here hx rfl (hb hby d2_57) ?_
          show Steps p.tables e below (s₁.setTop (mkF m 58 #[.val (.int p1), .val (.int (p1 / (65536 : Int32))), .val (.int (p1 % (65536 : Int32))), .unset] [(.int (0 : Int32))])) _
          refine XS.istoreN X0.here hx rfl (hb hby d2_58) rfl (l' := #[.val (.int p1), .val (.int (p1 / (65536 : Int32))), .val (.int (p1 % (65536 : Int32))), .val (.int (0 : Int32))]) rfl ?_
          show Steps p.tables e below (s₁.setTop (mkF m 59 #[.val (.int p1), .val (.int (p1 / (65536 : Int32))), .val (.int (p1 % (65536 : Int32))), .val (.int (0 : Int32))] [])) _
          refine XS.iloadN X0.here hx rfl (hb hby d2_59) rfl ?_
          show Steps p.tables e below (s₁.setTop (mkF m 60 #[.val (.int p1), .val (.int (p1 / (65536 : Int32))), .val (.int (p1 % (65536 : Int32))), .val (.int (0 : Int32))] [(.int (0 : Int32))])) _
          exact retN X0 hx (t := .boolean) Bd.returns (by simp) (hb hby d2_60) hr
        · show Q2 Z p1 h0 n0 _ s₁.heap _
          rw [e0]
          refine ⟨?_, N0, rfl⟩
          show (some (.int (0 : Int32)) : Option Value) = some (.int (F2 p1))
          rw [F2, if_neg hc2, if_pos hc8, if_pos hc10]
      · obtain ⟨fs, hr, hrun, hended, hW, hsame⟩ := X0.leave (v := some (.int (1 : Int32))) (fun h => by rw [Bd.returns] at h; cases h)
        refine ⟨_, _, pre9 _ ?_, hrun, hended, _, _, rfl, ?_, ⟨_, rfl⟩, hW, hsame.mono (by decide) (by decide)⟩
        · show Steps p.tables e below (s₁.setTop (mkF m 50 #[.val (.int p1), .val (.int (p1 / (65536 : Int32))), .val (.int (p1 % (65536 : Int32))), .unset] [(.int (65533 : Int32)), (.int (p1 % (65536 : Int32)))])) _
          refine XS.icmpNo X0.here hx rfl (hb hby d2_50) rfl (flt hc10).2.2.1 ?_
          show Steps p.tables e below (s₁.setTop (mkF m 53 #[.val (.int p1), .val (.int (p1 / (65536 : Int32))), .val (.int (p1 % (65536 : Int32))), .unset] [])) _
          refine XS.iconst X0.here hx rfl (hb hby d2_53) ?_
          show Steps p.tables e below (s₁.setTop (mkF m 54 #[.val (.int p1), .val (.int (p1 / (65536 : Int32))), .val (.int (p1 % (65536 : Int32))), .unset] [(.int (1 : Int32))])) _
          refine XS.goto X0.here hx rfl (pc0 := 54) (pc' := 58) rfl (hb hby d2_54) (by decide) (by decide) ?_
          show Steps p.tables e below (s₁.setTop (mkF m 58 #[.val (.int p1), .val (.int (p1 / (65536 : Int32))), .val (.int (p1 % (65536 : Int32))), .unset] [(.int (1 : Int32))])) _
          refine XS.istoreN X0.here hx rfl (hb hby d2_58) rfl (l' := #[.val (.int p1), .val (.int (p1 / (65536 : Int32))), .val (.int (p1 % (65536 : Int32))), .val (.int (1 : Int32))]) rfl ?_
          show Steps p.tables e below (s₁.setTop (mkF m 59 #[.val (.int p1), .val (.int (p1 / (65536 : Int32))), .val (.int (p1 % (65536 : Int32))), .val (.int (1 : Int32))] [])) _
          refine XS.iloadN X0.here hx rfl (hb hby d2_59) rfl ?_
          show Steps p.tables e below (s₁.setTop (mkF m 60 #[.val (.int p1), .val (.int (p1 / (65536 : Int32))), .val (.int (p1 % (65536 : Int32))), .val (.int (1 : Int32))] [(.int (1 : Int32))])) _
          exact retN X0 hx (t := .boolean) Bd.returns (by simp) (hb hby d2_60) hr
        · show Q2 Z p1 h0 n0 _ s₁.heap _
          rw [e0]
          refine ⟨?_, N0, rfl⟩
          show (some (.int (1 : Int32)) : Option Value) = some (.int (F2 p1))
          rw [F2, if_neg hc2, if_pos hc8, if_neg hc10]
    · have pre11 : ∀ t, Steps p.tables e below (s₁.setTop (mkF m 44 #[.val (.int p1), .val (.int (p1 / (65536 : Int32))), .val (.int (p1 % (65536 : Int32))), .unset] [(.int (16 : Int32)), (.int (p1 / (65536 : Int32)))])) t → Steps p.tables e below (s₁.setTop (entryFrame m #[(.int p1)] 4)) t := fun t kt => by
        refine pre7 t ?_
        show Steps p.tables e below (s₁.setTop (mkF m 38 #[.val (.int p1), .val (.int (p1 / (65536 : Int32))), .val (.int (p1 % (65536 : Int32))), .unset] [(.int (15 : Int32)), (.int (p1 / (65536 : Int32)))])) _
        refine XS.icmpNo X0.here hx rfl (hb hby d2_38) rfl (feq hc8).1 ?_
        show Steps p.tables e below (s₁.setTop (mkF m 41 #[.val (.int p1), .val (.int (p1 / (65536 : Int32))), .val (.int (p1 % (65536 : Int32))), .unset] [])) _
        refine XS.iloadN X0.here hx rfl (hb hby d2_41) rfl ?_
        show Steps p.tables e below (s₁.setTop (mkF m 42 #[.val (.int p1), .val (.int (p1 / (65536 : Int32))), .val (.int (p1 % (65536 : Int32))), .unset] [(.int (p1 / (65536 : Int32)))])) _
        refine XS.bipush X0.here hx rfl (hb hby d2_42) ?_
        exact kt
      by_cases hc12 : (p1 / (65536 : Int32)) = (16 : Int32)
      · have pre13 : ∀ t, Steps p.tables e below (s₁.setTop (mkF m 50 #[.val (.int p1), .val (.int (p1 / (65536 : Int32))), .val (.int (p1 % (65536 : Int32))), .unset] [(.int (65533 : Int32)), (.int (p1 % (65536 : Int32)))])) t → Steps p.tables e below (s₁.setTop (entryFrame m #[(.int p1)] 4)) t := fun t kt => by
          refine pre11 t ?_
          show Steps p.tables e below (s₁.setTop (mkF m 44 #[.val (.int p1), .val (.int (p1 / (65536 : Int32))), .val (.int (p1 % (65536 : Int32))), .unset] [(.int (16 : Int32)), (.int (p1 / (65536 : Int32)))])) _
          refine XS.icmpNo X0.here hx rfl (hb hby d2_44) rfl (teq hc12).2 ?_
          show Steps p.tables e below (s₁.setTop (mkF m 47 #[.val (.int p1), .val (.int (p1 / (65536 : Int32))), .val (.int (p1 % (65536 : Int32))), .unset] [])) _
          refine XS.iloadN X0.here hx rfl (hb hby d2_47) rfl ?_
          show Steps p.tables e below (s₁.setTop (mkF m 48 #[.val (.int p1), .val (.int (p1 / (65536 : Int32))), .val (.int (p1 % (65536 : Int32))), .unset] [(.int (p1 % (65536 : Int32)))])) _
          refine X0.ldcInt hx hown (mvT hZ (hw _ (List.mem_of_getElem? (i := 17) rfl))) (g := (mkF m 48 #[.val (.int p1), .val (.int (p1 / (65536 : Int32))), .val (.int (p1 % (65536 : Int32))), .unset] [(.int (p1 % (65536 : Int32)))])) rfl (hb hby d2_48) _ ?_
          exact kt
        by_cases hc14 : (65533 : Int32) < (p1 % (65536 : Int32))
        · obtain ⟨fs, hr, hrun, hended, hW, hsame⟩ := X0.leave (v := some (.int (0 : Int32))) (fun h => by rw [Bd.returns] at h; cases h)
          refine ⟨_, _, pre13 _ ?_, hrun, hended, _, _, rfl, ?_, ⟨_, rfl⟩, hW, hsame.mono (by decide) (by decide)⟩
          · show Steps p.tables e below (s₁.setTop (mkF m 50 #[.val (.int p1), .val (.int (p1 / (65536 : Int32))), .val (.int (p1 % (65536 : Int32))), .unset] [(.int (65533 : Int32)), (.int (p1 % (65536 : Int32)))])) _
            refine XS.icmpYes X0.here hx rfl (pc0 := 50) (pc' := 57) rfl (hb hby d2_50) rfl (tlt hc14).2.2.1 (by decide) (by decide) ?_
            show Steps p.tables e below (s₁.setTop (mkF m 57 #[.val (.int p1), .val (.int (p1 / (65536 : Int32))), .val (.int (p1 % (65536 : Int32))), .unset] [])) _
            refine XS.iconst X0.here hx rfl (hb hby d2_57) ?_
            show Steps p.tables e below (s₁.setTop (mkF m 58 #[.val (.int p1), .val (.int (p1 / (65536 : Int32))), .val (.int (p1 % (65536 : Int32))), .unset] [(.int (0 : Int32))])) _
            refine XS.istoreN X0.here hx rfl (hb hby d2_58) rfl (l' := #[.val (.int p1), .val (.int (p1 / (65536 : Int32))), .val (.int (p1 % (65536 : Int32))), .val (.int (0 : Int32))]) rfl ?_
            show Steps p.tables e below (s₁.setTop (mkF m 59 #[.val (.int p1), .val (.int (p1 / (65536 : Int32))), .val (.int (p1 % (65536 : Int32))), .val (.int (0 : Int32))] [])) _
            refine XS.iloadN X0.here hx rfl (hb hby d2_59) rfl ?_
            show Steps p.tables e below (s₁.setTop (mkF m 60 #[.val (.int p1), .val (.int (p1 / (65536 : Int32))), .val (.int (p1 % (65536 : Int32))), .val (.int (0 : Int32))] [(.int (0 : Int32))])) _
            exact retN X0 hx (t := .boolean) Bd.returns (by simp) (hb hby d2_60) hr
          · show Q2 Z p1 h0 n0 _ s₁.heap _
            rw [e0]
            refine ⟨?_, N0, rfl⟩
            show (some (.int (0 : Int32)) : Option Value) = some (.int (F2 p1))
            rw [F2, if_neg hc2, if_neg hc8, if_pos hc12, if_pos hc14]
        · obtain ⟨fs, hr, hrun, hended, hW, hsame⟩ := X0.leave (v := some (.int (1 : Int32))) (fun h => by rw [Bd.returns] at h; cases h)
          refine ⟨_, _, pre13 _ ?_, hrun, hended, _, _, rfl, ?_, ⟨_, rfl⟩, hW, hsame.mono (by decide) (by decide)⟩
          · show Steps p.tables e below (s₁.setTop (mkF m 50 #[.val (.int p1), .val (.int (p1 / (65536 : Int32))), .val (.int (p1 % (65536 : Int32))), .unset] [(.int (65533 : Int32)), (.int (p1 % (65536 : Int32)))])) _
            refine XS.icmpNo X0.here hx rfl (hb hby d2_50) rfl (flt hc14).2.2.1 ?_
            show Steps p.tables e below (s₁.setTop (mkF m 53 #[.val (.int p1), .val (.int (p1 / (65536 : Int32))), .val (.int (p1 % (65536 : Int32))), .unset] [])) _
            refine XS.iconst X0.here hx rfl (hb hby d2_53) ?_
            show Steps p.tables e below (s₁.setTop (mkF m 54 #[.val (.int p1), .val (.int (p1 / (65536 : Int32))), .val (.int (p1 % (65536 : Int32))), .unset] [(.int (1 : Int32))])) _
            refine XS.goto X0.here hx rfl (pc0 := 54) (pc' := 58) rfl (hb hby d2_54) (by decide) (by decide) ?_
            show Steps p.tables e below (s₁.setTop (mkF m 58 #[.val (.int p1), .val (.int (p1 / (65536 : Int32))), .val (.int (p1 % (65536 : Int32))), .unset] [(.int (1 : Int32))])) _
            refine XS.istoreN X0.here hx rfl (hb hby d2_58) rfl (l' := #[.val (.int p1), .val (.int (p1 / (65536 : Int32))), .val (.int (p1 % (65536 : Int32))), .val (.int (1 : Int32))]) rfl ?_
            show Steps p.tables e below (s₁.setTop (mkF m 59 #[.val (.int p1), .val (.int (p1 / (65536 : Int32))), .val (.int (p1 % (65536 : Int32))), .val (.int (1 : Int32))] [])) _
            refine XS.iloadN X0.here hx rfl (hb hby d2_59) rfl ?_
            show Steps p.tables e below (s₁.setTop (mkF m 60 #[.val (.int p1), .val (.int (p1 / (65536 : Int32))), .val (.int (p1 % (65536 : Int32))), .val (.int (1 : Int32))] [(.int (1 : Int32))])) _
            exact retN X0 hx (t := .boolean) Bd.returns (by simp) (hb hby d2_60) hr
          · show Q2 Z p1 h0 n0 _ s₁.heap _
            rw [e0]
            refine ⟨?_, N0, rfl⟩
            show (some (.int (1 : Int32)) : Option Value) = some (.int (F2 p1))
            rw [F2, if_neg hc2, if_neg hc8, if_pos hc12, if_neg hc14]
      · obtain ⟨fs, hr, hrun, hended, hW, hsame⟩ := X0.leave (v := some (.int (0 : Int32))) (fun h => by rw [Bd.returns] at h; cases h)
        refine ⟨_, _, pre11 _ ?_, hrun, hended, _, _, rfl, ?_, ⟨_, rfl⟩, hW, hsame.mono (by decide) (by decide)⟩
        · show Steps p.tables e below (s₁.setTop (mkF m 44 #[.val (.int p1), .val (.int (p1 / (65536 : Int32))), .val (.int (p1 % (65536 : Int32))), .unset] [(.int (16 : Int32)), (.int (p1 / (65536 : Int32)))])) _
          refine XS.icmpYes X0.here hx rfl (pc0 := 44) (pc' := 57) rfl (hb hby d2_44) rfl (feq hc12).2 (by decide) (by decide) ?_
          show Steps p.tables e below (s₁.setTop (mkF m 57 #[.val (.int p1), .val (.int (p1 / (65536 : Int32))), .val (.int (p1 % (65536 : Int32))), .unset] [])) _
          refine XS.iconst X0.here hx rfl (hb hby d2_57) ?_
          show Steps p.tables e below (s₁.setTop (mkF m 58 #[.val (.int p1), .val (.int (p1 / (65536 : Int32))), .val (.int (p1 % (65536 : Int32))), .unset] [(.int (0 : Int32))])) _
          refine XS.istoreN X0.here hx rfl (hb hby d2_58) rfl (l' := #[.val (.int p1), .val (.int (p1 / (65536 : Int32))), .val (.int (p1 % (65536 : Int32))), .val (.int (0 : Int32))]) rfl ?_
          show Steps p.tables e below (s₁.setTop (mkF m 59 #[.val (.int p1), .val (.int (p1 / (65536 : Int32))), .val (.int (p1 % (65536 : Int32))), .val (.int (0 : Int32))] [])) _
          refine XS.iloadN X0.here hx rfl (hb hby d2_59) rfl ?_
          show Steps p.tables e below (s₁.setTop (mkF m 60 #[.val (.int p1), .val (.int (p1 / (65536 : Int32))), .val (.int (p1 % (65536 : Int32))), .val (.int (0 : Int32))] [(.int (0 : Int32))])) _
          exact retN X0 hx (t := .boolean) Bd.returns (by simp) (hb hby d2_60) hr
        · show Q2 Z p1 h0 n0 _ s₁.heap _
          rw [e0]
          refine ⟨?_, N0, rfl⟩
          show (some (.int (0 : Int32)) : Option Value) = some (.int (F2 p1))
          rw [F2, if_neg hc2, if_neg hc8, if_neg hc12]
theorem pn_0 : plainName "com/example/lofu/lofu/text/IriCharactersIsPrivatePinLaw" = true := by first | (simp [plainName, overriddenIn]; done) | decide +kernel
theorem pd_0_0 : parseMethodDescriptor "(III)Z" = some ⟨[.int, .int, .int], some .boolean⟩ := by decide +kernel
theorem pd_0_1 : parseMethodDescriptor "(I)Z" = some ⟨[.int], some .boolean⟩ := by decide +kernel
theorem ef_0 (m : MethodId) (p1 : Int32) : entryFrame m #[(.int p1)] maxLocals = mkF m 0 #[.val (.int p1), .unset] [] := by first | (simp [entryFrame, mkF, argsToLocals, Value.category, maxLocals]; done) | rfl
theorem leaf_0_2 (p1 : Int32) (v11 : Int32) (hv11 : v11 = (if (F1 p1 (57344 : Int32) (63743 : Int32)) = (0 : Int32) then (if (F1 p1 (983040 : Int32) (1048573 : Int32)) = (0 : Int32) then (if (F1 p1 (1048576 : Int32) (1114109 : Int32)) = (0 : Int32) then (0 : Int32) else (1 : Int32)) else (1 : Int32)) else (1 : Int32))) (hc14 : ¬ ((F2 p1) = v11)) : False := by
  refine hc14 ?_
  subst hv11
  rw [own_eqI]
  have d := own_dm p1 65536 (by decide)
  have b := own_bd p1
  simp only [F1, F2, own_ltI, own_eqI, apply_ite Int32.toInt, Int32.reduceToInt] at d ⊢
  generalize (p1 / 65536).toInt = q at *
  generalize (p1 % 65536).toInt = r at *
  generalize p1.toInt = x at *
  repeat' split
  all_goals omega
def Q0 (Z : State) (p1 : Int32) (h0 : Heap) (n0 : Nat) (v : Option Value) (h : Heap) (L : List Loc) : Prop := v = some (.int (1 : Int32)) ∧ Fr n0 L
set_option maxRecDepth 65536 in
set_option maxHeartbeats 40000000 in
theorem rm0 (l : Launch) (Z : State) (a0 : Array Value) (hw : ∀ d ∈ tables_1, d.before a0 Z = true) (ws : List Jvm.Cond) (p1 : Int32) (h0 : Heap) (n0 : Nat) (Z0 : n0 ≤ h0.size) :
    MetFree l x (head1 (Jvm.Cond.code x code maxLocals ret :: ws) room_1) (fun a U => a = #[(.int p1)] ∧ Z.Warmed39 U.vm ∧ U.heap = h0) (fun _ _ _ _ _ => True) (fun _ U o U' => ∃ v L, o = .returned v ∧ Q0 Z p1 h0 n0 v U'.heap L ∧ FrameEnd U o U' L room_1.cells room_1.slots) := by
  refine MetFree.of_bodySF (plainFor_of_name pn_0) hisR ?_
  intro p e s m args below meth c s₁ Bd hml0 hP hK
  obtain ⟨rfl, hZ, hh⟩ := hP
  have hx := Bd.exec
  have hby := Bd.bytes
  have hml : c.maxLocals = 2 := hml0
  have hown : s.vm.findClass "com/example/lofu/lofu/text/IriCharactersIsPrivatePinLaw" = some m.cls := findClass_of_methodNamed Bd.named
  have hnm := (name_of_methodNamed Bd.named Bd.method).1
  have X0 : Stand p l e room_1 s m #[(.int p1)] below meth c s₁ [] 0 0 := Stand.of_body Bd
  have e0 : s₁.heap = h0 := by rw [← hh, Bd.state]; rfl
  have N0 := Fr.nil n0
  have pre0 : ∀ t, Steps p.tables e below (s₁.setTop (mkF m 0 #[.val (.int p1), .unset] [])) t → Steps p.tables e below (s₁.setTop (entryFrame m #[(.int p1)] maxLocals)) t := fun t k => castTop (ef_0 m p1) k
  obtain ⟨_, _, ⟨T1, L1, k1, n1⟩, -, X1, ⟨Lc1, hQ1, l1, y1, z1⟩, st1⟩ := Jvm.LawKit.callS X0 hx (y := (⟨"com/example/lofu/lofu/text/IriCharactersIsPrivatePinLaw", "inRange", "(III)Z"⟩ : MethodName)) hown (mvT hZ (hw _ (List.mem_of_getElem? (i := 2) rfl))) (mvT hZ (hw _ (List.mem_of_getElem? (i := 3) rfl))) (mvT hZ (hw _ (List.mem_of_getElem? (i := 4) rfl))) (mvT hZ (hw _ (List.mem_of_getElem? (i := 5) rfl))) (by decide) (backOf (W := 0) (rm1 l Z a0 hw [] p1 (57344 : Int32) (63743 : Int32) h0 n0 Z0) hZ (hw _ (List.mem_of_getElem? (i := 5) rfl)) (hw _ (List.mem_of_getElem? (i := 4) rfl)) (by decide) (by decide)) (g := (mkF m 5 #[.val (.int p1), .unset] [(.int (63743 : Int32)), (.int (57344 : Int32)), (.int p1)])) rfl (by rw [hml]; rfl) (argsL := [(.int p1), (.int (57344 : Int32)), (.int (63743 : Int32))]) (rest := []) (lenOf pd_0_0 rfl) rfl (by show 2 * 0 + _ ≤ _; exact Nat.le_of_eq rfl) (hb hby at_5) (fun _ _ => ⟨rfl, e0, (by decide : 0 + 0 ≤ _), (by decide : 0 + 0 ≤ _)⟩)
  dsimp only [Pt.U, Pt.locs, Pt.cells, Pt.slots] at X1 l1 y1 z1 st1 hQ1
  subst l1 y1 z1
  obtain ⟨rfl, N1q, e1⟩ := hQ1
  have N1 := Fr.app N0 N1q
  have pre2 : ∀ t, Steps p.tables e below (T1.setTop (mkF m 8 #[.val (.int p1), .unset] [(.int (F1 p1 (57344 : Int32) (63743 : Int32)))])) t → Steps p.tables e below (s₁.setTop (entryFrame m #[(.int p1)] maxLocals)) t := fun t kt => by
    refine pre0 t ?_
    show Steps p.tables e below (s₁.setTop (mkF m 0 #[.val (.int p1), .unset] [])) _
    refine XS.iloadN X0.here hx rfl (hb hby at_0) rfl ?_
    show Steps p.tables e below (s₁.setTop (mkF m 1 #[.val (.int p1), .unset] [(.int p1)])) _
    refine X0.ldcInt hx hown (mvT hZ (hw _ (List.mem_of_getElem? (i := 0) rfl))) (g := (mkF m 1 #[.val (.int p1), .unset] [(.int p1)])) rfl (hb hby at_1) _ ?_
    show Steps p.tables e below (s₁.setTop (mkF m 3 #[.val (.int p1), .unset] [(.int (57344 : Int32)), (.int p1)])) _
    refine X0.ldcInt hx hown (mvT hZ (hw _ (List.mem_of_getElem? (i := 1) rfl))) (g := (mkF m 3 #[.val (.int p1), .unset] [(.int (57344 : Int32)), (.int p1)])) rfl (hb hby at_3) _ ?_
    show Steps p.tables e below (s₁.setTop (mkF m 5 #[.val (.int p1), .unset] [(.int (63743 : Int32)), (.int (57344 : Int32)), (.int p1)])) _
    refine st1 _ ?_
    exact kt
  obtain ⟨T10, Lc10, X10, e10, N10, pre10⟩ : ∃ (T10 : State) (Lc10 : List Loc) , Stand p l e room_1 s m #[(.int p1)] below meth c T10 Lc10 0 0 ∧ T10.heap = h0 ∧ Fr n0 Lc10 ∧ ∀ t, Steps p.tables e below (T10.setTop (mkF m 38 #[.val (.int p1), .unset] [(.int (if (F1 p1 (57344 : Int32) (63743 : Int32)) = (0 : Int32) then (if (F1 p1 (983040 : Int32) (1048573 : Int32)) = (0 : Int32) then (if (F1 p1 (1048576 : Int32) (1114109 : Int32)) = (0 : Int32) then (0 : Int32) else (1 : Int32)) else (1 : Int32)) else (1 : Int32)))])) t → Steps p.tables e below (s₁.setTop (entryFrame m #[(.int p1)] maxLocals)) t := by
    by_cases hc3 : (F1 p1 (57344 : Int32) (63743 : Int32)) = (0 : Int32)
    · obtain ⟨_, _, ⟨T4, L4, k4, n4⟩, -, X4, ⟨Lc4, hQ4, l4, y4, z4⟩, st4⟩ := Jvm.LawKit.callS X1 hx (y := (⟨"com/example/lofu/lofu/text/IriCharactersIsPrivatePinLaw", "inRange", "(III)Z"⟩ : MethodName)) hown (mvT hZ (hw _ (List.mem_of_getElem? (i := 2) rfl))) (mvT hZ (hw _ (List.mem_of_getElem? (i := 3) rfl))) (mvT hZ (hw _ (List.mem_of_getElem? (i := 4) rfl))) (mvT hZ (hw _ (List.mem_of_getElem? (i := 5) rfl))) (by decide) (backOf (W := 0) (rm1 l Z a0 hw [] p1 (983040 : Int32) (1048573 : Int32) h0 n0 Z0) hZ (hw _ (List.mem_of_getElem? (i := 5) rfl)) (hw _ (List.mem_of_getElem? (i := 4) rfl)) (by decide) (by decide)) (g := (mkF m 16 #[.val (.int p1), .unset] [(.int (1048573 : Int32)), (.int (983040 : Int32)), (.int p1)])) rfl (by rw [hml]; rfl) (argsL := [(.int p1), (.int (983040 : Int32)), (.int (1048573 : Int32))]) (rest := []) (lenOf pd_0_0 rfl) rfl (by show 2 * 0 + _ ≤ _; exact Nat.le_of_eq rfl) (hb hby at_16) (fun _ _ => ⟨rfl, e1, (by decide : 0 + 0 ≤ _), (by decide : 0 + 0 ≤ _)⟩)
      dsimp only [Pt.U, Pt.locs, Pt.cells, Pt.slots] at X4 l4 y4 z4 st4 hQ4
      subst l4 y4 z4
      obtain ⟨rfl, N4q, e4⟩ := hQ4
      have N4 := Fr.app N1 N4q
      have pre5 : ∀ t, Steps p.tables e below (T4.setTop (mkF m 19 #[.val (.int p1), .unset] [(.int (F1 p1 (983040 : Int32) (1048573 : Int32)))])) t → Steps p.tables e below (s₁.setTop (entryFrame m #[(.int p1)] maxLocals)) t := fun t kt => by
        refine pre2 t ?_
        show Steps p.tables e below (T1.setTop (mkF m 8 #[.val (.int p1), .unset] [(.int (F1 p1 (57344 : Int32) (63743 : Int32)))])) _
        refine XS.ifNo X1.here hx rfl (hb hby at_8) rfl ((if0 _ _).trans (teq hc3).2) ?_
        show Steps p.tables e below (T1.setTop (mkF m 11 #[.val (.int p1), .unset] [])) _
        refine XS.iloadN X1.here hx rfl (hb hby at_11) rfl ?_
        show Steps p.tables e below (T1.setTop (mkF m 12 #[.val (.int p1), .unset] [(.int p1)])) _
        refine X1.ldcInt hx hown (mvT hZ (hw _ (List.mem_of_getElem? (i := 6) rfl))) (g := (mkF m 12 #[.val (.int p1), .unset] [(.int p1)])) rfl (hb hby at_12) _ ?_
        show Steps p.tables e below (T1.setTop (mkF m 14 #[.val (.int p1), .unset] [(.int (983040 : Int32)), (.int p1)])) _
        refine X1.ldcInt hx hown (mvT hZ (hw _ (List.mem_of_getElem? (i := 7) rfl))) (g := (mkF m 14 #[.val (.int p1), .unset] [(.int (983040 : Int32)), (.int p1)])) rfl (hb hby at_14) _ ?_
        show Steps p.tables e below (T1.setTop (mkF m 16 #[.val (.int p1), .unset] [(.int (1048573 : Int32)), (.int (983040 : Int32)), (.int p1)])) _
        refine st4 _ ?_
        exact kt
      by_cases hc6 : (F1 p1 (983040 : Int32) (1048573 : Int32)) = (0 : Int32)
      · obtain ⟨_, _, ⟨T7, L7, k7, n7⟩, -, X7, ⟨Lc7, hQ7, l7, y7, z7⟩, st7⟩ := Jvm.LawKit.callS X4 hx (y := (⟨"com/example/lofu/lofu/text/IriCharactersIsPrivatePinLaw", "inRange", "(III)Z"⟩ : MethodName)) hown (mvT hZ (hw _ (List.mem_of_getElem? (i := 2) rfl))) (mvT hZ (hw _ (List.mem_of_getElem? (i := 3) rfl))) (mvT hZ (hw _ (List.mem_of_getElem? (i := 4) rfl))) (mvT hZ (hw _ (List.mem_of_getElem? (i := 5) rfl))) (by decide) (backOf (W := 0) (rm1 l Z a0 hw [] p1 (1048576 : Int32) (1114109 : Int32) h0 n0 Z0) hZ (hw _ (List.mem_of_getElem? (i := 5) rfl)) (hw _ (List.mem_of_getElem? (i := 4) rfl)) (by decide) (by decide)) (g := (mkF m 27 #[.val (.int p1), .unset] [(.int (1114109 : Int32)), (.int (1048576 : Int32)), (.int p1)])) rfl (by rw [hml]; rfl) (argsL := [(.int p1), (.int (1048576 : Int32)), (.int (1114109 : Int32))]) (rest := []) (lenOf pd_0_0 rfl) rfl (by show 2 * 0 + _ ≤ _; exact Nat.le_of_eq rfl) (hb hby at_27) (fun _ _ => ⟨rfl, e4, (by decide : 0 + 0 ≤ _), (by decide : 0 + 0 ≤ _)⟩)
        dsimp only [Pt.U, Pt.locs, Pt.cells, Pt.slots] at X7 l7 y7 z7 st7 hQ7
        subst l7 y7 z7
        obtain ⟨rfl, N7q, e7⟩ := hQ7
        have N7 := Fr.app N4 N7q
        have pre8 : ∀ t, Steps p.tables e below (T7.setTop (mkF m 30 #[.val (.int p1), .unset] [(.int (F1 p1 (1048576 : Int32) (1114109 : Int32)))])) t → Steps p.tables e below (s₁.setTop (entryFrame m #[(.int p1)] maxLocals)) t := fun t kt => by
          refine pre5 t ?_
          show Steps p.tables e below (T4.setTop (mkF m 19 #[.val (.int p1), .unset] [(.int (F1 p1 (983040 : Int32) (1048573 : Int32)))])) _
          refine XS.ifNo X4.here hx rfl (hb hby at_19) rfl ((if0 _ _).trans (teq hc6).2) ?_
          show Steps p.tables e below (T4.setTop (mkF m 22 #[.val (.int p1), .unset] [])) _
          refine XS.iloadN X4.here hx rfl (hb hby at_22) rfl ?_
          show Steps p.tables e below (T4.setTop (mkF m 23 #[.val (.int p1), .unset] [(.int p1)])) _
          refine X4.ldcInt hx hown (mvT hZ (hw _ (List.mem_of_getElem? (i := 8) rfl))) (g := (mkF m 23 #[.val (.int p1), .unset] [(.int p1)])) rfl (hb hby at_23) _ ?_
          show Steps p.tables e below (T4.setTop (mkF m 25 #[.val (.int p1), .unset] [(.int (1048576 : Int32)), (.int p1)])) _
          refine X4.ldcInt hx hown (mvT hZ (hw _ (List.mem_of_getElem? (i := 9) rfl))) (g := (mkF m 25 #[.val (.int p1), .unset] [(.int (1048576 : Int32)), (.int p1)])) rfl (hb hby at_25) _ ?_
          show Steps p.tables e below (T4.setTop (mkF m 27 #[.val (.int p1), .unset] [(.int (1114109 : Int32)), (.int (1048576 : Int32)), (.int p1)])) _
          refine st7 _ ?_
          exact kt
        by_cases hc9 : (F1 p1 (1048576 : Int32) (1114109 : Int32)) = (0 : Int32)
        · refine ⟨_, _, X7, e7, N7, fun t kt => pre8 t ?_⟩
          try rw [if_pos hc3] at kt
          try rw [if_pos hc6] at kt
          try rw [if_pos hc9] at kt
          show Steps p.tables e below (T7.setTop (mkF m 30 #[.val (.int p1), .unset] [(.int (F1 p1 (1048576 : Int32) (1114109 : Int32)))])) _
          refine XS.ifYes X7.here hx rfl (pc0 := 30) (pc' := 37) rfl (hb hby at_30) rfl ((if0 _ _).trans (teq hc9).1) (by decide) (by decide) ?_
          show Steps p.tables e below (T7.setTop (mkF m 37 #[.val (.int p1), .unset] [])) _
          refine XS.iconst X7.here hx rfl (hb hby at_37) ?_
          exact kt
        · refine ⟨_, _, X7, e7, N7, fun t kt => pre8 t ?_⟩
          try rw [if_pos hc3] at kt
          try rw [if_pos hc6] at kt
          try rw [if_neg hc9] at kt
          show Steps p.tables e below (T7.setTop (mkF m 30 #[.val (.int p1), .unset] [(.int (F1 p1 (1048576 : Int32) (1114109 : Int32)))])) _
          refine XS.ifNo X7.here hx rfl (hb hby at_30) rfl ((if0 _ _).trans (feq hc9).1) ?_
          show Steps p.tables e below (T7.setTop (mkF m 33 #[.val (.int p1), .unset] [])) _
          refine XS.iconst X7.here hx rfl (hb hby at_33) ?_
          show Steps p.tables e below (T7.setTop (mkF m 34 #[.val (.int p1), .unset] [(.int (1 : Int32))])) _
          refine XS.goto X7.here hx rfl (pc0 := 34) (pc' := 38) rfl (hb hby at_34) (by decide) (by decide) ?_
          exact kt
      · refine ⟨_, _, X4, e4, N4, fun t kt => pre5 t ?_⟩
        try rw [if_pos hc3] at kt
        try rw [if_neg hc6] at kt
        show Steps p.tables e below (T4.setTop (mkF m 19 #[.val (.int p1), .unset] [(.int (F1 p1 (983040 : Int32) (1048573 : Int32)))])) _
        refine XS.ifYes X4.here hx rfl (pc0 := 19) (pc' := 33) rfl (hb hby at_19) rfl ((if0 _ _).trans (feq hc6).2) (by decide) (by decide) ?_
        show Steps p.tables e below (T4.setTop (mkF m 33 #[.val (.int p1), .unset] [])) _
        refine XS.iconst X4.here hx rfl (hb hby at_33) ?_
        show Steps p.tables e below (T4.setTop (mkF m 34 #[.val (.int p1), .unset] [(.int (1 : Int32))])) _
        refine XS.goto X4.here hx rfl (pc0 := 34) (pc' := 38) rfl (hb hby at_34) (by decide) (by decide) ?_
        exact kt
    · refine ⟨_, _, X1, e1, N1, fun t kt => pre2 t ?_⟩
      try rw [if_neg hc3] at kt
      show Steps p.tables e below (T1.setTop (mkF m 8 #[.val (.int p1), .unset] [(.int (F1 p1 (57344 : Int32) (63743 : Int32)))])) _
      refine XS.ifYes X1.here hx rfl (pc0 := 8) (pc' := 33) rfl (hb hby at_8) rfl ((if0 _ _).trans (feq hc3).2) (by decide) (by decide) ?_
      show Steps p.tables e below (T1.setTop (mkF m 33 #[.val (.int p1), .unset] [])) _
      refine XS.iconst X1.here hx rfl (hb hby at_33) ?_
      show Steps p.tables e below (T1.setTop (mkF m 34 #[.val (.int p1), .unset] [(.int (1 : Int32))])) _
      refine XS.goto X1.here hx rfl (pc0 := 34) (pc' := 38) rfl (hb hby at_34) (by decide) (by decide) ?_
      exact kt
  obtain ⟨v11, hv11⟩ : ∃ z : Int32, z = (if (F1 p1 (57344 : Int32) (63743 : Int32)) = (0 : Int32) then (if (F1 p1 (983040 : Int32) (1048573 : Int32)) = (0 : Int32) then (if (F1 p1 (1048576 : Int32) (1114109 : Int32)) = (0 : Int32) then (0 : Int32) else (1 : Int32)) else (1 : Int32)) else (1 : Int32)) := ⟨_, rfl⟩
  rw [← hv11] at pre10
  obtain ⟨_, _, ⟨T12, L12, k12, n12⟩, -, X12, ⟨Lc12, hQ12, l12, y12, z12⟩, st12⟩ := Jvm.LawKit.callS X10 hx (y := (⟨"com/example/lofu/lofu/text/IriCharacters", "isPrivate", "(I)Z"⟩ : MethodName)) hown (mvT hZ (hw _ (List.mem_of_getElem? (i := 10) rfl))) (mvT hZ (hw _ (List.mem_of_getElem? (i := 11) rfl))) (mvT hZ (hw _ (List.mem_of_getElem? (i := 12) rfl))) (mvT hZ (hw _ (List.mem_of_getElem? (i := 13) rfl))) (by decide) (backOf (W := 0) (rm2 l Z a0 hw [] p1 h0 n0 Z0) hZ (hw _ (List.mem_of_getElem? (i := 13) rfl)) (hw _ (List.mem_of_getElem? (i := 12) rfl)) (by decide) (by decide)) (g := (mkF m 40 #[.val (.int p1), .val (.int v11)] [(.int p1)])) rfl (by rw [hml]; rfl) (argsL := [(.int p1)]) (rest := []) (lenOf pd_0_1 rfl) rfl (by show 2 * 0 + _ ≤ _; exact Nat.le_of_eq rfl) (hb hby at_40) (fun _ _ => ⟨rfl, e10, (by decide : 0 + 0 ≤ _), (by decide : 0 + 0 ≤ _)⟩)
  dsimp only [Pt.U, Pt.locs, Pt.cells, Pt.slots] at X12 l12 y12 z12 st12 hQ12
  subst l12 y12 z12
  obtain ⟨rfl, N12q, e12⟩ := hQ12
  have N12 := Fr.app N10 N12q
  have pre13 : ∀ t, Steps p.tables e below (T12.setTop (mkF m 44 #[.val (.int p1), .val (.int v11)] [(.int v11), (.int (F2 p1))])) t → Steps p.tables e below (s₁.setTop (entryFrame m #[(.int p1)] maxLocals)) t := fun t kt => by
    refine pre10 t ?_
    show Steps p.tables e below (T10.setTop (mkF m 38 #[.val (.int p1), .unset] [(.int v11)])) _
    refine XS.istoreN X10.here hx rfl (hb hby at_38) rfl (l' := #[.val (.int p1), .val (.int v11)]) rfl ?_
    show Steps p.tables e below (T10.setTop (mkF m 39 #[.val (.int p1), .val (.int v11)] [])) _
    refine XS.iloadN X10.here hx rfl (hb hby at_39) rfl ?_
    show Steps p.tables e below (T10.setTop (mkF m 40 #[.val (.int p1), .val (.int v11)] [(.int p1)])) _
    refine st12 _ ?_
    show Steps p.tables e below (T12.setTop (mkF m 43 #[.val (.int p1), .val (.int v11)] [(.int (F2 p1))])) _
    refine XS.iloadN X12.here hx rfl (hb hby at_43) rfl ?_
    exact kt
  by_cases hc14 : (F2 p1) = v11
  · obtain ⟨fs, hr, hrun, hended, hW, hsame⟩ := X12.leave (v := some (.int (1 : Int32))) (fun h => by rw [Bd.returns] at h; cases h)
    refine ⟨_, _, pre13 _ ?_, hrun, hended, _, _, rfl, ?_, ⟨_, rfl⟩, hW, hsame.mono (by decide) (by decide)⟩
    · show Steps p.tables e below (T12.setTop (mkF m 44 #[.val (.int p1), .val (.int v11)] [(.int v11), (.int (F2 p1))])) _
      refine XS.icmpNo X12.here hx rfl (hb hby at_44) rfl (teq hc14).2 ?_
      show Steps p.tables e below (T12.setTop (mkF m 47 #[.val (.int p1), .val (.int v11)] [])) _
      refine XS.iconst X12.here hx rfl (hb hby at_47) ?_
      show Steps p.tables e below (T12.setTop (mkF m 48 #[.val (.int p1), .val (.int v11)] [(.int (1 : Int32))])) _
      refine XS.goto X12.here hx rfl (pc0 := 48) (pc' := 52) rfl (hb hby at_48) (by decide) (by decide) ?_
      show Steps p.tables e below (T12.setTop (mkF m 52 #[.val (.int p1), .val (.int v11)] [(.int (1 : Int32))])) _
      exact retN X12 hx (t := .boolean) Bd.returns (by simp) (hb hby at_52) hr
    · show Q0 Z p1 h0 n0 _ T12.heap _
      rw [e12]
      exact ⟨rfl, N12⟩
  · exact (leaf_0_2 p1 v11 hv11 hc14).elim
set_option maxRecDepth 65536 in
set_option maxHeartbeats 40000000 in
theorem comes_1 {Post : Tables → Env → Array Value → State → Outcome → State → Prop} (hpost : ∀ tb e args s v u, (limb_1_1.after args s (.returned v) u = true ∧ limb_1_2.after args s (.returned v) u = true ∧ True) → FrameEnd s (.returned v) u (Jvm.fieldLocs frame_1_writes args s ++ Jvm.arrayLocs frame_1_arrays args s ++ Jvm.staticLocs frame_1_statics s) 0 0 → Post tb e args s (.returned v) u) :
    ArmFor flags0 classFile x code maxLocals ret World_1 tables_1 room_1 Calls_1 rest_1 Pre_1 Post := by
  intro l hfl _ _ p e ha hc hk s m args below hf hA hF happ hP
  obtain ⟨hcalls, hrest, hpre⟩ := hP
  obtain ⟨-, -, -, hnamed, -, -, -, hat⟩ := (Spec.applies_iff hf).mp happ
  obtain ⟨hg, hn⟩ := and_e (Cond.before_iff.mp (show (Jvm.Cond.and given_1 narrow_1).before args s = true from hpre))
  obtain ⟨g1, g2⟩ := and_e hg
  obtain ⟨w0, rfl⟩ : ∃ w0 : Value, args = #[w0] := by
    have hs : args.size = 1 := by simpa [Cond.value, given_1] using g1
    obtain ⟨L⟩ := args
    match L, hs with
    | [w0], _ => exact ⟨w0, rfl⟩
  have hw := fun d (hd : d ∈ tables_1) => atoms_spec (ws := Jvm.Cond.code x code maxLocals ret :: tables_1) hat d (List.mem_cons_of_mem _ hd)
  have hfit : Fit s := fun {y c} hc i hi => by
    obtain ⟨ha, rfl⟩ := Array.getElem?_eq_some_iff.mp hc
    have q := List.all_eq_true.mp ((Array.all_eq_true_iff_forall_mem.mp hF) _ (Array.getElem_mem ha)) i (List.mem_range.mpr hi)
    simpa [Array.getElem?_eq_getElem hi] using q
  obtain ⟨i0, ei0⟩ := is_v g2
  obtain rfl : w0 = (.int i0) := Option.some.inj ei0
  obtain ⟨n, o, h1, h2, h3, _, L, rfl, ⟨rfl, N⟩, hq⟩ := rm0 l s _ hw tables_1 i0 s.heap s.heap.size (Nat.le_refl _) p e ha hc hk s m _ below hf ((Spec.applies_iff_loose hf).mp happ).1 ⟨rfl, State.Warmed39.refl s, rfl⟩ trivial
  refine ⟨n, _, h1, h2, h3, hpost _ _ _ _ _ _ ⟨Cond.after_iff.mpr rfl, Cond.after_iff.mpr (eq_i res_at (Term.int_eval (1)) rfl), trivial⟩ ⟨hq.1, hq.2.1, (hq.2.2.sift fun y hy => Or.inr (N y hy)).mono (by decide) (by decide)⟩⟩
theorem main_1_1 : Claimed_1_1 := comes_1 fun _ _ _ _ _ _ h hF => ⟨h.1, hF⟩
theorem main_1_2 : Claimed_1_2 := comes_1 fun _ _ _ _ _ _ h hF => ⟨h.2.1, hF⟩
end Jvm.Pilot.@@N@@
namespace Jvm.Pilot.@@N@@
open Jvm Jvm.ClassFile Sem Op Lib Jvm.Free Jvm.Stand Jvm.Pilot.@@N@@.Jvm.D
/-! MADE BY PROGRAM (witnessworld.py) out of the Statement's table words and the real class files: 9 classes; the members and pool entries that the words name. The judged class is class 1, her method 2. -/
namespace start1
open Jvm.ClassFile
def u (s : String) : CpInfo := .utf8 (stringToUtf16 s)
/-- a pool by its gaps: so many unusable entries, then the entry; so many at the end -/
def gap : Nat → List CpInfo → List CpInfo
  | 0, r => r
  | n + 1, r => .unusable :: gap n r
def poolList (es : List (Nat × CpInfo)) (last : Nat) : List CpInfo := es.foldr (fun e r => gap e.1 (e.2 :: r)) (gap last [])
def pool (es : List (Nat × CpInfo)) (last : Nat) : Array CpInfo := ⟨poolList es last⟩
def fileOf (pool : Array CpInfo) (this : Nat) (attrs : Array Attribute := #[]) (ms : Array MethodInfo := #[]) (fl : Nat := 33) (sup : Nat := 0) (ifs : Array Nat := #[]) (fds : Array FieldInfo := #[]) : ClassFile where
  minorVersion := 0
  majorVersion := 65
  constantPool := pool
  accessFlags := fl
  thisClass := this
  superClass := sup
  interfaces := ifs
  fields := fds
  methods := ms
  attributes := attrs
def plain (name : String) (sup : Option ClassId) : Class where
  name := name
  kind := .ordinary
  loader := none
  accessFlags := 33
  super := sup
  interfaces := #[]
  cf := none
  fields := #[]
  methods := #[]
  instanceTypes := #[]
  staticTypes := #[]
  resolved := #[]
  callSites := []
  init := .initialized
  statics := none
  mirror := none

def pool0 : Array CpInfo := pool [(5, u "<init>"), (0, u "()V"), (1, .class_ 10), (1, u "java/lang/Object")] 113

def k0m0 : Method := { name := "<init>", desc := "()V", sig := { parameters := [], returnType := none }, accessFlags := 1, code := none }
/-- java/lang/Object -/
def k0 : Class := { plain "java/lang/Object" none with
  accessFlags := 33
  interfaces := #[]
  cf := some (fileOf pool0 8 #[] #[{ accessFlags := 1, nameIndex := 5, descriptorIndex := 6, attributes := #[] }] 33 0 #[] #[])
  fields := #[]
  methods := #[k0m0]
  instanceTypes := #[]
  staticTypes := #[]
  resolved := Array.replicate 124 none
  statics := none }

def pool1 : Array CpInfo := pool [(2, .class_ 4), (1, u "java/lang/Object"), (0, u "<init>"), (0, u "()V"), (0, .integer 57344), (0, .integer 63743), (0, .methodref 10 11), (0, .class_ 12), (0, .nameAndType 13 14), (0, u "com/example/lofu/lofu/text/IriCharactersIsPrivatePinLaw"), (0, u "inRange"), (0, u "(III)Z"), (0, .integer 983040), (0, .integer 1048573), (0, .integer 1048576), (0, .integer 1114109), (0, .methodref 20 21), (0, .class_ 22), (0, .nameAndType 23 24), (0, u "com/example/lofu/lofu/text/IriCharacters"), (0, u "isPrivate"), (0, u "(I)Z"), (3, u "law")] 2

def k1m0 : Method := { name := "<init>", desc := "()V", sig := { parameters := [], returnType := none }, accessFlags := 2, code := none }
def k1c1 : Code := { maxStack := 2, maxLocals := 3, code := method_2_code, exceptionTable := #[], attributes := #[] }
def k1m1 : Method := { name := "inRange", desc := "(III)Z", sig := { parameters := [.int, .int, .int], returnType := some .boolean }, accessFlags := 10, code := some k1c1 }
def k1c2 : Code := { maxStack := 3, maxLocals := 2, code := code, exceptionTable := #[], attributes := #[] }
def k1m2 : Method := { name := "law", desc := "(I)Z", sig := { parameters := [.int], returnType := some .boolean }, accessFlags := 9, code := some k1c2 }
/-- com/example/lofu/lofu/text/IriCharactersIsPrivatePinLaw -/
def k1 : Class := { plain "com/example/lofu/lofu/text/IriCharactersIsPrivatePinLaw" (some 0) with
  accessFlags := 49
  interfaces := #[]
  cf := some (fileOf pool1 10 #[] #[{ accessFlags := 2, nameIndex := 5, descriptorIndex := 6, attributes := #[] }, { accessFlags := 10, nameIndex := 13, descriptorIndex := 14, attributes := #[] }, { accessFlags := 9, nameIndex := 28, descriptorIndex := 24, attributes := #[] }] 49 2 #[] #[])
  fields := #[]
  methods := #[k1m0, k1m1, k1m2]
  instanceTypes := #[]
  staticTypes := #[]
  resolved := Array.replicate 31 none
  statics := none }

def pool2 : Array CpInfo := pool [(2, .class_ 4), (1, u "java/lang/Object"), (0, u "<init>"), (0, u "()V"), (0, .class_ 8), (0, u "com/example/lofu/lofu/text/IriCharacters"), (0, .integer 65536), (5, .integer 65533), (0, .integer 57344), (0, .integer 63743), (0, u "PLANE_SIZE"), (0, u "I"), (1, u "LAST_IN_PLANE"), (3, u "(I)Z"), (1, u "isPrivate")] 2

def k2m0 : Method := { name := "<init>", desc := "()V", sig := { parameters := [], returnType := none }, accessFlags := 2, code := none }
def k2c1 : Code := { maxStack := 2, maxLocals := 4, code := prog_12_method_3_code, exceptionTable := #[], attributes := #[] }
def k2m1 : Method := { name := "isPrivate", desc := "(I)Z", sig := { parameters := [.int], returnType := some .boolean }, accessFlags := 9, code := some k2c1 }
/-- com/example/lofu/lofu/text/IriCharacters -/
def k2 : Class := { plain "com/example/lofu/lofu/text/IriCharacters" (some 0) with
  accessFlags := 49
  interfaces := #[]
  cf := some (fileOf pool2 7 #[] #[{ accessFlags := 2, nameIndex := 5, descriptorIndex := 6, attributes := #[] }, { accessFlags := 9, nameIndex := 27, descriptorIndex := 25, attributes := #[] }] 49 2 #[] #[{ accessFlags := 26, nameIndex := 18, descriptorIndex := 19, attributes := #[] }, { accessFlags := 26, nameIndex := 21, descriptorIndex := 19, attributes := #[] }])
  fields := #[{ name := "PLANE_SIZE", type := .int, accessFlags := 26, slot := 0, constantValue := 0 }, { name := "LAST_IN_PLANE", type := .int, accessFlags := 26, slot := 1, constantValue := 0 }]
  methods := #[k2m0, k2m1]
  instanceTypes := #[]
  staticTypes := #[.int, .int]
  resolved := Array.replicate 30 none
  statics := none }

def pool3 : Array CpInfo := pool [(1, u "java/lang/Cloneable"), (0, .class_ 1), (0, u "java/lang/Object"), (0, .class_ 3)] 3

/-- java/lang/Cloneable -/
def k3 : Class := { plain "java/lang/Cloneable" (some 0) with
  accessFlags := 1537
  interfaces := #[]
  cf := some (fileOf pool3 2 #[] #[] 1537 4 #[] #[])
  fields := #[]
  methods := #[]
  instanceTypes := #[]
  staticTypes := #[]
  resolved := Array.replicate 8 none
  statics := none }

def pool4 : Array CpInfo := pool [(1, u "java/io/Serializable"), (0, .class_ 1), (0, u "java/lang/Object"), (0, .class_ 3)] 3

/-- java/io/Serializable -/
def k4 : Class := { plain "java/io/Serializable" (some 0) with
  accessFlags := 1537
  interfaces := #[]
  cf := some (fileOf pool4 2 #[] #[] 1537 4 #[] #[])
  fields := #[]
  methods := #[]
  instanceTypes := #[]
  staticTypes := #[]
  resolved := Array.replicate 8 none
  statics := none }

/-- the primitive byte -/
def k5 : Class := { plain "byte" none with kind := .primitive 'B', accessFlags := 0x411 }
/-- [B -/
def k6 : Class := { plain "[B" (some 0) with kind := .array 5 .byte, interfaces := #[3, 4], accessFlags := 1041 }

/-- the primitive int -/
def k7 : Class := { plain "int" none with kind := .primitive 'I', accessFlags := 0x411 }
/-- [I -/
def k8 : Class := { plain "[I" (some 0) with kind := .array 7 .int, interfaces := #[3, 4], accessFlags := 1041 }

def heap : Heap := #[]
def classes : Array Class := #[k0, k1, k2, k3, k4, k5, k6, k7, k8]
def interned : List (Array UInt16 × Addr) := []
def slotsUsed : Nat := 0
def theMethod : MethodId := ⟨1, 2⟩
def args0 : Array Value := #[.int 5]
def aboutOver (below : List Frame) : State where
  vm := { classes := classes, interned := interned.toArray }
  heap := heap
  slotsUsed := slotsUsed
  threads := #[{ frames := .invoking theMethod args0 :: below }]
def below0 : List Frame := [.native { method := ⟨0, 0⟩, args := #[] }]
def about1 : State := aboutOver below0
def p0 : Program := .bare "" "" ""
def e0 : Env := launch0.env 0 0 0
theorem w_frames : about1.frames = Frame.invoking theMethod args0 :: below0 := rfl
set_option maxRecDepth 65536 in
theorem w_args : argsFit about1.vm theMethod args0 = true := by decide +kernel
set_option maxRecDepth 65536 in
theorem w_heap : heapFits about1 = true := by decide +kernel
set_option maxRecDepth 65536 in
theorem w_runnable : about1.curStatus? = some .runnable := by decide +kernel
set_option maxRecDepth 65536 in
theorem w_alone : about1.alone = true := by decide +kernel
set_option maxRecDepth 65536 in
theorem w_named : about1.methodNamed? x = some theMethod := by decide +kernel
set_option maxRecDepth 65536 in
theorem w_hears : about1.hears theMethod below0 = true := by decide +kernel
set_option maxRecDepth 65536 in
theorem w_ripe : about1.ripe theMethod args0 below0 = true := by decide +kernel
theorem w_running : about1.status = .running := rfl
set_option maxRecDepth 65536 in
theorem w_room : about1.hasRoom e0.platform room_1 = true :=
  launch0.hasRoom_least _ room_1 (by decide +kernel) (by decide +kernel) (by decide +kernel) (by decide +kernel) (by decide +kernel) (by decide +kernel)
theorem allAtoms_all (ts : List Jvm.Cond) (a : Array Jvm.Value) (st : Jvm.State) : (allAtoms ts).before a st = ts.all (fun c => c.before a st) := by
  induction ts with
  | nil => rfl
  | cons c t ih =>
    show (Jvm.Cond.and c (allAtoms t)).before a st = _
    rw [Jvm.Cond.before_and, ih, List.all_cons]
def words1 : List Jvm.Cond := Jvm.Cond.code x code maxLocals ret :: tables_1
/-- a 'code' word, met by the world's own term for the bytes: nothing is compared byte by byte -/
theorem code_word {y : MethodName} {bytes : ByteArray} {mx : Nat} {rt : Option FieldType} {a : Array Value} {s : State} {m : MethodId} {meth : Method} {c : Code} (h1 : s.methodNamed? y = some m) (h2 : s.vm.method? m = some meth) (h3 : meth.code = some c) (h4 : c.code = bytes)
    (h5 : (c.maxLocals == mx && c.exceptionTable.isEmpty && decide (c.maxStack ≤ mostOperands) && decide (meth.sig.returnType = rt) && !meth.locks && decide (parseMethodDescriptor y.desc = some meth.sig)) = true) : (Jvm.Cond.code y bytes mx rt).before a s = true := by
  simp only [Bool.and_eq_true, beq_iff_eq, Bool.not_eq_true', decide_eq_true_eq] at h5
  obtain ⟨⟨⟨⟨⟨g1, g2⟩, g3⟩, g4⟩, g5⟩, g6⟩ := h5
  simp [Cond.before, Cond.holds, Cond.value, h1, h2, h3, h4, g1, g2, g3, g4, g5, g6]
def isCode : Jvm.Cond → Bool
  | .code _ _ _ _ => true
  | _ => false
theorem all_split {L : List Jvm.Cond} {P : Jvm.Cond → Bool} (h1 : L.all (fun c => isCode c || P c) = true) (h2 : ∀ c ∈ L.filter isCode, P c = true) : L.all P = true := by
  refine List.all_eq_true.mpr fun c hc => ?_
  have h := List.all_eq_true.mp h1 c hc
  rcases Bool.eq_false_or_eq_true (isCode c) with hi | hi
  · exact h2 c (List.mem_filter.mpr ⟨hc, hi⟩)
  · simpa [hi] using h
set_option maxRecDepth 65536 in
theorem w_c0 : (Jvm.Cond.code x code maxLocals ret).before args0 about1 = true := code_word (m := ⟨1, 2⟩) (meth := k1m2) (c := k1c2) (by decide +kernel) rfl rfl rfl (by decide +kernel)
set_option maxRecDepth 65536 in
theorem w_c1 : (Jvm.Cond.code ({ cls := "com/example/lofu/lofu/text/IriCharactersIsPrivatePinLaw", name := "inRange", desc := "(III)Z" } : Jvm.MethodName) method_2_code (3 : Nat) (Option.some Jvm.ClassFile.FieldType.boolean)).before args0 about1 = true := code_word (m := ⟨1, 1⟩) (meth := k1m1) (c := k1c1) (by decide +kernel) rfl rfl rfl (by decide +kernel)
set_option maxRecDepth 65536 in
theorem w_c2 : (Jvm.Cond.code ({ cls := "com/example/lofu/lofu/text/IriCharacters", name := "isPrivate", desc := "(I)Z" } : Jvm.MethodName) prog_12_method_3_code (4 : Nat) (Option.some Jvm.ClassFile.FieldType.boolean)).before args0 about1 = true := code_word (m := ⟨2, 1⟩) (meth := k2m1) (c := k2c1) (by decide +kernel) rfl rfl rfl (by decide +kernel)
def codes1 : List Jvm.Cond := [Jvm.Cond.code x code maxLocals ret, Jvm.Cond.code ({ cls := "com/example/lofu/lofu/text/IriCharactersIsPrivatePinLaw", name := "inRange", desc := "(III)Z" } : Jvm.MethodName) method_2_code (3 : Nat) (Option.some Jvm.ClassFile.FieldType.boolean), Jvm.Cond.code ({ cls := "com/example/lofu/lofu/text/IriCharacters", name := "isPrivate", desc := "(I)Z" } : Jvm.MethodName) prog_12_method_3_code (4 : Nat) (Option.some Jvm.ClassFile.FieldType.boolean)]
set_option maxRecDepth 65536 in
theorem codes_eq : words1.filter isCode = codes1 := rfl
theorem w_codes : ∀ c ∈ words1.filter isCode, c.before args0 about1 = true := by
  rw [codes_eq]
  intro c hc
  simp only [codes1, List.mem_cons, List.not_mem_nil, or_false] at hc
  rcases hc with rfl | rfl | rfl
  · exact w_c0
  · exact w_c1
  · exact w_c2
set_option maxRecDepth 65536 in
theorem w_t1 : words1.all (fun c => isCode c || c.before args0 about1) = true := by decide +kernel
theorem w_tables : (allAtoms (Jvm.Cond.code x code maxLocals ret :: tables_1)).before args0 about1 = true := by
  rw [allAtoms_all]
  show words1.all (fun c => c.before args0 about1) = true
  refine all_split ?_ w_codes
  rw [w_t1]
set_option maxRecDepth 65536 in
theorem w_case : (Jvm.Cond.and given_1 narrow_1).before args0 about1 = true := by decide +kernel
theorem w_applies : (headSpec (Jvm.Cond.code x code maxLocals ret :: tables_1) room_1).applies x e0.platform about1 = true :=
  (Spec.applies_iff w_frames).mpr ⟨w_running, w_runnable, w_alone, w_named, w_hears, w_ripe, w_room, w_tables⟩
theorem atStart : AtStart classFile x code maxLocals ret World_1 tables_1 room_1 Calls_1 rest_1 Pre_1 launch0 p0 e0 about1 theMethod args0 below0 :=
  ⟨lists_1, trivial, launch0.admits_env _ _ _, launch0.least_env, fairChoices_fair.cas, fairChoices_fair.clock, w_frames, w_args, w_heap, w_applies, trivial, trivial, w_case⟩
end start1
theorem witness_1 : WitnessClaimed_1 := ⟨start1.p0, start1.e0, start1.about1, start1.theMethod, start1.args0, start1.below0, start1.atStart⟩
end Jvm.Pilot.@@N@@
