import JvmDerived
import JvmDerived.Pilot.@@N@@Statement
import JvmDerived.Pilot.@@N@@Code
set_option linter.unusedVariables false
set_option linter.unusedSimpArgs false
namespace Jvm.RoadKit
open Sem ClassFile Op Lib Jvm.Stand Jvm.Free Jvm.LawKit
section New
variable {p : Program} {l : Launch} {e : Env} {R : Room} {s : State} {m : MethodId} {args : Array Value} {below : List Frame} {meth : Method} {c : Code} {T : State} {locs : List Loc} {cells slots : Nat}
theorem retI (X : Stand p l e R s m args below meth c T locs cells slots) (hx : p.tables.exec = Jvm.exec) {pc : Nat} {Ls : Array Slot} {z : Int32} {rest : List Value} (hret : meth.sig.returnType = some .int) (hd : decode c.code pc = .ok (.ireturn, 1)) {fs : List Frame}
    (hl : ∀ (f : JFrame) (acts : List Action), f.method = m → f.locked = none → f.entered = [] → (doReturn e (T.setTop f) acts (some (.int z))).1 = T.setFrames fs) : Steps p.tables e below (T.setTop (mkF m pc Ls (.int z :: rest))) (T.setFrames fs) := by
  have hm' : T.vm.method? m = some meth := X.method'
  have hn : narrow .int (.int z) = .int z := rfl
  show Steps p.tables e below (T.setTop { method := m, pc := pc, locals := Ls, stack := _ :: rest, locked := none }) _
  jvm_step X.here [X.here.top, hx, hd, hm', hret, hn]
  first | (intro acts; rw [hl _ acts rfl rfl rfl]) | rw [hl _ _ rfl rfl rfl]
  exact Steps.refl _
end New
end Jvm.RoadKit

@@BLOCK:NumsL.lean.txt@@

namespace Jvm.Pilot.@@N@@
open Jvm Jvm.ClassFile Sem Op Lib Jvm.Free Jvm.Stand Jvm.LawKit Jvm.RoadKit Bundle Jvm.Pilot.@@N@@.Jvm.D
def own_at (L : List Int32) (j : Int32) : Int32 := L.getD j.toNatClampNeg 0
theorem own_getD (L : List Int32) (i : Nat) : (L.map Value.int).getD i (.int (0 : Int32)) = .int (L.getD i 0) := by
  induction L generalizing i with
  | nil => rfl
  | cons a t ih => cases i with
    | zero => rfl
    | succ i => exact ih i

theorem own_eqI {a b : Int32} : a = b ↔ a.toInt = b.toInt := Int32.toInt_inj.symm
theorem own_ltI {a b : Int32} : a < b ↔ a.toInt < b.toInt := Int32.lt_iff_toInt_lt
theorem own_bd (a : Int32) : -2147483648 ≤ a.toInt ∧ a.toInt < 2147483648 := ⟨Int32.le_toInt a, Int32.toInt_lt a⟩
theorem own_tdiv (x m : Int) (hm : 0 < m) : (0 ≤ x → x.tdiv m = x / m ∧ x.tmod m = x % m) ∧ (x < 0 → x.tdiv m = -((-x) / m) ∧ x.tmod m = -((-x) % m)) := by
  refine ⟨fun h => ⟨Int.tdiv_eq_ediv_of_nonneg h, Int.tmod_eq_emod_of_nonneg h⟩, fun h => ?_⟩
  have h1 : x = -(-x) := by omega
  have a1 : (-(-x)).tdiv m = -((-x).tdiv m) := Int.neg_tdiv ..
  have a2 : (-(-x)).tmod m = -((-x).tmod m) := Int.neg_tmod ..
  rw [← h1] at a1 a2
  rw [a1, a2, Int.tdiv_eq_ediv_of_nonneg (by omega), Int.tmod_eq_emod_of_nonneg (by omega)]
  exact ⟨rfl, rfl⟩
theorem own_dm (a k : Int32) (hk : 1 < k.toInt) : (0 ≤ a.toInt → (a / k).toInt = a.toInt / k.toInt ∧ (a % k).toInt = a.toInt % k.toInt) ∧ (a.toInt < 0 → (a / k).toInt = -((-a.toInt) / k.toInt) ∧ (a % k).toInt = -((-a.toInt) % k.toInt)) := by
  have e1 : (a / k).toInt = a.toInt.tdiv k.toInt := Jvm.Kit.i32_div (fun h => by omega)
  have e2 : (a % k).toInt = a.toInt.tmod k.toInt := Jvm.Kit.i32_rem a k
  rw [e1, e2]
  exact own_tdiv _ _ (by omega)

theorem d1_0 : decode prog_30_method_8_code 0 = .ok (.iload_n 0, 1) := by decide +kernel
theorem d1_1 : decode prog_30_method_8_code 1 = .ok (.bipush 9, 2) := by decide +kernel
theorem d1_3 : decode prog_30_method_8_code 3 = .ok (.if_icmp .eq 51, 3) := by decide +kernel
theorem d1_6 : decode prog_30_method_8_code 6 = .ok (.iload_n 0, 1) := by decide +kernel
theorem d1_7 : decode prog_30_method_8_code 7 = .ok (.bipush 10, 2) := by decide +kernel
theorem d1_9 : decode prog_30_method_8_code 9 = .ok (.if_icmp .eq 45, 3) := by decide +kernel
theorem d1_12 : decode prog_30_method_8_code 12 = .ok (.iload_n 0, 1) := by decide +kernel
theorem d1_13 : decode prog_30_method_8_code 13 = .ok (.bipush 13, 2) := by decide +kernel
theorem d1_15 : decode prog_30_method_8_code 15 = .ok (.if_icmp .eq 39, 3) := by decide +kernel
theorem d1_18 : decode prog_30_method_8_code 18 = .ok (.iload_n 0, 1) := by decide +kernel
theorem d1_19 : decode prog_30_method_8_code 19 = .ok (.bipush 32, 2) := by decide +kernel
theorem d1_21 : decode prog_30_method_8_code 21 = .ok (.if_icmp .lt 9, 3) := by decide +kernel
theorem d1_24 : decode prog_30_method_8_code 24 = .ok (.iload_n 0, 1) := by decide +kernel
theorem d1_25 : decode prog_30_method_8_code 25 = .ok (.ldc 110, 2) := by decide +kernel
theorem d1_27 : decode prog_30_method_8_code 27 = .ok (.if_icmp .le 27, 3) := by decide +kernel
theorem d1_30 : decode prog_30_method_8_code 30 = .ok (.iload_n 0, 1) := by decide +kernel
theorem d1_31 : decode prog_30_method_8_code 31 = .ok (.ldc 111, 2) := by decide +kernel
theorem d1_33 : decode prog_30_method_8_code 33 = .ok (.if_icmp .lt 9, 3) := by decide +kernel
theorem d1_36 : decode prog_30_method_8_code 36 = .ok (.iload_n 0, 1) := by decide +kernel
theorem d1_37 : decode prog_30_method_8_code 37 = .ok (.ldc 112, 2) := by decide +kernel
theorem d1_39 : decode prog_30_method_8_code 39 = .ok (.if_icmp .le 15, 3) := by decide +kernel
theorem d1_42 : decode prog_30_method_8_code 42 = .ok (.iload_n 0, 1) := by decide +kernel
theorem d1_43 : decode prog_30_method_8_code 43 = .ok (.ldc 113, 2) := by decide +kernel
theorem d1_45 : decode prog_30_method_8_code 45 = .ok (.if_icmp .lt 13, 3) := by decide +kernel
theorem d1_48 : decode prog_30_method_8_code 48 = .ok (.iload_n 0, 1) := by decide +kernel
theorem d1_49 : decode prog_30_method_8_code 49 = .ok (.ldc 114, 2) := by decide +kernel
theorem d1_51 : decode prog_30_method_8_code 51 = .ok (.if_icmp .gt 7, 3) := by decide +kernel
theorem d1_54 : decode prog_30_method_8_code 54 = .ok (.iconst 1, 1) := by decide +kernel
theorem d1_55 : decode prog_30_method_8_code 55 = .ok (.goto 4, 3) := by decide +kernel
theorem d1_58 : decode prog_30_method_8_code 58 = .ok (.iconst 0, 1) := by decide +kernel
theorem d1_59 : decode prog_30_method_8_code 59 = .ok (.ireturn, 1) := by decide +kernel
theorem pn_1 : plainName "com/example/trampoline/trampoline/manifest/XmlChars" = true := by first | (simp [plainName, overriddenIn]; done) | decide +kernel
theorem ef_1 (m : MethodId) (p1 : Int32) : entryFrame m #[(.int p1)] 1 = mkF m 0 #[.val (.int p1)] [] := by first | (simp [entryFrame, mkF, argsToLocals, Value.category]; done) | rfl
def F1 (p1 : Int32) : Int32 := (if p1 = (9 : Int32) then (1 : Int32) else (if p1 = (10 : Int32) then (1 : Int32) else (if p1 = (13 : Int32) then (1 : Int32) else (if p1 < (32 : Int32) then (if p1 < (57344 : Int32) then (if p1 < (65536 : Int32) then (0 : Int32) else (if (1114111 : Int32) < p1 then (0 : Int32) else (1 : Int32))) else (if (65533 : Int32) < p1 then (if p1 < (65536 : Int32) then (0 : Int32) else (if (1114111 : Int32) < p1 then (0 : Int32) else (1 : Int32))) else (1 : Int32))) else (if (55295 : Int32) < p1 then (if p1 < (57344 : Int32) then (if p1 < (65536 : Int32) then (0 : Int32) else (if (1114111 : Int32) < p1 then (0 : Int32) else (1 : Int32))) else (if (65533 : Int32) < p1 then (if p1 < (65536 : Int32) then (0 : Int32) else (if (1114111 : Int32) < p1 then (0 : Int32) else (1 : Int32))) else (1 : Int32))) else (1 : Int32))))))
def Q1 (Z : State) (p1 : Int32) (h0 : Heap) (n0 : Nat) (v : Option Value) (h : Heap) (L : List Loc) : Prop := v = some (.int (F1 p1)) ∧ Fr n0 L ∧ h = h0
set_option maxRecDepth 65536 in
set_option maxHeartbeats 40000000 in
theorem rm1 (l : Launch) (Z : State) (a0 : Array Value) (hw : ∀ d ∈ tables_1, d.before a0 Z = true) (ws : List Jvm.Cond) (p1 : Int32) (h0 : Heap) (n0 : Nat) (Z0 : n0 ≤ h0.size) :
    MetFree l (⟨"com/example/trampoline/trampoline/manifest/XmlChars", "isXmlChar", "(I)Z"⟩ : MethodName) (head1 (Jvm.Cond.code (⟨"com/example/trampoline/trampoline/manifest/XmlChars", "isXmlChar", "(I)Z"⟩ : MethodName) prog_30_method_8_code 1 (some .boolean) :: ws) ({ frames := 0, cells := 0, slots := 0, locals := 0 } : Room)) (fun a U => a = #[(.int p1)] ∧ Z.Warmed39 U.vm ∧ U.heap = h0) (fun _ _ _ _ _ => True) (fun _ U o U' => ∃ v L, o = .returned v ∧ Q1 Z p1 h0 n0 v U'.heap L ∧ FrameEnd U o U' L ({ frames := 0, cells := 0, slots := 0, locals := 0 } : Room).cells ({ frames := 0, cells := 0, slots := 0, locals := 0 } : Room).slots) := by
  refine MetFree.of_bodySF (plainFor_of_name pn_1) hisR ?_
  intro p e s m args below meth c s₁ Bd hml0 hP hK
  obtain ⟨rfl, hZ, hh⟩ := hP
  have hx := Bd.exec
  have hby := Bd.bytes
  have hml : c.maxLocals = 1 := hml0
  have hown : s.vm.findClass "com/example/trampoline/trampoline/manifest/XmlChars" = some m.cls := findClass_of_methodNamed Bd.named
  have hnm := (name_of_methodNamed Bd.named Bd.method).1
  have X0 : Stand p l e ({ frames := 0, cells := 0, slots := 0, locals := 0 } : Room) s m #[(.int p1)] below meth c s₁ [] 0 0 := Stand.of_body Bd
  have e0 : s₁.heap = h0 := by rw [← hh, Bd.state]; rfl
  have N0 := Fr.nil n0
  have pre0 : ∀ t, Steps p.tables e below (s₁.setTop (mkF m 0 #[.val (.int p1)] [])) t → Steps p.tables e below (s₁.setTop (entryFrame m #[(.int p1)] 1)) t := fun t k => castTop (ef_1 m p1) k
  have pre1 : ∀ t, Steps p.tables e below (s₁.setTop (mkF m 3 #[.val (.int p1)] [(.int (9 : Int32)), (.int p1)])) t → Steps p.tables e below (s₁.setTop (entryFrame m #[(.int p1)] 1)) t := fun t kt => by
    refine pre0 t ?_
    show Steps p.tables e below (s₁.setTop (mkF m 0 #[.val (.int p1)] [])) _
    refine XS.iloadN X0.here hx rfl (hb hby d1_0) rfl ?_
    show Steps p.tables e below (s₁.setTop (mkF m 1 #[.val (.int p1)] [(.int p1)])) _
    refine XS.bipush X0.here hx rfl (hb hby d1_1) ?_
    exact kt
  by_cases hc2 : p1 = (9 : Int32)
  · obtain ⟨fs, hr, hrun, hended, hW, hsame⟩ := X0.leave (v := some (.int (1 : Int32))) (fun h => by rw [Bd.returns] at h; cases h)
    refine ⟨_, _, pre1 _ ?_, hrun, hended, _, _, rfl, ?_, ⟨_, rfl⟩, hW, hsame.mono (by decide) (by decide)⟩
    · show Steps p.tables e below (s₁.setTop (mkF m 3 #[.val (.int p1)] [(.int (9 : Int32)), (.int p1)])) _
      refine XS.icmpYes X0.here hx rfl (pc0 := 3) (pc' := 54) rfl (hb hby d1_3) rfl (teq hc2).1 (by decide) (by decide) ?_
      show Steps p.tables e below (s₁.setTop (mkF m 54 #[.val (.int p1)] [])) _
      refine XS.iconst X0.here hx rfl (hb hby d1_54) ?_
      show Steps p.tables e below (s₁.setTop (mkF m 55 #[.val (.int p1)] [(.int (1 : Int32))])) _
      refine XS.goto X0.here hx rfl (pc0 := 55) (pc' := 59) rfl (hb hby d1_55) (by decide) (by decide) ?_
      show Steps p.tables e below (s₁.setTop (mkF m 59 #[.val (.int p1)] [(.int (1 : Int32))])) _
      exact retN X0 hx (t := .boolean) Bd.returns (by simp) (hb hby d1_59) hr
    · show Q1 Z p1 h0 n0 _ s₁.heap _
      rw [e0]
      refine ⟨?_, N0, rfl⟩
      show (some (.int (1 : Int32)) : Option Value) = some (.int (F1 p1))
      rw [F1, if_pos hc2]
  · have pre3 : ∀ t, Steps p.tables e below (s₁.setTop (mkF m 9 #[.val (.int p1)] [(.int (10 : Int32)), (.int p1)])) t → Steps p.tables e below (s₁.setTop (entryFrame m #[(.int p1)] 1)) t := fun t kt => by
      refine pre1 t ?_
      show Steps p.tables e below (s₁.setTop (mkF m 3 #[.val (.int p1)] [(.int (9 : Int32)), (.int p1)])) _
      refine XS.icmpNo X0.here hx rfl (hb hby d1_3) rfl (feq hc2).1 ?_
      show Steps p.tables e below (s₁.setTop (mkF m 6 #[.val (.int p1)] [])) _
      refine XS.iloadN X0.here hx rfl (hb hby d1_6) rfl ?_
      show Steps p.tables e below (s₁.setTop (mkF m 7 #[.val (.int p1)] [(.int p1)])) _
      refine XS.bipush X0.here hx rfl (hb hby d1_7) ?_
      exact kt
    by_cases hc4 : p1 = (10 : Int32)
    · obtain ⟨fs, hr, hrun, hended, hW, hsame⟩ := X0.leave (v := some (.int (1 : Int32))) (fun h => by rw [Bd.returns] at h; cases h)
      refine ⟨_, _, pre3 _ ?_, hrun, hended, _, _, rfl, ?_, ⟨_, rfl⟩, hW, hsame.mono (by decide) (by decide)⟩
      · show Steps p.tables e below (s₁.setTop (mkF m 9 #[.val (.int p1)] [(.int (10 : Int32)), (.int p1)])) _
        refine XS.icmpYes X0.here hx rfl (pc0 := 9) (pc' := 54) rfl (hb hby d1_9) rfl (teq hc4).1 (by decide) (by decide) ?_
        show Steps p.tables e below (s₁.setTop (mkF m 54 #[.val (.int p1)] [])) _
        refine XS.iconst X0.here hx rfl (hb hby d1_54) ?_
        show Steps p.tables e below (s₁.setTop (mkF m 55 #[.val (.int p1)] [(.int (1 : Int32))])) _
        refine XS.goto X0.here hx rfl (pc0 := 55) (pc' := 59) rfl (hb hby d1_55) (by decide) (by decide) ?_
        show Steps p.tables e below (s₁.setTop (mkF m 59 #[.val (.int p1)] [(.int (1 : Int32))])) _
        exact retN X0 hx (t := .boolean) Bd.returns (by simp) (hb hby d1_59) hr
      · show Q1 Z p1 h0 n0 _ s₁.heap _
        rw [e0]
        refine ⟨?_, N0, rfl⟩
        show (some (.int (1 : Int32)) : Option Value) = some (.int (F1 p1))
        rw [F1, if_neg hc2, if_pos hc4]
    · have pre5 : ∀ t, Steps p.tables e below (s₁.setTop (mkF m 15 #[.val (.int p1)] [(.int (13 : Int32)), (.int p1)])) t → Steps p.tables e below (s₁.setTop (entryFrame m #[(.int p1)] 1)) t := fun t kt => by
        refine pre3 t ?_
        show Steps p.tables e below (s₁.setTop (mkF m 9 #[.val (.int p1)] [(.int (10 : Int32)), (.int p1)])) _
        refine XS.icmpNo X0.here hx rfl (hb hby d1_9) rfl (feq hc4).1 ?_
        show Steps p.tables e below (s₁.setTop (mkF m 12 #[.val (.int p1)] [])) _
        refine XS.iloadN X0.here hx rfl (hb hby d1_12) rfl ?_
        show Steps p.tables e below (s₁.setTop (mkF m 13 #[.val (.int p1)] [(.int p1)])) _
        refine XS.bipush X0.here hx rfl (hb hby d1_13) ?_
        exact kt
      by_cases hc6 : p1 = (13 : Int32)
      · obtain ⟨fs, hr, hrun, hended, hW, hsame⟩ := X0.leave (v := some (.int (1 : Int32))) (fun h => by rw [Bd.returns] at h; cases h)
        refine ⟨_, _, pre5 _ ?_, hrun, hended, _, _, rfl, ?_, ⟨_, rfl⟩, hW, hsame.mono (by decide) (by decide)⟩
        · show Steps p.tables e below (s₁.setTop (mkF m 15 #[.val (.int p1)] [(.int (13 : Int32)), (.int p1)])) _
          refine XS.icmpYes X0.here hx rfl (pc0 := 15) (pc' := 54) rfl (hb hby d1_15) rfl (teq hc6).1 (by decide) (by decide) ?_
          show Steps p.tables e below (s₁.setTop (mkF m 54 #[.val (.int p1)] [])) _
          refine XS.iconst X0.here hx rfl (hb hby d1_54) ?_
          show Steps p.tables e below (s₁.setTop (mkF m 55 #[.val (.int p1)] [(.int (1 : Int32))])) _
          refine XS.goto X0.here hx rfl (pc0 := 55) (pc' := 59) rfl (hb hby d1_55) (by decide) (by decide) ?_
          show Steps p.tables e below (s₁.setTop (mkF m 59 #[.val (.int p1)] [(.int (1 : Int32))])) _
          exact retN X0 hx (t := .boolean) Bd.returns (by simp) (hb hby d1_59) hr
        · show Q1 Z p1 h0 n0 _ s₁.heap _
          rw [e0]
          refine ⟨?_, N0, rfl⟩
          show (some (.int (1 : Int32)) : Option Value) = some (.int (F1 p1))
          rw [F1, if_neg hc2, if_neg hc4, if_pos hc6]
      · have pre7 : ∀ t, Steps p.tables e below (s₁.setTop (mkF m 21 #[.val (.int p1)] [(.int (32 : Int32)), (.int p1)])) t → Steps p.tables e below (s₁.setTop (entryFrame m #[(.int p1)] 1)) t := fun t kt => by
          refine pre5 t ?_
          show Steps p.tables e below (s₁.setTop (mkF m 15 #[.val (.int p1)] [(.int (13 : Int32)), (.int p1)])) _
          refine XS.icmpNo X0.here hx rfl (hb hby d1_15) rfl (feq hc6).1 ?_
          show Steps p.tables e below (s₁.setTop (mkF m 18 #[.val (.int p1)] [])) _
          refine XS.iloadN X0.here hx rfl (hb hby d1_18) rfl ?_
          show Steps p.tables e below (s₁.setTop (mkF m 19 #[.val (.int p1)] [(.int p1)])) _
          refine XS.bipush X0.here hx rfl (hb hby d1_19) ?_
          exact kt
        by_cases hc8 : p1 < (32 : Int32)
        · have pre9 : ∀ t, Steps p.tables e below (s₁.setTop (mkF m 33 #[.val (.int p1)] [(.int (57344 : Int32)), (.int p1)])) t → Steps p.tables e below (s₁.setTop (entryFrame m #[(.int p1)] 1)) t := fun t kt => by
            refine pre7 t ?_
            show Steps p.tables e below (s₁.setTop (mkF m 21 #[.val (.int p1)] [(.int (32 : Int32)), (.int p1)])) _
            refine XS.icmpYes X0.here hx rfl (pc0 := 21) (pc' := 30) rfl (hb hby d1_21) rfl (tlt hc8).1 (by decide) (by decide) ?_
            show Steps p.tables e below (s₁.setTop (mkF m 30 #[.val (.int p1)] [])) _
            refine XS.iloadN X0.here hx rfl (hb hby d1_30) rfl ?_
            show Steps p.tables e below (s₁.setTop (mkF m 31 #[.val (.int p1)] [(.int p1)])) _
            refine X0.ldcInt hx hown (mvT hZ (hw _ (List.mem_of_getElem? (i := 17) rfl))) (g := (mkF m 31 #[.val (.int p1)] [(.int p1)])) rfl (hb hby d1_31) _ ?_
            exact kt
          by_cases hc10 : p1 < (57344 : Int32)
          · have pre11 : ∀ t, Steps p.tables e below (s₁.setTop (mkF m 45 #[.val (.int p1)] [(.int (65536 : Int32)), (.int p1)])) t → Steps p.tables e below (s₁.setTop (entryFrame m #[(.int p1)] 1)) t := fun t kt => by
              refine pre9 t ?_
              show Steps p.tables e below (s₁.setTop (mkF m 33 #[.val (.int p1)] [(.int (57344 : Int32)), (.int p1)])) _
              refine XS.icmpYes X0.here hx rfl (pc0 := 33) (pc' := 42) rfl (hb hby d1_33) rfl (tlt hc10).1 (by decide) (by decide) ?_
              show Steps p.tables e below (s₁.setTop (mkF m 42 #[.val (.int p1)] [])) _
              refine XS.iloadN X0.here hx rfl (hb hby d1_42) rfl ?_
              show Steps p.tables e below (s₁.setTop (mkF m 43 #[.val (.int p1)] [(.int p1)])) _
              refine X0.ldcInt hx hown (mvT hZ (hw _ (List.mem_of_getElem? (i := 18) rfl))) (g := (mkF m 43 #[.val (.int p1)] [(.int p1)])) rfl (hb hby d1_43) _ ?_
              exact kt
            by_cases hc12 : p1 < (65536 : Int32)
            · obtain ⟨fs, hr, hrun, hended, hW, hsame⟩ := X0.leave (v := some (.int (0 : Int32))) (fun h => by rw [Bd.returns] at h; cases h)
              refine ⟨_, _, pre11 _ ?_, hrun, hended, _, _, rfl, ?_, ⟨_, rfl⟩, hW, hsame.mono (by decide) (by decide)⟩
              · show Steps p.tables e below (s₁.setTop (mkF m 45 #[.val (.int p1)] [(.int (65536 : Int32)), (.int p1)])) _
                refine XS.icmpYes X0.here hx rfl (pc0 := 45) (pc' := 58) rfl (hb hby d1_45) rfl (tlt hc12).1 (by decide) (by decide) ?_
                show Steps p.tables e below (s₁.setTop (mkF m 58 #[.val (.int p1)] [])) _
                refine XS.iconst X0.here hx rfl (hb hby d1_58) ?_
                show Steps p.tables e below (s₁.setTop (mkF m 59 #[.val (.int p1)] [(.int (0 : Int32))])) _
                exact retN X0 hx (t := .boolean) Bd.returns (by simp) (hb hby d1_59) hr
              · show Q1 Z p1 h0 n0 _ s₁.heap _
                rw [e0]
                refine ⟨?_, N0, rfl⟩
                show (some (.int (0 : Int32)) : Option Value) = some (.int (F1 p1))
                rw [F1, if_neg hc2, if_neg hc4, if_neg hc6, if_pos hc8, if_pos hc10, if_pos hc12]
            · have pre13 : ∀ t, Steps p.tables e below (s₁.setTop (mkF m 51 #[.val (.int p1)] [(.int (1114111 : Int32)), (.int p1)])) t → Steps p.tables e below (s₁.setTop (entryFrame m #[(.int p1)] 1)) t := fun t kt => by
                refine pre11 t ?_
                show Steps p.tables e below (s₁.setTop (mkF m 45 #[.val (.int p1)] [(.int (65536 : Int32)), (.int p1)])) _
                refine XS.icmpNo X0.here hx rfl (hb hby d1_45) rfl (flt hc12).1 ?_
                show Steps p.tables e below (s₁.setTop (mkF m 48 #[.val (.int p1)] [])) _
                refine XS.iloadN X0.here hx rfl (hb hby d1_48) rfl ?_
                show Steps p.tables e below (s₁.setTop (mkF m 49 #[.val (.int p1)] [(.int p1)])) _
                refine X0.ldcInt hx hown (mvT hZ (hw _ (List.mem_of_getElem? (i := 25) rfl))) (g := (mkF m 49 #[.val (.int p1)] [(.int p1)])) rfl (hb hby d1_49) _ ?_
                exact kt
              by_cases hc14 : (1114111 : Int32) < p1
              · obtain ⟨fs, hr, hrun, hended, hW, hsame⟩ := X0.leave (v := some (.int (0 : Int32))) (fun h => by rw [Bd.returns] at h; cases h)
                refine ⟨_, _, pre13 _ ?_, hrun, hended, _, _, rfl, ?_, ⟨_, rfl⟩, hW, hsame.mono (by decide) (by decide)⟩
                · show Steps p.tables e below (s₁.setTop (mkF m 51 #[.val (.int p1)] [(.int (1114111 : Int32)), (.int p1)])) _
                  refine XS.icmpYes X0.here hx rfl (pc0 := 51) (pc' := 58) rfl (hb hby d1_51) rfl (tlt hc14).2.2.1 (by decide) (by decide) ?_
                  show Steps p.tables e below (s₁.setTop (mkF m 58 #[.val (.int p1)] [])) _
                  refine XS.iconst X0.here hx rfl (hb hby d1_58) ?_
                  show Steps p.tables e below (s₁.setTop (mkF m 59 #[.val (.int p1)] [(.int (0 : Int32))])) _
                  exact retN X0 hx (t := .boolean) Bd.returns (by simp) (hb hby d1_59) hr
                · show Q1 Z p1 h0 n0 _ s₁.heap _
                  rw [e0]
                  refine ⟨?_, N0, rfl⟩
                  show (some (.int (0 : Int32)) : Option Value) = some (.int (F1 p1))
                  rw [F1, if_neg hc2, if_neg hc4, if_neg hc6, if_pos hc8, if_pos hc10, if_neg hc12, if_pos hc14]
              · obtain ⟨fs, hr, hrun, hended, hW, hsame⟩ := X0.leave (v := some (.int (1 : Int32))) (fun h => by rw [Bd.returns] at h; cases h)
                refine ⟨_, _, pre13 _ ?_, hrun, hended, _, _, rfl, ?_, ⟨_, rfl⟩, hW, hsame.mono (by decide) (by decide)⟩
                · show Steps p.tables e below (s₁.setTop (mkF m 51 #[.val (.int p1)] [(.int (1114111 : Int32)), (.int p1)])) _
                  refine XS.icmpNo X0.here hx rfl (hb hby d1_51) rfl (flt hc14).2.2.1 ?_
                  show Steps p.tables e below (s₁.setTop (mkF m 54 #[.val (.int p1)] [])) _
                  refine XS.iconst X0.here hx rfl (hb hby d1_54) ?_
                  show Steps p.tables e below (s₁.setTop (mkF m 55 #[.val (.int p1)] [(.int (1 : Int32))])) _
                  refine XS.goto X0.here hx rfl (pc0 := 55) (pc' := 59) rfl (hb hby d1_55) (by decide) (by decide) ?_
                  show Steps p.tables e below (s₁.setTop (mkF m 59 #[.val (.int p1)] [(.int (1 : Int32))])) _
                  exact retN X0 hx (t := .boolean) Bd.returns (by simp) (hb hby d1_59) hr
                · show Q1 Z p1 h0 n0 _ s₁.heap _
                  rw [e0]
                  refine ⟨?_, N0, rfl⟩
                  show (some (.int (1 : Int32)) : Option Value) = some (.int (F1 p1))
                  rw [F1, if_neg hc2, if_neg hc4, if_neg hc6, if_pos hc8, if_pos hc10, if_neg hc12, if_neg hc14]
          · have pre15 : ∀ t, Steps p.tables e below (s₁.setTop (mkF m 39 #[.val (.int p1)] [(.int (65533 : Int32)), (.int p1)])) t → Steps p.tables e below (s₁.setTop (entryFrame m #[(.int p1)] 1)) t := fun t kt => by
              refine pre9 t ?_
              show Steps p.tables e below (s₁.setTop (mkF m 33 #[.val (.int p1)] [(.int (57344 : Int32)), (.int p1)])) _
              refine XS.icmpNo X0.here hx rfl (hb hby d1_33) rfl (flt hc10).1 ?_
              show Steps p.tables e below (s₁.setTop (mkF m 36 #[.val (.int p1)] [])) _
              refine XS.iloadN X0.here hx rfl (hb hby d1_36) rfl ?_
              show Steps p.tables e below (s₁.setTop (mkF m 37 #[.val (.int p1)] [(.int p1)])) _
              refine X0.ldcInt hx hown (mvT hZ (hw _ (List.mem_of_getElem? (i := 24) rfl))) (g := (mkF m 37 #[.val (.int p1)] [(.int p1)])) rfl (hb hby d1_37) _ ?_
              exact kt
            by_cases hc16 : (65533 : Int32) < p1
            · have pre17 : ∀ t, Steps p.tables e below (s₁.setTop (mkF m 45 #[.val (.int p1)] [(.int (65536 : Int32)), (.int p1)])) t → Steps p.tables e below (s₁.setTop (entryFrame m #[(.int p1)] 1)) t := fun t kt => by
                refine pre15 t ?_
                show Steps p.tables e below (s₁.setTop (mkF m 39 #[.val (.int p1)] [(.int (65533 : Int32)), (.int p1)])) _
                refine XS.icmpNo X0.here hx rfl (hb hby d1_39) rfl (tlt hc16).2.2.2 ?_
                show Steps p.tables e below (s₁.setTop (mkF m 42 #[.val (.int p1)] [])) _
                refine XS.iloadN X0.here hx rfl (hb hby d1_42) rfl ?_
                show Steps p.tables e below (s₁.setTop (mkF m 43 #[.val (.int p1)] [(.int p1)])) _
                refine X0.ldcInt hx hown (mvT hZ (hw _ (List.mem_of_getElem? (i := 18) rfl))) (g := (mkF m 43 #[.val (.int p1)] [(.int p1)])) rfl (hb hby d1_43) _ ?_
                exact kt
              by_cases hc18 : p1 < (65536 : Int32)
              · obtain ⟨fs, hr, hrun, hended, hW, hsame⟩ := X0.leave (v := some (.int (0 : Int32))) (fun h => by rw [Bd.returns] at h; cases h)
                refine ⟨_, _, pre17 _ ?_, hrun, hended, _, _, rfl, ?_, ⟨_, rfl⟩, hW, hsame.mono (by decide) (by decide)⟩
                · show Steps p.tables e below (s₁.setTop (mkF m 45 #[.val (.int p1)] [(.int (65536 : Int32)), (.int p1)])) _
                  refine XS.icmpYes X0.here hx rfl (pc0 := 45) (pc' := 58) rfl (hb hby d1_45) rfl (tlt hc18).1 (by decide) (by decide) ?_
                  show Steps p.tables e below (s₁.setTop (mkF m 58 #[.val (.int p1)] [])) _
                  refine XS.iconst X0.here hx rfl (hb hby d1_58) ?_
                  show Steps p.tables e below (s₁.setTop (mkF m 59 #[.val (.int p1)] [(.int (0 : Int32))])) _
                  exact retN X0 hx (t := .boolean) Bd.returns (by simp) (hb hby d1_59) hr
                · show Q1 Z p1 h0 n0 _ s₁.heap _
                  rw [e0]
                  refine ⟨?_, N0, rfl⟩
                  show (some (.int (0 : Int32)) : Option Value) = some (.int (F1 p1))
                  rw [F1, if_neg hc2, if_neg hc4, if_neg hc6, if_pos hc8, if_neg hc10, if_pos hc16, if_pos hc18]
              · have pre19 : ∀ t, Steps p.tables e below (s₁.setTop (mkF m 51 #[.val (.int p1)] [(.int (1114111 : Int32)), (.int p1)])) t → Steps p.tables e below (s₁.setTop (entryFrame m #[(.int p1)] 1)) t := fun t kt => by
                  refine pre17 t ?_
                  show Steps p.tables e below (s₁.setTop (mkF m 45 #[.val (.int p1)] [(.int (65536 : Int32)), (.int p1)])) _
                  refine XS.icmpNo X0.here hx rfl (hb hby d1_45) rfl (flt hc18).1 ?_
                  show Steps p.tables e below (s₁.setTop (mkF m 48 #[.val (.int p1)] [])) _
                  refine XS.iloadN X0.here hx rfl (hb hby d1_48) rfl ?_
                  show Steps p.tables e below (s₁.setTop (mkF m 49 #[.val (.int p1)] [(.int p1)])) _
                  refine X0.ldcInt hx hown (mvT hZ (hw _ (List.mem_of_getElem? (i := 25) rfl))) (g := (mkF m 49 #[.val (.int p1)] [(.int p1)])) rfl (hb hby d1_49) _ ?_
                  exact kt
                by_cases hc20 : (1114111 : Int32) < p1
                · obtain ⟨fs, hr, hrun, hended, hW, hsame⟩ := X0.leave (v := some (.int (0 : Int32))) (fun h => by rw [Bd.returns] at h; cases h)
                  refine ⟨_, _, pre19 _ ?_, hrun, hended, _, _, rfl, ?_, ⟨_, rfl⟩, hW, hsame.mono (by decide) (by decide)⟩
                  · show Steps p.tables e below (s₁.setTop (mkF m 51 #[.val (.int p1)] [(.int (1114111 : Int32)), (.int p1)])) _
                    refine XS.icmpYes X0.here hx rfl (pc0 := 51) (pc' := 58) rfl (hb hby d1_51) rfl (tlt hc20).2.2.1 (by decide) (by decide) ?_
                    show Steps p.tables e below (s₁.setTop (mkF m 58 #[.val (.int p1)] [])) _
                    refine XS.iconst X0.here hx rfl (hb hby d1_58) ?_
                    show Steps p.tables e below (s₁.setTop (mkF m 59 #[.val (.int p1)] [(.int (0 : Int32))])) _
                    exact retN X0 hx (t := .boolean) Bd.returns (by simp) (hb hby d1_59) hr
                  · show Q1 Z p1 h0 n0 _ s₁.heap _
                    rw [e0]
                    refine ⟨?_, N0, rfl⟩
                    show (some (.int (0 : Int32)) : Option Value) = some (.int (F1 p1))
                    rw [F1, if_neg hc2, if_neg hc4, if_neg hc6, if_pos hc8, if_neg hc10, if_pos hc16, if_neg hc18, if_pos hc20]
                · obtain ⟨fs, hr, hrun, hended, hW, hsame⟩ := X0.leave (v := some (.int (1 : Int32))) (fun h => by rw [Bd.returns] at h; cases h)
                  refine ⟨_, _, pre19 _ ?_, hrun, hended, _, _, rfl, ?_, ⟨_, rfl⟩, hW, hsame.mono (by decide) (by decide)⟩
                  · show Steps p.tables e below (s₁.setTop (mkF m 51 #[.val (.int p1)] [(.int (1114111 : Int32)), (.int p1)])) _
                    refine XS.icmpNo X0.here hx rfl (hb hby d1_51) rfl (flt hc20).2.2.1 ?_
                    show Steps p.tables e below (s₁.setTop (mkF m 54 #[.val (.int p1)] [])) _
                    refine XS.iconst X0.here hx rfl (hb hby d1_54) ?_
                    show Steps p.tables e below (s₁.setTop (mkF m 55 #[.val (.int p1)] [(.int (1 : Int32))])) _
                    refine XS.goto X0.here hx rfl (pc0 := 55) (pc' := 59) rfl (hb hby d1_55) (by decide) (by decide) ?_
                    show Steps p.tables e below (s₁.setTop (mkF m 59 #[.val (.int p1)] [(.int (1 : Int32))])) _
                    exact retN X0 hx (t := .boolean) Bd.returns (by simp) (hb hby d1_59) hr
                  · show Q1 Z p1 h0 n0 _ s₁.heap _
                    rw [e0]
                    refine ⟨?_, N0, rfl⟩
                    show (some (.int (1 : Int32)) : Option Value) = some (.int (F1 p1))
                    rw [F1, if_neg hc2, if_neg hc4, if_neg hc6, if_pos hc8, if_neg hc10, if_pos hc16, if_neg hc18, if_neg hc20]
            · obtain ⟨fs, hr, hrun, hended, hW, hsame⟩ := X0.leave (v := some (.int (1 : Int32))) (fun h => by rw [Bd.returns] at h; cases h)
              refine ⟨_, _, pre15 _ ?_, hrun, hended, _, _, rfl, ?_, ⟨_, rfl⟩, hW, hsame.mono (by decide) (by decide)⟩
              · show Steps p.tables e below (s₁.setTop (mkF m 39 #[.val (.int p1)] [(.int (65533 : Int32)), (.int p1)])) _
                refine XS.icmpYes X0.here hx rfl (pc0 := 39) (pc' := 54) rfl (hb hby d1_39) rfl (flt hc16).2.2.2 (by decide) (by decide) ?_
                show Steps p.tables e below (s₁.setTop (mkF m 54 #[.val (.int p1)] [])) _
                refine XS.iconst X0.here hx rfl (hb hby d1_54) ?_
                show Steps p.tables e below (s₁.setTop (mkF m 55 #[.val (.int p1)] [(.int (1 : Int32))])) _
                refine XS.goto X0.here hx rfl (pc0 := 55) (pc' := 59) rfl (hb hby d1_55) (by decide) (by decide) ?_
                show Steps p.tables e below (s₁.setTop (mkF m 59 #[.val (.int p1)] [(.int (1 : Int32))])) _
                exact retN X0 hx (t := .boolean) Bd.returns (by simp) (hb hby d1_59) hr
              · show Q1 Z p1 h0 n0 _ s₁.heap _
                rw [e0]
                refine ⟨?_, N0, rfl⟩
                show (some (.int (1 : Int32)) : Option Value) = some (.int (F1 p1))
                rw [F1, if_neg hc2, if_neg hc4, if_neg hc6, if_pos hc8, if_neg hc10, if_neg hc16]
        · have pre21 : ∀ t, Steps p.tables e below (s₁.setTop (mkF m 27 #[.val (.int p1)] [(.int (55295 : Int32)), (.int p1)])) t → Steps p.tables e below (s₁.setTop (entryFrame m #[(.int p1)] 1)) t := fun t kt => by
            refine pre7 t ?_
            show Steps p.tables e below (s₁.setTop (mkF m 21 #[.val (.int p1)] [(.int (32 : Int32)), (.int p1)])) _
            refine XS.icmpNo X0.here hx rfl (hb hby d1_21) rfl (flt hc8).1 ?_
            show Steps p.tables e below (s₁.setTop (mkF m 24 #[.val (.int p1)] [])) _
            refine XS.iloadN X0.here hx rfl (hb hby d1_24) rfl ?_
            show Steps p.tables e below (s₁.setTop (mkF m 25 #[.val (.int p1)] [(.int p1)])) _
            refine X0.ldcInt hx hown (mvT hZ (hw _ (List.mem_of_getElem? (i := 23) rfl))) (g := (mkF m 25 #[.val (.int p1)] [(.int p1)])) rfl (hb hby d1_25) _ ?_
            exact kt
          by_cases hc22 : (55295 : Int32) < p1
          · have pre23 : ∀ t, Steps p.tables e below (s₁.setTop (mkF m 33 #[.val (.int p1)] [(.int (57344 : Int32)), (.int p1)])) t → Steps p.tables e below (s₁.setTop (entryFrame m #[(.int p1)] 1)) t := fun t kt => by
              refine pre21 t ?_
              show Steps p.tables e below (s₁.setTop (mkF m 27 #[.val (.int p1)] [(.int (55295 : Int32)), (.int p1)])) _
              refine XS.icmpNo X0.here hx rfl (hb hby d1_27) rfl (tlt hc22).2.2.2 ?_
              show Steps p.tables e below (s₁.setTop (mkF m 30 #[.val (.int p1)] [])) _
              refine XS.iloadN X0.here hx rfl (hb hby d1_30) rfl ?_
              show Steps p.tables e below (s₁.setTop (mkF m 31 #[.val (.int p1)] [(.int p1)])) _
              refine X0.ldcInt hx hown (mvT hZ (hw _ (List.mem_of_getElem? (i := 17) rfl))) (g := (mkF m 31 #[.val (.int p1)] [(.int p1)])) rfl (hb hby d1_31) _ ?_
              exact kt
            by_cases hc24 : p1 < (57344 : Int32)
            · have pre25 : ∀ t, Steps p.tables e below (s₁.setTop (mkF m 45 #[.val (.int p1)] [(.int (65536 : Int32)), (.int p1)])) t → Steps p.tables e below (s₁.setTop (entryFrame m #[(.int p1)] 1)) t := fun t kt => by
                refine pre23 t ?_
                show Steps p.tables e below (s₁.setTop (mkF m 33 #[.val (.int p1)] [(.int (57344 : Int32)), (.int p1)])) _
                refine XS.icmpYes X0.here hx rfl (pc0 := 33) (pc' := 42) rfl (hb hby d1_33) rfl (tlt hc24).1 (by decide) (by decide) ?_
                show Steps p.tables e below (s₁.setTop (mkF m 42 #[.val (.int p1)] [])) _
                refine XS.iloadN X0.here hx rfl (hb hby d1_42) rfl ?_
                show Steps p.tables e below (s₁.setTop (mkF m 43 #[.val (.int p1)] [(.int p1)])) _
                refine X0.ldcInt hx hown (mvT hZ (hw _ (List.mem_of_getElem? (i := 18) rfl))) (g := (mkF m 43 #[.val (.int p1)] [(.int p1)])) rfl (hb hby d1_43) _ ?_
                exact kt
              by_cases hc26 : p1 < (65536 : Int32)
              · obtain ⟨fs, hr, hrun, hended, hW, hsame⟩ := X0.leave (v := some (.int (0 : Int32))) (fun h => by rw [Bd.returns] at h; cases h)
                refine ⟨_, _, pre25 _ ?_, hrun, hended, _, _, rfl, ?_, ⟨_, rfl⟩, hW, hsame.mono (by decide) (by decide)⟩
                · show Steps p.tables e below (s₁.setTop (mkF m 45 #[.val (.int p1)] [(.int (65536 : Int32)), (.int p1)])) _
                  refine XS.icmpYes X0.here hx rfl (pc0 := 45) (pc' := 58) rfl (hb hby d1_45) rfl (tlt hc26).1 (by decide) (by decide) ?_
                  show Steps p.tables e below (s₁.setTop (mkF m 58 #[.val (.int p1)] [])) _
                  refine XS.iconst X0.here hx rfl (hb hby d1_58) ?_
                  show Steps p.tables e below (s₁.setTop (mkF m 59 #[.val (.int p1)] [(.int (0 : Int32))])) _
                  exact retN X0 hx (t := .boolean) Bd.returns (by simp) (hb hby d1_59) hr
                · show Q1 Z p1 h0 n0 _ s₁.heap _
                  rw [e0]
                  refine ⟨?_, N0, rfl⟩
                  show (some (.int (0 : Int32)) : Option Value) = some (.int (F1 p1))
                  rw [F1, if_neg hc2, if_neg hc4, if_neg hc6, if_neg hc8, if_pos hc22, if_pos hc24, if_pos hc26]
              · have pre27 : ∀ t, Steps p.tables e below (s₁.setTop (mkF m 51 #[.val (.int p1)] [(.int (1114111 : Int32)), (.int p1)])) t → Steps p.tables e below (s₁.setTop (entryFrame m #[(.int p1)] 1)) t := fun t kt => by
                  refine pre25 t ?_
                  show Steps p.tables e below (s₁.setTop (mkF m 45 #[.val (.int p1)] [(.int (65536 : Int32)), (.int p1)])) _
                  refine XS.icmpNo X0.here hx rfl (hb hby d1_45) rfl (flt hc26).1 ?_
                  show Steps p.tables e below (s₁.setTop (mkF m 48 #[.val (.int p1)] [])) _
                  refine XS.iloadN X0.here hx rfl (hb hby d1_48) rfl ?_
                  show Steps p.tables e below (s₁.setTop (mkF m 49 #[.val (.int p1)] [(.int p1)])) _
                  refine X0.ldcInt hx hown (mvT hZ (hw _ (List.mem_of_getElem? (i := 25) rfl))) (g := (mkF m 49 #[.val (.int p1)] [(.int p1)])) rfl (hb hby d1_49) _ ?_
                  exact kt
                by_cases hc28 : (1114111 : Int32) < p1
                · obtain ⟨fs, hr, hrun, hended, hW, hsame⟩ := X0.leave (v := some (.int (0 : Int32))) (fun h => by rw [Bd.returns] at h; cases h)
                  refine ⟨_, _, pre27 _ ?_, hrun, hended, _, _, rfl, ?_, ⟨_, rfl⟩, hW, hsame.mono (by decide) (by decide)⟩
                  · show Steps p.tables e below (s₁.setTop (mkF m 51 #[.val (.int p1)] [(.int (1114111 : Int32)), (.int p1)])) _
                    refine XS.icmpYes X0.here hx rfl (pc0 := 51) (pc' := 58) rfl (hb hby d1_51) rfl (tlt hc28).2.2.1 (by decide) (by decide) ?_
                    show Steps p.tables e below (s₁.setTop (mkF m 58 #[.val (.int p1)] [])) _
                    refine XS.iconst X0.here hx rfl (hb hby d1_58) ?_
                    show Steps p.tables e below (s₁.setTop (mkF m 59 #[.val (.int p1)] [(.int (0 : Int32))])) _
                    exact retN X0 hx (t := .boolean) Bd.returns (by simp) (hb hby d1_59) hr
                  · show Q1 Z p1 h0 n0 _ s₁.heap _
                    rw [e0]
                    refine ⟨?_, N0, rfl⟩
                    show (some (.int (0 : Int32)) : Option Value) = some (.int (F1 p1))
                    rw [F1, if_neg hc2, if_neg hc4, if_neg hc6, if_neg hc8, if_pos hc22, if_pos hc24, if_neg hc26, if_pos hc28]
                · obtain ⟨fs, hr, hrun, hended, hW, hsame⟩ := X0.leave (v := some (.int (1 : Int32))) (fun h => by rw [Bd.returns] at h; cases h)
                  refine ⟨_, _, pre27 _ ?_, hrun, hended, _, _, rfl, ?_, ⟨_, rfl⟩, hW, hsame.mono (by decide) (by decide)⟩
                  · show Steps p.tables e below (s₁.setTop (mkF m 51 #[.val (.int p1)] [(.int (1114111 : Int32)), (.int p1)])) _
                    refine XS.icmpNo X0.here hx rfl (hb hby d1_51) rfl (flt hc28).2.2.1 ?_
                    show Steps p.tables e below (s₁.setTop (mkF m 54 #[.val (.int p1)] [])) _
                    refine XS.iconst X0.here hx rfl (hb hby d1_54) ?_
                    show Steps p.tables e below (s₁.setTop (mkF m 55 #[.val (.int p1)] [(.int (1 : Int32))])) _
                    refine XS.goto X0.here hx rfl (pc0 := 55) (pc' := 59) rfl (hb hby d1_55) (by decide) (by decide) ?_
                    show Steps p.tables e below (s₁.setTop (mkF m 59 #[.val (.int p1)] [(.int (1 : Int32))])) _
                    exact retN X0 hx (t := .boolean) Bd.returns (by simp) (hb hby d1_59) hr
                  · show Q1 Z p1 h0 n0 _ s₁.heap _
                    rw [e0]
                    refine ⟨?_, N0, rfl⟩
                    show (some (.int (1 : Int32)) : Option Value) = some (.int (F1 p1))
                    rw [F1, if_neg hc2, if_neg hc4, if_neg hc6, if_neg hc8, if_pos hc22, if_pos hc24, if_neg hc26, if_neg hc28]
            · have pre29 : ∀ t, Steps p.tables e below (s₁.setTop (mkF m 39 #[.val (.int p1)] [(.int (65533 : Int32)), (.int p1)])) t → Steps p.tables e below (s₁.setTop (entryFrame m #[(.int p1)] 1)) t := fun t kt => by
                refine pre23 t ?_
                show Steps p.tables e below (s₁.setTop (mkF m 33 #[.val (.int p1)] [(.int (57344 : Int32)), (.int p1)])) _
                refine XS.icmpNo X0.here hx rfl (hb hby d1_33) rfl (flt hc24).1 ?_
                show Steps p.tables e below (s₁.setTop (mkF m 36 #[.val (.int p1)] [])) _
                refine XS.iloadN X0.here hx rfl (hb hby d1_36) rfl ?_
                show Steps p.tables e below (s₁.setTop (mkF m 37 #[.val (.int p1)] [(.int p1)])) _
                refine X0.ldcInt hx hown (mvT hZ (hw _ (List.mem_of_getElem? (i := 24) rfl))) (g := (mkF m 37 #[.val (.int p1)] [(.int p1)])) rfl (hb hby d1_37) _ ?_
                exact kt
              by_cases hc30 : (65533 : Int32) < p1
              · have pre31 : ∀ t, Steps p.tables e below (s₁.setTop (mkF m 45 #[.val (.int p1)] [(.int (65536 : Int32)), (.int p1)])) t → Steps p.tables e below (s₁.setTop (entryFrame m #[(.int p1)] 1)) t := fun t kt => by
                  refine pre29 t ?_
                  show Steps p.tables e below (s₁.setTop (mkF m 39 #[.val (.int p1)] [(.int (65533 : Int32)), (.int p1)])) _
                  refine XS.icmpNo X0.here hx rfl (hb hby d1_39) rfl (tlt hc30).2.2.2 ?_
                  show Steps p.tables e below (s₁.setTop (mkF m 42 #[.val (.int p1)] [])) _
                  refine XS.iloadN X0.here hx rfl (hb hby d1_42) rfl ?_
                  show Steps p.tables e below (s₁.setTop (mkF m 43 #[.val (.int p1)] [(.int p1)])) _
                  refine X0.ldcInt hx hown (mvT hZ (hw _ (List.mem_of_getElem? (i := 18) rfl))) (g := (mkF m 43 #[.val (.int p1)] [(.int p1)])) rfl (hb hby d1_43) _ ?_
                  exact kt
                by_cases hc32 : p1 < (65536 : Int32)
                · obtain ⟨fs, hr, hrun, hended, hW, hsame⟩ := X0.leave (v := some (.int (0 : Int32))) (fun h => by rw [Bd.returns] at h; cases h)
                  refine ⟨_, _, pre31 _ ?_, hrun, hended, _, _, rfl, ?_, ⟨_, rfl⟩, hW, hsame.mono (by decide) (by decide)⟩
                  · show Steps p.tables e below (s₁.setTop (mkF m 45 #[.val (.int p1)] [(.int (65536 : Int32)), (.int p1)])) _
                    refine XS.icmpYes X0.here hx rfl (pc0 := 45) (pc' := 58) rfl (hb hby d1_45) rfl (tlt hc32).1 (by decide) (by decide) ?_
                    show Steps p.tables e below (s₁.setTop (mkF m 58 #[.val (.int p1)] [])) _
                    refine XS.iconst X0.here hx rfl (hb hby d1_58) ?_
                    show Steps p.tables e below (s₁.setTop (mkF m 59 #[.val (.int p1)] [(.int (0 : Int32))])) _
                    exact retN X0 hx (t := .boolean) Bd.returns (by simp) (hb hby d1_59) hr
                  · show Q1 Z p1 h0 n0 _ s₁.heap _
                    rw [e0]
                    refine ⟨?_, N0, rfl⟩
                    show (some (.int (0 : Int32)) : Option Value) = some (.int (F1 p1))
                    rw [F1, if_neg hc2, if_neg hc4, if_neg hc6, if_neg hc8, if_pos hc22, if_neg hc24, if_pos hc30, if_pos hc32]
                · have pre33 : ∀ t, Steps p.tables e below (s₁.setTop (mkF m 51 #[.val (.int p1)] [(.int (1114111 : Int32)), (.int p1)])) t → Steps p.tables e below (s₁.setTop (entryFrame m #[(.int p1)] 1)) t := fun t kt => by
                    refine pre31 t ?_
                    show Steps p.tables e below (s₁.setTop (mkF m 45 #[.val (.int p1)] [(.int (65536 : Int32)), (.int p1)])) _
                    refine XS.icmpNo X0.here hx rfl (hb hby d1_45) rfl (flt hc32).1 ?_
                    show Steps p.tables e below (s₁.setTop (mkF m 48 #[.val (.int p1)] [])) _
                    refine XS.iloadN X0.here hx rfl (hb hby d1_48) rfl ?_
                    show Steps p.tables e below (s₁.setTop (mkF m 49 #[.val (.int p1)] [(.int p1)])) _
                    refine X0.ldcInt hx hown (mvT hZ (hw _ (List.mem_of_getElem? (i := 25) rfl))) (g := (mkF m 49 #[.val (.int p1)] [(.int p1)])) rfl (hb hby d1_49) _ ?_
                    exact kt
                  by_cases hc34 : (1114111 : Int32) < p1
                  · obtain ⟨fs, hr, hrun, hended, hW, hsame⟩ := X0.leave (v := some (.int (0 : Int32))) (fun h => by rw [Bd.returns] at h; cases h)
                    refine ⟨_, _, pre33 _ ?_, hrun, hended, _, _, rfl, ?_, ⟨_, rfl⟩, hW, hsame.mono (by decide) (by decide)⟩
                    · show Steps p.tables e below (s₁.setTop (mkF m 51 #[.val (.int p1)] [(.int (1114111 : Int32)), (.int p1)])) _
                      refine XS.icmpYes X0.here hx rfl (pc0 := 51) (pc' := 58) rfl (hb hby d1_51) rfl (tlt hc34).2.2.1 (by decide) (by decide) ?_
                      show Steps p.tables e below (s₁.setTop (mkF m 58 #[.val (.int p1)] [])) _
                      refine XS.iconst X0.here hx rfl (hb hby d1_58) ?_
                      show Steps p.tables e below (s₁.setTop (mkF m 59 #[.val (.int p1)] [(.int (0 : Int32))])) _
                      exact retN X0 hx (t := .boolean) Bd.returns (by simp) (hb hby d1_59) hr
                    · show Q1 Z p1 h0 n0 _ s₁.heap _
                      rw [e0]
                      refine ⟨?_, N0, rfl⟩
                      show (some (.int (0 : Int32)) : Option Value) = some (.int (F1 p1))
                      rw [F1, if_neg hc2, if_neg hc4, if_neg hc6, if_neg hc8, if_pos hc22, if_neg hc24, if_pos hc30, if_neg hc32, if_pos hc34]
                  · obtain ⟨fs, hr, hrun, hended, hW, hsame⟩ := X0.leave (v := some (.int (1 : Int32))) (fun h => by rw [Bd.returns] at h; cases h)
                    refine ⟨_, _, pre33 _ ?_, hrun, hended, _, _, rfl, ?_, ⟨_, rfl⟩, hW, hsame.mono (by decide) (by decide)⟩
                    · show Steps p.tables e below (s₁.setTop (mkF m 51 #[.val (.int p1)] [(.int (1114111 : Int32)), (.int p1)])) _
                      refine XS.icmpNo X0.here hx rfl (hb hby d1_51) rfl (flt hc34).2.2.1 ?_
                      show Steps p.tables e below (s₁.setTop (mkF m 54 #[.val (.int p1)] [])) _
                      refine XS.iconst X0.here hx rfl (hb hby d1_54) ?_
                      show Steps p.tables e below (s₁.setTop (mkF m 55 #[.val (.int p1)] [(.int (1 : Int32))])) _
                      refine XS.goto X0.here hx rfl (pc0 := 55) (pc' := 59) rfl (hb hby d1_55) (by decide) (by decide) ?_
                      show Steps p.tables e below (s₁.setTop (mkF m 59 #[.val (.int p1)] [(.int (1 : Int32))])) _
                      exact retN X0 hx (t := .boolean) Bd.returns (by simp) (hb hby d1_59) hr
                    · show Q1 Z p1 h0 n0 _ s₁.heap _
                      rw [e0]
                      refine ⟨?_, N0, rfl⟩
                      show (some (.int (1 : Int32)) : Option Value) = some (.int (F1 p1))
                      rw [F1, if_neg hc2, if_neg hc4, if_neg hc6, if_neg hc8, if_pos hc22, if_neg hc24, if_pos hc30, if_neg hc32, if_neg hc34]
              · obtain ⟨fs, hr, hrun, hended, hW, hsame⟩ := X0.leave (v := some (.int (1 : Int32))) (fun h => by rw [Bd.returns] at h; cases h)
                refine ⟨_, _, pre29 _ ?_, hrun, hended, _, _, rfl, ?_, ⟨_, rfl⟩, hW, hsame.mono (by decide) (by decide)⟩
                · show Steps p.tables e below (s₁.setTop (mkF m 39 #[.val (.int p1)] [(.int (65533 : Int32)), (.int p1)])) _
                  refine XS.icmpYes X0.here hx rfl (pc0 := 39) (pc' := 54) rfl (hb hby d1_39) rfl (flt hc30).2.2.2 (by decide) (by decide) ?_
                  show Steps p.tables e below (s₁.setTop (mkF m 54 #[.val (.int p1)] [])) _
                  refine XS.iconst X0.here hx rfl (hb hby d1_54) ?_
                  show Steps p.tables e below (s₁.setTop (mkF m 55 #[.val (.int p1)] [(.int (1 : Int32))])) _
                  refine XS.goto X0.here hx rfl (pc0 := 55) (pc' := 59) rfl (hb hby d1_55) (by decide) (by decide) ?_
                  show Steps p.tables e below (s₁.setTop (mkF m 59 #[.val (.int p1)] [(.int (1 : Int32))])) _
                  exact retN X0 hx (t := .boolean) Bd.returns (by simp) (hb hby d1_59) hr
                · show Q1 Z p1 h0 n0 _ s₁.heap _
                  rw [e0]
                  refine ⟨?_, N0, rfl⟩
                  show (some (.int (1 : Int32)) : Option Value) = some (.int (F1 p1))
                  rw [F1, if_neg hc2, if_neg hc4, if_neg hc6, if_neg hc8, if_pos hc22, if_neg hc24, if_neg hc30]
          · obtain ⟨fs, hr, hrun, hended, hW, hsame⟩ := X0.leave (v := some (.int (1 : Int32))) (fun h => by rw [Bd.returns] at h; cases h)
            refine ⟨_, _, pre21 _ ?_, hrun, hended, _, _, rfl, ?_, ⟨_, rfl⟩, hW, hsame.mono (by decide) (by decide)⟩
            · show Steps p.tables e below (s₁.setTop (mkF m 27 #[.val (.int p1)] [(.int (55295 : Int32)), (.int p1)])) _
              refine XS.icmpYes X0.here hx rfl (pc0 := 27) (pc' := 54) rfl (hb hby d1_27) rfl (flt hc22).2.2.2 (by decide) (by decide) ?_
              show Steps p.tables e below (s₁.setTop (mkF m 54 #[.val (.int p1)] [])) _
              refine XS.iconst X0.here hx rfl (hb hby d1_54) ?_
              show Steps p.tables e below (s₁.setTop (mkF m 55 #[.val (.int p1)] [(.int (1 : Int32))])) _
              refine XS.goto X0.here hx rfl (pc0 := 55) (pc' := 59) rfl (hb hby d1_55) (by decide) (by decide) ?_
              show Steps p.tables e below (s₁.setTop (mkF m 59 #[.val (.int p1)] [(.int (1 : Int32))])) _
              exact retN X0 hx (t := .boolean) Bd.returns (by simp) (hb hby d1_59) hr
            · show Q1 Z p1 h0 n0 _ s₁.heap _
              rw [e0]
              refine ⟨?_, N0, rfl⟩
              show (some (.int (1 : Int32)) : Option Value) = some (.int (F1 p1))
              rw [F1, if_neg hc2, if_neg hc4, if_neg hc6, if_neg hc8, if_neg hc22]
theorem d2_0 : decode method_2_code 0 = .ok (.iload_n 0, 1) := by decide +kernel
theorem d2_1 : decode method_2_code 1 = .ok (.ifCond .ge 5, 3) := by decide +kernel
theorem d2_4 : decode method_2_code 4 = .ok (.iconst 1, 1) := by decide +kernel
theorem d2_5 : decode method_2_code 5 = .ok (.ireturn, 1) := by decide +kernel
theorem d2_6 : decode method_2_code 6 = .ok (.iload_n 0, 1) := by decide +kernel
theorem d2_7 : decode method_2_code 7 = .ok (.bipush 32, 2) := by decide +kernel
theorem d2_9 : decode method_2_code 9 = .ok (.if_icmp .ge 27, 3) := by decide +kernel
theorem d2_12 : decode method_2_code 12 = .ok (.iload_n 0, 1) := by decide +kernel
theorem d2_13 : decode method_2_code 13 = .ok (.bipush 9, 2) := by decide +kernel
theorem d2_15 : decode method_2_code 15 = .ok (.if_icmp .eq 19, 3) := by decide +kernel
theorem d2_18 : decode method_2_code 18 = .ok (.iload_n 0, 1) := by decide +kernel
theorem d2_19 : decode method_2_code 19 = .ok (.bipush 10, 2) := by decide +kernel
theorem d2_21 : decode method_2_code 21 = .ok (.if_icmp .eq 13, 3) := by decide +kernel
theorem d2_24 : decode method_2_code 24 = .ok (.iload_n 0, 1) := by decide +kernel
theorem d2_25 : decode method_2_code 25 = .ok (.bipush 13, 2) := by decide +kernel
theorem d2_27 : decode method_2_code 27 = .ok (.if_icmp .eq 7, 3) := by decide +kernel
theorem d2_30 : decode method_2_code 30 = .ok (.iconst 1, 1) := by decide +kernel
theorem d2_31 : decode method_2_code 31 = .ok (.goto 4, 3) := by decide +kernel
theorem d2_34 : decode method_2_code 34 = .ok (.iconst 0, 1) := by decide +kernel
theorem d2_35 : decode method_2_code 35 = .ok (.ireturn, 1) := by decide +kernel
theorem d2_36 : decode method_2_code 36 = .ok (.iload_n 0, 1) := by decide +kernel
theorem d2_37 : decode method_2_code 37 = .ok (.ldc 7, 2) := by decide +kernel
theorem d2_39 : decode method_2_code 39 = .ok (.if_icmp .lt 11, 3) := by decide +kernel
theorem d2_42 : decode method_2_code 42 = .ok (.iload_n 0, 1) := by decide +kernel
theorem d2_43 : decode method_2_code 43 = .ok (.ldc 8, 2) := by decide +kernel
theorem d2_45 : decode method_2_code 45 = .ok (.if_icmp .ge 5, 3) := by decide +kernel
theorem d2_48 : decode method_2_code 48 = .ok (.iconst 1, 1) := by decide +kernel
theorem d2_49 : decode method_2_code 49 = .ok (.ireturn, 1) := by decide +kernel
theorem d2_50 : decode method_2_code 50 = .ok (.iload_n 0, 1) := by decide +kernel
theorem d2_51 : decode method_2_code 51 = .ok (.ldc 9, 2) := by decide +kernel
theorem d2_53 : decode method_2_code 53 = .ok (.if_icmp .eq 9, 3) := by decide +kernel
theorem d2_56 : decode method_2_code 56 = .ok (.iload_n 0, 1) := by decide +kernel
theorem d2_57 : decode method_2_code 57 = .ok (.ldc 10, 2) := by decide +kernel
theorem d2_59 : decode method_2_code 59 = .ok (.if_icmp .ne 5, 3) := by decide +kernel
theorem d2_62 : decode method_2_code 62 = .ok (.iconst 1, 1) := by decide +kernel
theorem d2_63 : decode method_2_code 63 = .ok (.ireturn, 1) := by decide +kernel
theorem d2_64 : decode method_2_code 64 = .ok (.iload_n 0, 1) := by decide +kernel
theorem d2_65 : decode method_2_code 65 = .ok (.ldc 11, 2) := by decide +kernel
theorem d2_67 : decode method_2_code 67 = .ok (.if_icmp .le 7, 3) := by decide +kernel
theorem d2_70 : decode method_2_code 70 = .ok (.iconst 1, 1) := by decide +kernel
theorem d2_71 : decode method_2_code 71 = .ok (.goto 4, 3) := by decide +kernel
theorem d2_74 : decode method_2_code 74 = .ok (.iconst 0, 1) := by decide +kernel
theorem d2_75 : decode method_2_code 75 = .ok (.ireturn, 1) := by decide +kernel
theorem pn_2 : plainName "com/example/trampoline/trampoline/manifest/XmlCharsIsXmlCharPinLaw" = true := by first | (simp [plainName, overriddenIn]; done) | decide +kernel
theorem ef_2 (m : MethodId) (p1 : Int32) : entryFrame m #[(.int p1)] 1 = mkF m 0 #[.val (.int p1)] [] := by first | (simp [entryFrame, mkF, argsToLocals, Value.category]; done) | rfl
def F2 (p1 : Int32) : Int32 := (if p1 < (0 : Int32) then (1 : Int32) else (if p1 < (32 : Int32) then (if p1 = (9 : Int32) then (0 : Int32) else (if p1 = (10 : Int32) then (0 : Int32) else (if p1 = (13 : Int32) then (0 : Int32) else (1 : Int32)))) else (if p1 < (55296 : Int32) then (if p1 = (65534 : Int32) then (1 : Int32) else (if p1 = (65535 : Int32) then (1 : Int32) else (if (1114111 : Int32) < p1 then (1 : Int32) else (0 : Int32)))) else (if p1 < (57344 : Int32) then (1 : Int32) else (if p1 = (65534 : Int32) then (1 : Int32) else (if p1 = (65535 : Int32) then (1 : Int32) else (if (1114111 : Int32) < p1 then (1 : Int32) else (0 : Int32))))))))
def Q2 (Z : State) (p1 : Int32) (h0 : Heap) (n0 : Nat) (v : Option Value) (h : Heap) (L : List Loc) : Prop := v = some (.int (F2 p1)) ∧ Fr n0 L ∧ h = h0
set_option maxRecDepth 65536 in
set_option maxHeartbeats 40000000 in
theorem rm2 (l : Launch) (Z : State) (a0 : Array Value) (hw : ∀ d ∈ tables_1, d.before a0 Z = true) (ws : List Jvm.Cond) (p1 : Int32) (h0 : Heap) (n0 : Nat) (Z0 : n0 ≤ h0.size) :
    MetFree l (⟨"com/example/trampoline/trampoline/manifest/XmlCharsIsXmlCharPinLaw", "forbidden", "(I)Z"⟩ : MethodName) (head1 (Jvm.Cond.code (⟨"com/example/trampoline/trampoline/manifest/XmlCharsIsXmlCharPinLaw", "forbidden", "(I)Z"⟩ : MethodName) method_2_code 1 (some .boolean) :: ws) ({ frames := 0, cells := 0, slots := 0, locals := 0 } : Room)) (fun a U => a = #[(.int p1)] ∧ Z.Warmed39 U.vm ∧ U.heap = h0) (fun _ _ _ _ _ => True) (fun _ U o U' => ∃ v L, o = .returned v ∧ Q2 Z p1 h0 n0 v U'.heap L ∧ FrameEnd U o U' L ({ frames := 0, cells := 0, slots := 0, locals := 0 } : Room).cells ({ frames := 0, cells := 0, slots := 0, locals := 0 } : Room).slots) := by
  refine MetFree.of_bodySF (plainFor_of_name pn_2) hisR ?_
  intro p e s m args below meth c s₁ Bd hml0 hP hK
  obtain ⟨rfl, hZ, hh⟩ := hP
  have hx := Bd.exec
  have hby := Bd.bytes
  have hml : c.maxLocals = 1 := hml0
  have hown : s.vm.findClass "com/example/trampoline/trampoline/manifest/XmlCharsIsXmlCharPinLaw" = some m.cls := findClass_of_methodNamed Bd.named
  have hnm := (name_of_methodNamed Bd.named Bd.method).1
  have X0 : Stand p l e ({ frames := 0, cells := 0, slots := 0, locals := 0 } : Room) s m #[(.int p1)] below meth c s₁ [] 0 0 := Stand.of_body Bd
  have e0 : s₁.heap = h0 := by rw [← hh, Bd.state]; rfl
  have N0 := Fr.nil n0
  have pre0 : ∀ t, Steps p.tables e below (s₁.setTop (mkF m 0 #[.val (.int p1)] [])) t → Steps p.tables e below (s₁.setTop (entryFrame m #[(.int p1)] 1)) t := fun t k => castTop (ef_2 m p1) k
  have pre1 : ∀ t, Steps p.tables e below (s₁.setTop (mkF m 1 #[.val (.int p1)] [(.int p1)])) t → Steps p.tables e below (s₁.setTop (entryFrame m #[(.int p1)] 1)) t := fun t kt => by
    refine pre0 t ?_
    show Steps p.tables e below (s₁.setTop (mkF m 0 #[.val (.int p1)] [])) _
    refine XS.iloadN X0.here hx rfl (hb hby d2_0) rfl ?_
    exact kt
  by_cases hc2 : p1 < (0 : Int32)
  · obtain ⟨fs, hr, hrun, hended, hW, hsame⟩ := X0.leave (v := some (.int (1 : Int32))) (fun h => by rw [Bd.returns] at h; cases h)
    refine ⟨_, _, pre1 _ ?_, hrun, hended, _, _, rfl, ?_, ⟨_, rfl⟩, hW, hsame.mono (by decide) (by decide)⟩
    · show Steps p.tables e below (s₁.setTop (mkF m 1 #[.val (.int p1)] [(.int p1)])) _
      refine XS.ifNo X0.here hx rfl (hb hby d2_1) rfl ((if0 _ _).trans (tlt hc2).2.1) ?_
      show Steps p.tables e below (s₁.setTop (mkF m 4 #[.val (.int p1)] [])) _
      refine XS.iconst X0.here hx rfl (hb hby d2_4) ?_
      show Steps p.tables e below (s₁.setTop (mkF m 5 #[.val (.int p1)] [(.int (1 : Int32))])) _
      exact retN X0 hx (t := .boolean) Bd.returns (by simp) (hb hby d2_5) hr
    · show Q2 Z p1 h0 n0 _ s₁.heap _
      rw [e0]
      refine ⟨?_, N0, rfl⟩
      show (some (.int (1 : Int32)) : Option Value) = some (.int (F2 p1))
      rw [F2, if_pos hc2]
  · have pre3 : ∀ t, Steps p.tables e below (s₁.setTop (mkF m 9 #[.val (.int p1)] [(.int (32 : Int32)), (.int p1)])) t → Steps p.tables e below (s₁.setTop (entryFrame m #[(.int p1)] 1)) t := fun t kt => by
      refine pre1 t ?_
      show Steps p.tables e below (s₁.setTop (mkF m 1 #[.val (.int p1)] [(.int p1)])) _
      refine XS.ifYes X0.here hx rfl (pc0 := 1) (pc' := 6) rfl (hb hby d2_1) rfl ((if0 _ _).trans (flt hc2).2.1) (by decide) (by decide) ?_
      show Steps p.tables e below (s₁.setTop (mkF m 6 #[.val (.int p1)] [])) _
      refine XS.iloadN X0.here hx rfl (hb hby d2_6) rfl ?_
      show Steps p.tables e below (s₁.setTop (mkF m 7 #[.val (.int p1)] [(.int p1)])) _
      refine XS.bipush X0.here hx rfl (hb hby d2_7) ?_
      exact kt
    by_cases hc4 : p1 < (32 : Int32)
    · have pre5 : ∀ t, Steps p.tables e below (s₁.setTop (mkF m 15 #[.val (.int p1)] [(.int (9 : Int32)), (.int p1)])) t → Steps p.tables e below (s₁.setTop (entryFrame m #[(.int p1)] 1)) t := fun t kt => by
        refine pre3 t ?_
        show Steps p.tables e below (s₁.setTop (mkF m 9 #[.val (.int p1)] [(.int (32 : Int32)), (.int p1)])) _
        refine XS.icmpNo X0.here hx rfl (hb hby d2_9) rfl (tlt hc4).2.1 ?_
        show Steps p.tables e below (s₁.setTop (mkF m 12 #[.val (.int p1)] [])) _
        refine XS.iloadN X0.here hx rfl (hb hby d2_12) rfl ?_
        show Steps p.tables e below (s₁.setTop (mkF m 13 #[.val (.int p1)] [(.int p1)])) _
        refine XS.bipush X0.here hx rfl (hb hby d2_13) ?_
        exact kt
      by_cases hc6 : p1 = (9 : Int32)
      · obtain ⟨fs, hr, hrun, hended, hW, hsame⟩ := X0.leave (v := some (.int (0 : Int32))) (fun h => by rw [Bd.returns] at h; cases h)
        refine ⟨_, _, pre5 _ ?_, hrun, hended, _, _, rfl, ?_, ⟨_, rfl⟩, hW, hsame.mono (by decide) (by decide)⟩
        · show Steps p.tables e below (s₁.setTop (mkF m 15 #[.val (.int p1)] [(.int (9 : Int32)), (.int p1)])) _
          refine XS.icmpYes X0.here hx rfl (pc0 := 15) (pc' := 34) rfl (hb hby d2_15) rfl (teq hc6).1 (by decide) (by decide) ?_
          show Steps p.tables e below (s₁.setTop (mkF m 34 #[.val (.int p1)] [])) _
          refine XS.iconst X0.here hx rfl (hb hby d2_34) ?_
          show Steps p.tables e below (s₁.setTop (mkF m 35 #[.val (.int p1)] [(.int (0 : Int32))])) _
          exact retN X0 hx (t := .boolean) Bd.returns (by simp) (hb hby d2_35) hr
        · show Q2 Z p1 h0 n0 _ s₁.heap _
          rw [e0]
          refine ⟨?_, N0, rfl⟩
          show (some (.int (0 : Int32)) : Option Value) = some (.int (F2 p1))
          rw [F2, if_neg hc2, if_pos hc4, if_pos hc6]
      · have pre7 : ∀ t, Steps p.tables e below (s₁.setTop (mkF m 21 #[.val (.int p1)] [(.int (10 : Int32)), (.int p1)])) t → Steps p.tables e below (s₁.setTop (entryFrame m #[(.int p1)] 1)) t := fun t kt => by
          refine pre5 t ?_
          show Steps p.tables e below (s₁.setTop (mkF m 15 #[.val (.int p1)] [(.int (9 : Int32)), (.int p1)])) _
          refine XS.icmpNo X0.here hx rfl (hb hby d2_15) rfl (feq hc6).1 ?_
          show Steps p.tables e below (s₁.setTop (mkF m 18 #[.val (.int p1)] [])) _
          refine XS.iloadN X0.here hx rfl (hb hby d2_18) rfl ?_
          show Steps p.tables e below (s₁.setTop (mkF m 19 #[.val (.int p1)] [(.int p1)])) _
          refine XS.bipush X0.here hx rfl (hb hby d2_19) ?_
          exact kt
        by_cases hc8 : p1 = (10 : Int32)
        · obtain ⟨fs, hr, hrun, hended, hW, hsame⟩ := X0.leave (v := some (.int (0 : Int32))) (fun h => by rw [Bd.returns] at h; cases h)
          refine ⟨_, _, pre7 _ ?_, hrun, hended, _, _, rfl, ?_, ⟨_, rfl⟩, hW, hsame.mono (by decide) (by decide)⟩
          · show Steps p.tables e below (s₁.setTop (mkF m 21 #[.val (.int p1)] [(.int (10 : Int32)), (.int p1)])) _
            refine XS.icmpYes X0.here hx rfl (pc0 := 21) (pc' := 34) rfl (hb hby d2_21) rfl (teq hc8).1 (by decide) (by decide) ?_
            show Steps p.tables e below (s₁.setTop (mkF m 34 #[.val (.int p1)] [])) _
            refine XS.iconst X0.here hx rfl (hb hby d2_34) ?_
            show Steps p.tables e below (s₁.setTop (mkF m 35 #[.val (.int p1)] [(.int (0 : Int32))])) _
            exact retN X0 hx (t := .boolean) Bd.returns (by simp) (hb hby d2_35) hr
          · show Q2 Z p1 h0 n0 _ s₁.heap _
            rw [e0]
            refine ⟨?_, N0, rfl⟩
            show (some (.int (0 : Int32)) : Option Value) = some (.int (F2 p1))
            rw [F2, if_neg hc2, if_pos hc4, if_neg hc6, if_pos hc8]
        · have pre9 : ∀ t, Steps p.tables e below (s₁.setTop (mkF m 27 #[.val (.int p1)] [(.int (13 : Int32)), (.int p1)])) t → Steps p.tables e below (s₁.setTop (entryFrame m #[(.int p1)] 1)) t := fun t kt => by
            refine pre7 t ?_
            show Steps p.tables e below (s₁.setTop (mkF m 21 #[.val (.int p1)] [(.int (10 : Int32)), (.int p1)])) _
            refine XS.icmpNo X0.here hx rfl (hb hby d2_21) rfl (feq hc8).1 ?_
            show Steps p.tables e below (s₁.setTop (mkF m 24 #[.val (.int p1)] [])) _
            refine XS.iloadN X0.here hx rfl (hb hby d2_24) rfl ?_
            show Steps p.tables e below (s₁.setTop (mkF m 25 #[.val (.int p1)] [(.int p1)])) _
            refine XS.bipush X0.here hx rfl (hb hby d2_25) ?_
            exact kt
          by_cases hc10 : p1 = (13 : Int32)
          · obtain ⟨fs, hr, hrun, hended, hW, hsame⟩ := X0.leave (v := some (.int (0 : Int32))) (fun h => by rw [Bd.returns] at h; cases h)
            refine ⟨_, _, pre9 _ ?_, hrun, hended, _, _, rfl, ?_, ⟨_, rfl⟩, hW, hsame.mono (by decide) (by decide)⟩
            · show Steps p.tables e below (s₁.setTop (mkF m 27 #[.val (.int p1)] [(.int (13 : Int32)), (.int p1)])) _
              refine XS.icmpYes X0.here hx rfl (pc0 := 27) (pc' := 34) rfl (hb hby d2_27) rfl (teq hc10).1 (by decide) (by decide) ?_
              show Steps p.tables e below (s₁.setTop (mkF m 34 #[.val (.int p1)] [])) _
              refine XS.iconst X0.here hx rfl (hb hby d2_34) ?_
              show Steps p.tables e below (s₁.setTop (mkF m 35 #[.val (.int p1)] [(.int (0 : Int32))])) _
              exact retN X0 hx (t := .boolean) Bd.returns (by simp) (hb hby d2_35) hr
            · show Q2 Z p1 h0 n0 _ s₁.heap _
              rw [e0]
              refine ⟨?_, N0, rfl⟩
              show (some (.int (0 : Int32)) : Option Value) = some (.int (F2 p1))
              rw [F2, if_neg hc2, if_pos hc4, if_neg hc6, if_neg hc8, if_pos hc10]
          · obtain ⟨fs, hr, hrun, hended, hW, hsame⟩ := X0.leave (v := some (.int (1 : Int32))) (fun h => by rw [Bd.returns] at h; cases h)
            refine ⟨_, _, pre9 _ ?_, hrun, hended, _, _, rfl, ?_, ⟨_, rfl⟩, hW, hsame.mono (by decide) (by decide)⟩
            · show Steps p.tables e below (s₁.setTop (mkF m 27 #[.val (.int p1)] [(.int (13 : Int32)), (.int p1)])) _
              refine XS.icmpNo X0.here hx rfl (hb hby d2_27) rfl (feq hc10).1 ?_
              show Steps p.tables e below (s₁.setTop (mkF m 30 #[.val (.int p1)] [])) _
              refine XS.iconst X0.here hx rfl (hb hby d2_30) ?_
              show Steps p.tables e below (s₁.setTop (mkF m 31 #[.val (.int p1)] [(.int (1 : Int32))])) _
              refine XS.goto X0.here hx rfl (pc0 := 31) (pc' := 35) rfl (hb hby d2_31) (by decide) (by decide) ?_
              show Steps p.tables e below (s₁.setTop (mkF m 35 #[.val (.int p1)] [(.int (1 : Int32))])) _
              exact retN X0 hx (t := .boolean) Bd.returns (by simp) (hb hby d2_35) hr
            · show Q2 Z p1 h0 n0 _ s₁.heap _
              rw [e0]
              refine ⟨?_, N0, rfl⟩
              show (some (.int (1 : Int32)) : Option Value) = some (.int (F2 p1))
              rw [F2, if_neg hc2, if_pos hc4, if_neg hc6, if_neg hc8, if_neg hc10]
    · have pre11 : ∀ t, Steps p.tables e below (s₁.setTop (mkF m 39 #[.val (.int p1)] [(.int (55296 : Int32)), (.int p1)])) t → Steps p.tables e below (s₁.setTop (entryFrame m #[(.int p1)] 1)) t := fun t kt => by
        refine pre3 t ?_
        show Steps p.tables e below (s₁.setTop (mkF m 9 #[.val (.int p1)] [(.int (32 : Int32)), (.int p1)])) _
        refine XS.icmpYes X0.here hx rfl (pc0 := 9) (pc' := 36) rfl (hb hby d2_9) rfl (flt hc4).2.1 (by decide) (by decide) ?_
        show Steps p.tables e below (s₁.setTop (mkF m 36 #[.val (.int p1)] [])) _
        refine XS.iloadN X0.here hx rfl (hb hby d2_36) rfl ?_
        show Steps p.tables e below (s₁.setTop (mkF m 37 #[.val (.int p1)] [(.int p1)])) _
        refine X0.ldcInt hx hown (mvT hZ (hw _ (List.mem_of_getElem? (i := 2) rfl))) (g := (mkF m 37 #[.val (.int p1)] [(.int p1)])) rfl (hb hby d2_37) _ ?_
        exact kt
      by_cases hc12 : p1 < (55296 : Int32)
      · have pre13 : ∀ t, Steps p.tables e below (s₁.setTop (mkF m 53 #[.val (.int p1)] [(.int (65534 : Int32)), (.int p1)])) t → Steps p.tables e below (s₁.setTop (entryFrame m #[(.int p1)] 1)) t := fun t kt => by
          refine pre11 t ?_
          show Steps p.tables e below (s₁.setTop (mkF m 39 #[.val (.int p1)] [(.int (55296 : Int32)), (.int p1)])) _
          refine XS.icmpYes X0.here hx rfl (pc0 := 39) (pc' := 50) rfl (hb hby d2_39) rfl (tlt hc12).1 (by decide) (by decide) ?_
          show Steps p.tables e below (s₁.setTop (mkF m 50 #[.val (.int p1)] [])) _
          refine XS.iloadN X0.here hx rfl (hb hby d2_50) rfl ?_
          show Steps p.tables e below (s₁.setTop (mkF m 51 #[.val (.int p1)] [(.int p1)])) _
          refine X0.ldcInt hx hown (mvT hZ (hw _ (List.mem_of_getElem? (i := 6) rfl))) (g := (mkF m 51 #[.val (.int p1)] [(.int p1)])) rfl (hb hby d2_51) _ ?_
          exact kt
        by_cases hc14 : p1 = (65534 : Int32)
        · obtain ⟨fs, hr, hrun, hended, hW, hsame⟩ := X0.leave (v := some (.int (1 : Int32))) (fun h => by rw [Bd.returns] at h; cases h)
          refine ⟨_, _, pre13 _ ?_, hrun, hended, _, _, rfl, ?_, ⟨_, rfl⟩, hW, hsame.mono (by decide) (by decide)⟩
          · show Steps p.tables e below (s₁.setTop (mkF m 53 #[.val (.int p1)] [(.int (65534 : Int32)), (.int p1)])) _
            refine XS.icmpYes X0.here hx rfl (pc0 := 53) (pc' := 62) rfl (hb hby d2_53) rfl (teq hc14).1 (by decide) (by decide) ?_
            show Steps p.tables e below (s₁.setTop (mkF m 62 #[.val (.int p1)] [])) _
            refine XS.iconst X0.here hx rfl (hb hby d2_62) ?_
            show Steps p.tables e below (s₁.setTop (mkF m 63 #[.val (.int p1)] [(.int (1 : Int32))])) _
            exact retN X0 hx (t := .boolean) Bd.returns (by simp) (hb hby d2_63) hr
          · show Q2 Z p1 h0 n0 _ s₁.heap _
            rw [e0]
            refine ⟨?_, N0, rfl⟩
            show (some (.int (1 : Int32)) : Option Value) = some (.int (F2 p1))
            rw [F2, if_neg hc2, if_neg hc4, if_pos hc12, if_pos hc14]
        · have pre15 : ∀ t, Steps p.tables e below (s₁.setTop (mkF m 59 #[.val (.int p1)] [(.int (65535 : Int32)), (.int p1)])) t → Steps p.tables e below (s₁.setTop (entryFrame m #[(.int p1)] 1)) t := fun t kt => by
            refine pre13 t ?_
            show Steps p.tables e below (s₁.setTop (mkF m 53 #[.val (.int p1)] [(.int (65534 : Int32)), (.int p1)])) _
            refine XS.icmpNo X0.here hx rfl (hb hby d2_53) rfl (feq hc14).1 ?_
            show Steps p.tables e below (s₁.setTop (mkF m 56 #[.val (.int p1)] [])) _
            refine XS.iloadN X0.here hx rfl (hb hby d2_56) rfl ?_
            show Steps p.tables e below (s₁.setTop (mkF m 57 #[.val (.int p1)] [(.int p1)])) _
            refine X0.ldcInt hx hown (mvT hZ (hw _ (List.mem_of_getElem? (i := 7) rfl))) (g := (mkF m 57 #[.val (.int p1)] [(.int p1)])) rfl (hb hby d2_57) _ ?_
            exact kt
          by_cases hc16 : p1 = (65535 : Int32)
          · obtain ⟨fs, hr, hrun, hended, hW, hsame⟩ := X0.leave (v := some (.int (1 : Int32))) (fun h => by rw [Bd.returns] at h; cases h)
            refine ⟨_, _, pre15 _ ?_, hrun, hended, _, _, rfl, ?_, ⟨_, rfl⟩, hW, hsame.mono (by decide) (by decide)⟩
            · show Steps p.tables e below (s₁.setTop (mkF m 59 #[.val (.int p1)] [(.int (65535 : Int32)), (.int p1)])) _
              refine XS.icmpNo X0.here hx rfl (hb hby d2_59) rfl (teq hc16).2 ?_
              show Steps p.tables e below (s₁.setTop (mkF m 62 #[.val (.int p1)] [])) _
              refine XS.iconst X0.here hx rfl (hb hby d2_62) ?_
              show Steps p.tables e below (s₁.setTop (mkF m 63 #[.val (.int p1)] [(.int (1 : Int32))])) _
              exact retN X0 hx (t := .boolean) Bd.returns (by simp) (hb hby d2_63) hr
            · show Q2 Z p1 h0 n0 _ s₁.heap _
              rw [e0]
              refine ⟨?_, N0, rfl⟩
              show (some (.int (1 : Int32)) : Option Value) = some (.int (F2 p1))
              rw [F2, if_neg hc2, if_neg hc4, if_pos hc12, if_neg hc14, if_pos hc16]
          · have pre17 : ∀ t, Steps p.tables e below (s₁.setTop (mkF m 67 #[.val (.int p1)] [(.int (1114111 : Int32)), (.int p1)])) t → Steps p.tables e below (s₁.setTop (entryFrame m #[(.int p1)] 1)) t := fun t kt => by
              refine pre15 t ?_
              show Steps p.tables e below (s₁.setTop (mkF m 59 #[.val (.int p1)] [(.int (65535 : Int32)), (.int p1)])) _
              refine XS.icmpYes X0.here hx rfl (pc0 := 59) (pc' := 64) rfl (hb hby d2_59) rfl (feq hc16).2 (by decide) (by decide) ?_
              show Steps p.tables e below (s₁.setTop (mkF m 64 #[.val (.int p1)] [])) _
              refine XS.iloadN X0.here hx rfl (hb hby d2_64) rfl ?_
              show Steps p.tables e below (s₁.setTop (mkF m 65 #[.val (.int p1)] [(.int p1)])) _
              refine X0.ldcInt hx hown (mvT hZ (hw _ (List.mem_of_getElem? (i := 9) rfl))) (g := (mkF m 65 #[.val (.int p1)] [(.int p1)])) rfl (hb hby d2_65) _ ?_
              exact kt
            by_cases hc18 : (1114111 : Int32) < p1
            · obtain ⟨fs, hr, hrun, hended, hW, hsame⟩ := X0.leave (v := some (.int (1 : Int32))) (fun h => by rw [Bd.returns] at h; cases h)
              refine ⟨_, _, pre17 _ ?_, hrun, hended, _, _, rfl, ?_, ⟨_, rfl⟩, hW, hsame.mono (by decide) (by decide)⟩
              · show Steps p.tables e below (s₁.setTop (mkF m 67 #[.val (.int p1)] [(.int (1114111 : Int32)), (.int p1)])) _
                refine XS.icmpNo X0.here hx rfl (hb hby d2_67) rfl (tlt hc18).2.2.2 ?_
                show Steps p.tables e below (s₁.setTop (mkF m 70 #[.val (.int p1)] [])) _
                refine XS.iconst X0.here hx rfl (hb hby d2_70) ?_
                show Steps p.tables e below (s₁.setTop (mkF m 71 #[.val (.int p1)] [(.int (1 : Int32))])) _
                refine XS.goto X0.here hx rfl (pc0 := 71) (pc' := 75) rfl (hb hby d2_71) (by decide) (by decide) ?_
                show Steps p.tables e below (s₁.setTop (mkF m 75 #[.val (.int p1)] [(.int (1 : Int32))])) _
                exact retN X0 hx (t := .boolean) Bd.returns (by simp) (hb hby d2_75) hr
              · show Q2 Z p1 h0 n0 _ s₁.heap _
                rw [e0]
                refine ⟨?_, N0, rfl⟩
                show (some (.int (1 : Int32)) : Option Value) = some (.int (F2 p1))
                rw [F2, if_neg hc2, if_neg hc4, if_pos hc12, if_neg hc14, if_neg hc16, if_pos hc18]
            · obtain ⟨fs, hr, hrun, hended, hW, hsame⟩ := X0.leave (v := some (.int (0 : Int32))) (fun h => by rw [Bd.returns] at h; cases h)
              refine ⟨_, _, pre17 _ ?_, hrun, hended, _, _, rfl, ?_, ⟨_, rfl⟩, hW, hsame.mono (by decide) (by decide)⟩
              · show Steps p.tables e below (s₁.setTop (mkF m 67 #[.val (.int p1)] [(.int (1114111 : Int32)), (.int p1)])) _
                refine XS.icmpYes X0.here hx rfl (pc0 := 67) (pc' := 74) rfl (hb hby d2_67) rfl (flt hc18).2.2.2 (by decide) (by decide) ?_
                show Steps p.tables e below (s₁.setTop (mkF m 74 #[.val (.int p1)] [])) _
                refine XS.iconst X0.here hx rfl (hb hby d2_74) ?_
                show Steps p.tables e below (s₁.setTop (mkF m 75 #[.val (.int p1)] [(.int (0 : Int32))])) _
                exact retN X0 hx (t := .boolean) Bd.returns (by simp) (hb hby d2_75) hr
              · show Q2 Z p1 h0 n0 _ s₁.heap _
                rw [e0]
                refine ⟨?_, N0, rfl⟩
                show (some (.int (0 : Int32)) : Option Value) = some (.int (F2 p1))
                rw [F2, if_neg hc2, if_neg hc4, if_pos hc12, if_neg hc14, if_neg hc16, if_neg hc18]
      · have pre19 : ∀ t, Steps p.tables e below (s₁.setTop (mkF m 45 #[.val (.int p1)] [(.int (57344 : Int32)), (.int p1)])) t → Steps p.tables e below (s₁.setTop (entryFrame m #[(.int p1)] 1)) t := fun t kt => by
          refine pre11 t ?_
          show Steps p.tables e below (s₁.setTop (mkF m 39 #[.val (.int p1)] [(.int (55296 : Int32)), (.int p1)])) _
          refine XS.icmpNo X0.here hx rfl (hb hby d2_39) rfl (flt hc12).1 ?_
          show Steps p.tables e below (s₁.setTop (mkF m 42 #[.val (.int p1)] [])) _
          refine XS.iloadN X0.here hx rfl (hb hby d2_42) rfl ?_
          show Steps p.tables e below (s₁.setTop (mkF m 43 #[.val (.int p1)] [(.int p1)])) _
          refine X0.ldcInt hx hown (mvT hZ (hw _ (List.mem_of_getElem? (i := 4) rfl))) (g := (mkF m 43 #[.val (.int p1)] [(.int p1)])) rfl (hb hby d2_43) _ ?_
          exact kt
        by_cases hc20 : p1 < (57344 : Int32)
        · obtain ⟨fs, hr, hrun, hended, hW, hsame⟩ := X0.leave (v := some (.int (1 : Int32))) (fun h => by rw [Bd.returns] at h; cases h)
          refine ⟨_, _, pre19 _ ?_, hrun, hended, _, _, rfl, ?_, ⟨_, rfl⟩, hW, hsame.mono (by decide) (by decide)⟩
          · show Steps p.tables e below (s₁.setTop (mkF m 45 #[.val (.int p1)] [(.int (57344 : Int32)), (.int p1)])) _
            refine XS.icmpNo X0.here hx rfl (hb hby d2_45) rfl (tlt hc20).2.1 ?_
            show Steps p.tables e below (s₁.setTop (mkF m 48 #[.val (.int p1)] [])) _
            refine XS.iconst X0.here hx rfl (hb hby d2_48) ?_
            show Steps p.tables e below (s₁.setTop (mkF m 49 #[.val (.int p1)] [(.int (1 : Int32))])) _
            exact retN X0 hx (t := .boolean) Bd.returns (by simp) (hb hby d2_49) hr
          · show Q2 Z p1 h0 n0 _ s₁.heap _
            rw [e0]
            refine ⟨?_, N0, rfl⟩
            show (some (.int (1 : Int32)) : Option Value) = some (.int (F2 p1))
            rw [F2, if_neg hc2, if_neg hc4, if_neg hc12, if_pos hc20]
        · have pre21 : ∀ t, Steps p.tables e below (s₁.setTop (mkF m 53 #[.val (.int p1)] [(.int (65534 : Int32)), (.int p1)])) t → Steps p.tables e below (s₁.setTop (entryFrame m #[(.int p1)] 1)) t := fun t kt => by
            refine pre19 t ?_
            show Steps p.tables e below (s₁.setTop (mkF m 45 #[.val (.int p1)] [(.int (57344 : Int32)), (.int p1)])) _
            refine XS.icmpYes X0.here hx rfl (pc0 := 45) (pc' := 50) rfl (hb hby d2_45) rfl (flt hc20).2.1 (by decide) (by decide) ?_
            show Steps p.tables e below (s₁.setTop (mkF m 50 #[.val (.int p1)] [])) _
            refine XS.iloadN X0.here hx rfl (hb hby d2_50) rfl ?_
            show Steps p.tables e below (s₁.setTop (mkF m 51 #[.val (.int p1)] [(.int p1)])) _
            refine X0.ldcInt hx hown (mvT hZ (hw _ (List.mem_of_getElem? (i := 6) rfl))) (g := (mkF m 51 #[.val (.int p1)] [(.int p1)])) rfl (hb hby d2_51) _ ?_
            exact kt
          by_cases hc22 : p1 = (65534 : Int32)
          · obtain ⟨fs, hr, hrun, hended, hW, hsame⟩ := X0.leave (v := some (.int (1 : Int32))) (fun h => by rw [Bd.returns] at h; cases h)
            refine ⟨_, _, pre21 _ ?_, hrun, hended, _, _, rfl, ?_, ⟨_, rfl⟩, hW, hsame.mono (by decide) (by decide)⟩
            · show Steps p.tables e below (s₁.setTop (mkF m 53 #[.val (.int p1)] [(.int (65534 : Int32)), (.int p1)])) _
              refine XS.icmpYes X0.here hx rfl (pc0 := 53) (pc' := 62) rfl (hb hby d2_53) rfl (teq hc22).1 (by decide) (by decide) ?_
              show Steps p.tables e below (s₁.setTop (mkF m 62 #[.val (.int p1)] [])) _
              refine XS.iconst X0.here hx rfl (hb hby d2_62) ?_
              show Steps p.tables e below (s₁.setTop (mkF m 63 #[.val (.int p1)] [(.int (1 : Int32))])) _
              exact retN X0 hx (t := .boolean) Bd.returns (by simp) (hb hby d2_63) hr
            · show Q2 Z p1 h0 n0 _ s₁.heap _
              rw [e0]
              refine ⟨?_, N0, rfl⟩
              show (some (.int (1 : Int32)) : Option Value) = some (.int (F2 p1))
              rw [F2, if_neg hc2, if_neg hc4, if_neg hc12, if_neg hc20, if_pos hc22]
          · have pre23 : ∀ t, Steps p.tables e below (s₁.setTop (mkF m 59 #[.val (.int p1)] [(.int (65535 : Int32)), (.int p1)])) t → Steps p.tables e below (s₁.setTop (entryFrame m #[(.int p1)] 1)) t := fun t kt => by
              refine pre21 t ?_
              show Steps p.tables e below (s₁.setTop (mkF m 53 #[.val (.int p1)] [(.int (65534 : Int32)), (.int p1)])) _
              refine XS.icmpNo X0.here hx rfl (hb hby d2_53) rfl (feq hc22).1 ?_
              show Steps p.tables e below (s₁.setTop (mkF m 56 #[.val (.int p1)] [])) _
              refine XS.iloadN X0.here hx rfl (hb hby d2_56) rfl ?_
              show Steps p.tables e below (s₁.setTop (mkF m 57 #[.val (.int p1)] [(.int p1)])) _
              refine X0.ldcInt hx hown (mvT hZ (hw _ (List.mem_of_getElem? (i := 7) rfl))) (g := (mkF m 57 #[.val (.int p1)] [(.int p1)])) rfl (hb hby d2_57) _ ?_
              exact kt
            by_cases hc24 : p1 = (65535 : Int32)
            · obtain ⟨fs, hr, hrun, hended, hW, hsame⟩ := X0.leave (v := some (.int (1 : Int32))) (fun h => by rw [Bd.returns] at h; cases h)
              refine ⟨_, _, pre23 _ ?_, hrun, hended, _, _, rfl, ?_, ⟨_, rfl⟩, hW, hsame.mono (by decide) (by decide)⟩
              · show Steps p.tables e below (s₁.setTop (mkF m 59 #[.val (.int p1)] [(.int (65535 : Int32)), (.int p1)])) _
                refine XS.icmpNo X0.here hx rfl (hb hby d2_59) rfl (teq hc24).2 ?_
                show Steps p.tables e below (s₁.setTop (mkF m 62 #[.val (.int p1)] [])) _
                refine XS.iconst X0.here hx rfl (hb hby d2_62) ?_
                show Steps p.tables e below (s₁.setTop (mkF m 63 #[.val (.int p1)] [(.int (1 : Int32))])) _
                exact retN X0 hx (t := .boolean) Bd.returns (by simp) (hb hby d2_63) hr
              · show Q2 Z p1 h0 n0 _ s₁.heap _
                rw [e0]
                refine ⟨?_, N0, rfl⟩
                show (some (.int (1 : Int32)) : Option Value) = some (.int (F2 p1))
                rw [F2, if_neg hc2, if_neg hc4, if_neg hc12, if_neg hc20, if_neg hc22, if_pos hc24]
            · have pre25 : ∀ t, Steps p.tables e below (s₁.setTop (mkF m 67 #[.val (.int p1)] [(.int (1114111 : Int32)), (.int p1)])) t → Steps p.tables e below (s₁.setTop (entryFrame m #[(.int p1)] 1)) t := fun t kt => by
                refine pre23 t ?_
                show Steps p.tables e below (s₁.setTop (mkF m 59 #[.val (.int p1)] [(.int (65535 : Int32)), (.int p1)])) _
                refine XS.icmpYes X0.here hx rfl (pc0 := 59) (pc' := 64) rfl (hb hby d2_59) rfl (feq hc24).2 (by decide) (by decide) ?_
                show Steps p.tables e below (s₁.setTop (mkF m 64 #[.val (.int p1)] [])) _
                refine XS.iloadN X0.here hx rfl (hb hby d2_64) rfl ?_
                show Steps p.tables e below (s₁.setTop (mkF m 65 #[.val (.int p1)] [(.int p1)])) _
                refine X0.ldcInt hx hown (mvT hZ (hw _ (List.mem_of_getElem? (i := 9) rfl))) (g := (mkF m 65 #[.val (.int p1)] [(.int p1)])) rfl (hb hby d2_65) _ ?_
                exact kt
              by_cases hc26 : (1114111 : Int32) < p1
              · obtain ⟨fs, hr, hrun, hended, hW, hsame⟩ := X0.leave (v := some (.int (1 : Int32))) (fun h => by rw [Bd.returns] at h; cases h)
                refine ⟨_, _, pre25 _ ?_, hrun, hended, _, _, rfl, ?_, ⟨_, rfl⟩, hW, hsame.mono (by decide) (by decide)⟩
                · show Steps p.tables e below (s₁.setTop (mkF m 67 #[.val (.int p1)] [(.int (1114111 : Int32)), (.int p1)])) _
                  refine XS.icmpNo X0.here hx rfl (hb hby d2_67) rfl (tlt hc26).2.2.2 ?_
                  show Steps p.tables e below (s₁.setTop (mkF m 70 #[.val (.int p1)] [])) _
                  refine XS.iconst X0.here hx rfl (hb hby d2_70) ?_
                  show Steps p.tables e below (s₁.setTop (mkF m 71 #[.val (.int p1)] [(.int (1 : Int32))])) _
                  refine XS.goto X0.here hx rfl (pc0 := 71) (pc' := 75) rfl (hb hby d2_71) (by decide) (by decide) ?_
                  show Steps p.tables e below (s₁.setTop (mkF m 75 #[.val (.int p1)] [(.int (1 : Int32))])) _
                  exact retN X0 hx (t := .boolean) Bd.returns (by simp) (hb hby d2_75) hr
                · show Q2 Z p1 h0 n0 _ s₁.heap _
                  rw [e0]
                  refine ⟨?_, N0, rfl⟩
                  show (some (.int (1 : Int32)) : Option Value) = some (.int (F2 p1))
                  rw [F2, if_neg hc2, if_neg hc4, if_neg hc12, if_neg hc20, if_neg hc22, if_neg hc24, if_pos hc26]
              · obtain ⟨fs, hr, hrun, hended, hW, hsame⟩ := X0.leave (v := some (.int (0 : Int32))) (fun h => by rw [Bd.returns] at h; cases h)
                refine ⟨_, _, pre25 _ ?_, hrun, hended, _, _, rfl, ?_, ⟨_, rfl⟩, hW, hsame.mono (by decide) (by decide)⟩
                · show Steps p.tables e below (s₁.setTop (mkF m 67 #[.val (.int p1)] [(.int (1114111 : Int32)), (.int p1)])) _
                  refine XS.icmpYes X0.here hx rfl (pc0 := 67) (pc' := 74) rfl (hb hby d2_67) rfl (flt hc26).2.2.2 (by decide) (by decide) ?_
                  show Steps p.tables e below (s₁.setTop (mkF m 74 #[.val (.int p1)] [])) _
                  refine XS.iconst X0.here hx rfl (hb hby d2_74) ?_
                  show Steps p.tables e below (s₁.setTop (mkF m 75 #[.val (.int p1)] [(.int (0 : Int32))])) _
                  exact retN X0 hx (t := .boolean) Bd.returns (by simp) (hb hby d2_75) hr
                · show Q2 Z p1 h0 n0 _ s₁.heap _
                  rw [e0]
                  refine ⟨?_, N0, rfl⟩
                  show (some (.int (0 : Int32)) : Option Value) = some (.int (F2 p1))
                  rw [F2, if_neg hc2, if_neg hc4, if_neg hc12, if_neg hc20, if_neg hc22, if_neg hc24, if_neg hc26]
set_option maxHeartbeats 40000000 in
theorem own_same (c : Int32) : F1 c = if F2 c = 0 then 1 else 0 := by
  rw [own_eqI]
  simp only [F1, F2, own_ltI, own_eqI, apply_ite Int32.toInt, Int32.reduceToInt]
  generalize c.toInt = x at *
  repeat' split
  all_goals omega
theorem pn_0 : plainName "com/example/trampoline/trampoline/manifest/XmlCharsIsXmlCharPinLaw" = true := by first | (simp [plainName, overriddenIn]; done) | decide +kernel
theorem pd_0_0 : parseMethodDescriptor "(I)Z" = some ⟨[.int], some .boolean⟩ := by decide +kernel
theorem ef_0 (m : MethodId) (p1 : Int32) (p2 : Int32) (p3 : Int32) : entryFrame m #[(.int p1), (.int p2), (.int p3)] maxLocals = mkF m 0 #[.val (.int p1), .val (.int p2), .val (.int p3), .unset, .unset, .unset, .unset] [] := by first | (simp [entryFrame, mkF, argsToLocals, Value.category, maxLocals]; done) | rfl
def own_tab_0_131 : List Int32 := [(0 : Int32), (9 : Int32), (10 : Int32), (13 : Int32), (32 : Int32), (55295 : Int32), (55296 : Int32), (57343 : Int32), (57344 : Int32), (65533 : Int32), (65534 : Int32), (65535 : Int32), (65536 : Int32), (1114111 : Int32), (1114112 : Int32), (-2147483648 : Int32), (2147483647 : Int32)]
set_option maxRecDepth 65536 in
set_option maxHeartbeats 40000000 in
theorem side_0_131 (p1 : Int32) (p2 : Int32) (p3 : Int32) (hc21 : ¬ (((p2 &&& (2147483647 : Int32)) % (18 : Int32)) = (17 : Int32))) : ¬ (((p2 &&& (2147483647 : Int32)) % (18 : Int32)) < 0) ∧ ((p2 &&& (2147483647 : Int32)) % (18 : Int32)) < (17 : Int32) := by
  have m1 : (p2 &&& 2147483647).toInt = p2.toInt % 2 ^ 31 := Jvm.Kit.i32_mask p2 2147483647 (k := 31) (by decide) (by decide)
  have d := (own_dm (p2 &&& 2147483647) 18 (by decide)).1 (by omega)
  simp only [own_ltI, own_eqI, Int32.reduceToInt] at d hc21 ⊢
  omega
set_option maxRecDepth 65536 in
set_option maxHeartbeats 40000000 in
theorem leaf_0_2 (p1 : Int32) (p2 : Int32) (p3 : Int32) (v24 : Int32) (hv24 : v24 = (if ((p2 &&& (2147483647 : Int32)) % (18 : Int32)) = (17 : Int32) then p1 else ((own_at own_tab_0_131 ((p2 &&& (2147483647 : Int32)) % (18 : Int32))) + ((p3 &&& (15 : Int32)) - (8 : Int32))))) (v31 : Int32) (hv31 : v31 = (if (F2 v24) = (0 : Int32) then (1 : Int32) else (0 : Int32))) (hc32 : ¬ ((F1 v24) = v31)) : False := by
  refine hc32 ?_
  rw [hv31]
  exact own_same _
def Q0 (Z : State) (p1 : Int32) (p2 : Int32) (p3 : Int32) (h0 : Heap) (n0 : Nat) (v : Option Value) (h : Heap) (L : List Loc) : Prop := v = some (.int (1 : Int32)) ∧ Fr n0 L
set_option maxRecDepth 65536 in
set_option maxHeartbeats 40000000 in
theorem rm0 (l : Launch) (Z : State) (a0 : Array Value) (hw : ∀ d ∈ tables_1, d.before a0 Z = true) (ws : List Jvm.Cond) (p1 : Int32) (p2 : Int32) (p3 : Int32) (h0 : Heap) (n0 : Nat) (Z0 : n0 ≤ h0.size) :
    MetFree l x (head1 (Jvm.Cond.code x code maxLocals ret :: ws) room_1) (fun a U => a = #[(.int p1), (.int p2), (.int p3)] ∧ Z.Warmed39 U.vm ∧ U.heap = h0) (fun _ _ _ _ _ => True) (fun _ U o U' => ∃ v L, o = .returned v ∧ Q0 Z p1 p2 p3 h0 n0 v U'.heap L ∧ FrameEnd U o U' L room_1.cells room_1.slots) := by
  refine MetFree.of_bodySF (plainFor_of_name pn_0) hisR ?_
  intro p e s m args below meth c s₁ Bd hml0 hP hK
  obtain ⟨rfl, hZ, hh⟩ := hP
  have hx := Bd.exec
  have hby := Bd.bytes
  have hml : c.maxLocals = 7 := hml0
  have hown : s.vm.findClass "com/example/trampoline/trampoline/manifest/XmlCharsIsXmlCharPinLaw" = some m.cls := findClass_of_methodNamed Bd.named
  have hnm := (name_of_methodNamed Bd.named Bd.method).1
  have X0 : Stand p l e room_1 s m #[(.int p1), (.int p2), (.int p3)] below meth c s₁ [] 0 0 := Stand.of_body Bd
  have e0 : s₁.heap = h0 := by rw [← hh, Bd.state]; rfl
  have N0 := Fr.nil n0
  have pre0 : ∀ t, Steps p.tables e below (s₁.setTop (mkF m 0 #[.val (.int p1), .val (.int p2), .val (.int p3), .unset, .unset, .unset, .unset] [])) t → Steps p.tables e below (s₁.setTop (entryFrame m #[(.int p1), (.int p2), (.int p3)] maxLocals)) t := fun t k => castTop (ef_0 m p1 p2 p3) k
  obtain ⟨b1, g1⟩ : ∃ z, z = h0.size := ⟨_, rfl⟩
  obtain ⟨T1, h1, k1, X1, e1, E1, A1, st1⟩ := newP X0 hx hZ (hw _ (List.mem_of_getElem? (i := 0) rfl)) e0 (g := (mkF m 2 #[.val (.int p1), .val (.int p2), .val (.int p3), .unset, .unset, .unset, .unset] [(.int (17 : Int32))])) rfl (hb hby at_2) rfl (by decide) (cap := 17) (by decide) (by decide) (by decide) (by decide)
  rw [← g1] at A1 st1
  have g_b1 : n0 ≤ b1 := Nat.le_trans Z0 (Nat.le_of_eq g1.symm)
  have V1 : Arv Z h1 b1 k1 .int (17 : Int32) [(.int (0 : Int32)), (.int (0 : Int32)), (.int (0 : Int32)), (.int (0 : Int32)), (.int (0 : Int32)), (.int (0 : Int32)), (.int (0 : Int32)), (.int (0 : Int32)), (.int (0 : Int32)), (.int (0 : Int32)), (.int (0 : Int32)), (.int (0 : Int32)), (.int (0 : Int32)), (.int (0 : Int32)), (.int (0 : Int32)), (.int (0 : Int32)), (.int (0 : Int32))] (.int (0 : Int32)) := (Arv.new A1 (by decide)).pad (pad_rep [] (.int (0 : Int32)) 17)
  obtain ⟨cl2, Ar2, q2, S2, M2, H2, G2⟩ := id V1
  have hin2 : ¬ ((0 : Int32) < 0 ∨ cl2.slots.size ≤ ((0 : Int32)).toNatClampNeg) := inb_of S2 ⟨by decide, by decide⟩
  obtain ⟨T2, h2, X2, e2, W2, st2⟩ := stI X1 hx hZ e1 Ar2 (j := (0 : Int32)) hin2 (g := (mkF m 7 #[.val (.int p1), .val (.int p2), .val (.int p3), .unset, .unset, .unset, .unset] [(.int (0 : Int32)), (.int (0 : Int32)), (.ref b1), (.ref b1)])) rfl rfl (hb hby at_7)
  have V2 : Arv Z h2 b1 k1 .int (17 : Int32) [(.int (0 : Int32)), (.int (0 : Int32)), (.int (0 : Int32)), (.int (0 : Int32)), (.int (0 : Int32)), (.int (0 : Int32)), (.int (0 : Int32)), (.int (0 : Int32)), (.int (0 : Int32)), (.int (0 : Int32)), (.int (0 : Int32)), (.int (0 : Int32)), (.int (0 : Int32)), (.int (0 : Int32)), (.int (0 : Int32)), (.int (0 : Int32)), (.int (0 : Int32))] (.int (0 : Int32)) := Arv.set Ar2 q2 S2 M2 H2 G2 rfl W2 0 rfl (Nat.le_of_ble_eq_true rfl)
  have N2 := Fr.snoc X2 N0 g_b1
  obtain ⟨cl3, Ar3, q3, S3, M3, H3, G3⟩ := id V2
  have hin3 : ¬ ((1 : Int32) < 0 ∨ cl3.slots.size ≤ ((1 : Int32)).toNatClampNeg) := inb_of S3 ⟨by decide, by decide⟩
  obtain ⟨T3, h3, X3, e3, W3, st3⟩ := stI X2 hx hZ e2 Ar3 (j := (1 : Int32)) hin3 (g := (mkF m 12 #[.val (.int p1), .val (.int p2), .val (.int p3), .unset, .unset, .unset, .unset] [(.int (9 : Int32)), (.int (1 : Int32)), (.ref b1), (.ref b1)])) rfl rfl (hb hby at_12)
  have V3 : Arv Z h3 b1 k1 .int (17 : Int32) [(.int (0 : Int32)), (.int (9 : Int32)), (.int (0 : Int32)), (.int (0 : Int32)), (.int (0 : Int32)), (.int (0 : Int32)), (.int (0 : Int32)), (.int (0 : Int32)), (.int (0 : Int32)), (.int (0 : Int32)), (.int (0 : Int32)), (.int (0 : Int32)), (.int (0 : Int32)), (.int (0 : Int32)), (.int (0 : Int32)), (.int (0 : Int32)), (.int (0 : Int32))] (.int (0 : Int32)) := Arv.set Ar3 q3 S3 M3 H3 G3 rfl W3 1 rfl (Nat.le_of_ble_eq_true rfl)
  have N3 := Fr.snoc X3 N2 g_b1
  obtain ⟨cl4, Ar4, q4, S4, M4, H4, G4⟩ := id V3
  have hin4 : ¬ ((2 : Int32) < 0 ∨ cl4.slots.size ≤ ((2 : Int32)).toNatClampNeg) := inb_of S4 ⟨by decide, by decide⟩
  obtain ⟨T4, h4, X4, e4, W4, st4⟩ := stI X3 hx hZ e3 Ar4 (j := (2 : Int32)) hin4 (g := (mkF m 17 #[.val (.int p1), .val (.int p2), .val (.int p3), .unset, .unset, .unset, .unset] [(.int (10 : Int32)), (.int (2 : Int32)), (.ref b1), (.ref b1)])) rfl rfl (hb hby at_17)
  have V4 : Arv Z h4 b1 k1 .int (17 : Int32) [(.int (0 : Int32)), (.int (9 : Int32)), (.int (10 : Int32)), (.int (0 : Int32)), (.int (0 : Int32)), (.int (0 : Int32)), (.int (0 : Int32)), (.int (0 : Int32)), (.int (0 : Int32)), (.int (0 : Int32)), (.int (0 : Int32)), (.int (0 : Int32)), (.int (0 : Int32)), (.int (0 : Int32)), (.int (0 : Int32)), (.int (0 : Int32)), (.int (0 : Int32))] (.int (0 : Int32)) := Arv.set Ar4 q4 S4 M4 H4 G4 rfl W4 2 rfl (Nat.le_of_ble_eq_true rfl)
  have N4 := Fr.snoc X4 N3 g_b1
  obtain ⟨cl5, Ar5, q5, S5, M5, H5, G5⟩ := id V4
  have hin5 : ¬ ((3 : Int32) < 0 ∨ cl5.slots.size ≤ ((3 : Int32)).toNatClampNeg) := inb_of S5 ⟨by decide, by decide⟩
  obtain ⟨T5, h5, X5, e5, W5, st5⟩ := stI X4 hx hZ e4 Ar5 (j := (3 : Int32)) hin5 (g := (mkF m 22 #[.val (.int p1), .val (.int p2), .val (.int p3), .unset, .unset, .unset, .unset] [(.int (13 : Int32)), (.int (3 : Int32)), (.ref b1), (.ref b1)])) rfl rfl (hb hby at_22)
  have V5 : Arv Z h5 b1 k1 .int (17 : Int32) [(.int (0 : Int32)), (.int (9 : Int32)), (.int (10 : Int32)), (.int (13 : Int32)), (.int (0 : Int32)), (.int (0 : Int32)), (.int (0 : Int32)), (.int (0 : Int32)), (.int (0 : Int32)), (.int (0 : Int32)), (.int (0 : Int32)), (.int (0 : Int32)), (.int (0 : Int32)), (.int (0 : Int32)), (.int (0 : Int32)), (.int (0 : Int32)), (.int (0 : Int32))] (.int (0 : Int32)) := Arv.set Ar5 q5 S5 M5 H5 G5 rfl W5 3 rfl (Nat.le_of_ble_eq_true rfl)
  have N5 := Fr.snoc X5 N4 g_b1
  obtain ⟨cl6, Ar6, q6, S6, M6, H6, G6⟩ := id V5
  have hin6 : ¬ ((4 : Int32) < 0 ∨ cl6.slots.size ≤ ((4 : Int32)).toNatClampNeg) := inb_of S6 ⟨by decide, by decide⟩
  obtain ⟨T6, h6, X6, e6, W6, st6⟩ := stI X5 hx hZ e5 Ar6 (j := (4 : Int32)) hin6 (g := (mkF m 27 #[.val (.int p1), .val (.int p2), .val (.int p3), .unset, .unset, .unset, .unset] [(.int (32 : Int32)), (.int (4 : Int32)), (.ref b1), (.ref b1)])) rfl rfl (hb hby at_27)
  have V6 : Arv Z h6 b1 k1 .int (17 : Int32) [(.int (0 : Int32)), (.int (9 : Int32)), (.int (10 : Int32)), (.int (13 : Int32)), (.int (32 : Int32)), (.int (0 : Int32)), (.int (0 : Int32)), (.int (0 : Int32)), (.int (0 : Int32)), (.int (0 : Int32)), (.int (0 : Int32)), (.int (0 : Int32)), (.int (0 : Int32)), (.int (0 : Int32)), (.int (0 : Int32)), (.int (0 : Int32)), (.int (0 : Int32))] (.int (0 : Int32)) := Arv.set Ar6 q6 S6 M6 H6 G6 rfl W6 4 rfl (Nat.le_of_ble_eq_true rfl)
  have N6 := Fr.snoc X6 N5 g_b1
  obtain ⟨cl7, Ar7, q7, S7, M7, H7, G7⟩ := id V6
  have hin7 : ¬ ((5 : Int32) < 0 ∨ cl7.slots.size ≤ ((5 : Int32)).toNatClampNeg) := inb_of S7 ⟨by decide, by decide⟩
  obtain ⟨T7, h7, X7, e7, W7, st7⟩ := stI X6 hx hZ e6 Ar7 (j := (5 : Int32)) hin7 (g := (mkF m 32 #[.val (.int p1), .val (.int p2), .val (.int p3), .unset, .unset, .unset, .unset] [(.int (55295 : Int32)), (.int (5 : Int32)), (.ref b1), (.ref b1)])) rfl rfl (hb hby at_32)
  have V7 : Arv Z h7 b1 k1 .int (17 : Int32) [(.int (0 : Int32)), (.int (9 : Int32)), (.int (10 : Int32)), (.int (13 : Int32)), (.int (32 : Int32)), (.int (55295 : Int32)), (.int (0 : Int32)), (.int (0 : Int32)), (.int (0 : Int32)), (.int (0 : Int32)), (.int (0 : Int32)), (.int (0 : Int32)), (.int (0 : Int32)), (.int (0 : Int32)), (.int (0 : Int32)), (.int (0 : Int32)), (.int (0 : Int32))] (.int (0 : Int32)) := Arv.set Ar7 q7 S7 M7 H7 G7 rfl W7 5 rfl (Nat.le_of_ble_eq_true rfl)
  have N7 := Fr.snoc X7 N6 g_b1
  obtain ⟨cl8, Ar8, q8, S8, M8, H8, G8⟩ := id V7
  have hin8 : ¬ ((6 : Int32) < 0 ∨ cl8.slots.size ≤ ((6 : Int32)).toNatClampNeg) := inb_of S8 ⟨by decide, by decide⟩
  obtain ⟨T8, h8, X8, e8, W8, st8⟩ := stI X7 hx hZ e7 Ar8 (j := (6 : Int32)) hin8 (g := (mkF m 38 #[.val (.int p1), .val (.int p2), .val (.int p3), .unset, .unset, .unset, .unset] [(.int (55296 : Int32)), (.int (6 : Int32)), (.ref b1), (.ref b1)])) rfl rfl (hb hby at_38)
  have V8 : Arv Z h8 b1 k1 .int (17 : Int32) [(.int (0 : Int32)), (.int (9 : Int32)), (.int (10 : Int32)), (.int (13 : Int32)), (.int (32 : Int32)), (.int (55295 : Int32)), (.int (55296 : Int32)), (.int (0 : Int32)), (.int (0 : Int32)), (.int (0 : Int32)), (.int (0 : Int32)), (.int (0 : Int32)), (.int (0 : Int32)), (.int (0 : Int32)), (.int (0 : Int32)), (.int (0 : Int32)), (.int (0 : Int32))] (.int (0 : Int32)) := Arv.set Ar8 q8 S8 M8 H8 G8 rfl W8 6 rfl (Nat.le_of_ble_eq_true rfl)
  have N8 := Fr.snoc X8 N7 g_b1
  obtain ⟨cl9, Ar9, q9, S9, M9, H9, G9⟩ := id V8
  have hin9 : ¬ ((7 : Int32) < 0 ∨ cl9.slots.size ≤ ((7 : Int32)).toNatClampNeg) := inb_of S9 ⟨by decide, by decide⟩
  obtain ⟨T9, h9, X9, e9, W9, st9⟩ := stI X8 hx hZ e8 Ar9 (j := (7 : Int32)) hin9 (g := (mkF m 44 #[.val (.int p1), .val (.int p2), .val (.int p3), .unset, .unset, .unset, .unset] [(.int (57343 : Int32)), (.int (7 : Int32)), (.ref b1), (.ref b1)])) rfl rfl (hb hby at_44)
  have V9 : Arv Z h9 b1 k1 .int (17 : Int32) [(.int (0 : Int32)), (.int (9 : Int32)), (.int (10 : Int32)), (.int (13 : Int32)), (.int (32 : Int32)), (.int (55295 : Int32)), (.int (55296 : Int32)), (.int (57343 : Int32)), (.int (0 : Int32)), (.int (0 : Int32)), (.int (0 : Int32)), (.int (0 : Int32)), (.int (0 : Int32)), (.int (0 : Int32)), (.int (0 : Int32)), (.int (0 : Int32)), (.int (0 : Int32))] (.int (0 : Int32)) := Arv.set Ar9 q9 S9 M9 H9 G9 rfl W9 7 rfl (Nat.le_of_ble_eq_true rfl)
  have N9 := Fr.snoc X9 N8 g_b1
  obtain ⟨cl10, Ar10, q10, S10, M10, H10, G10⟩ := id V9
  have hin10 : ¬ ((8 : Int32) < 0 ∨ cl10.slots.size ≤ ((8 : Int32)).toNatClampNeg) := inb_of S10 ⟨by decide, by decide⟩
  obtain ⟨T10, h10, X10, e10, W10, st10⟩ := stI X9 hx hZ e9 Ar10 (j := (8 : Int32)) hin10 (g := (mkF m 50 #[.val (.int p1), .val (.int p2), .val (.int p3), .unset, .unset, .unset, .unset] [(.int (57344 : Int32)), (.int (8 : Int32)), (.ref b1), (.ref b1)])) rfl rfl (hb hby at_50)
  have V10 : Arv Z h10 b1 k1 .int (17 : Int32) [(.int (0 : Int32)), (.int (9 : Int32)), (.int (10 : Int32)), (.int (13 : Int32)), (.int (32 : Int32)), (.int (55295 : Int32)), (.int (55296 : Int32)), (.int (57343 : Int32)), (.int (57344 : Int32)), (.int (0 : Int32)), (.int (0 : Int32)), (.int (0 : Int32)), (.int (0 : Int32)), (.int (0 : Int32)), (.int (0 : Int32)), (.int (0 : Int32)), (.int (0 : Int32))] (.int (0 : Int32)) := Arv.set Ar10 q10 S10 M10 H10 G10 rfl W10 8 rfl (Nat.le_of_ble_eq_true rfl)
  have N10 := Fr.snoc X10 N9 g_b1
  obtain ⟨cl11, Ar11, q11, S11, M11, H11, G11⟩ := id V10
  have hin11 : ¬ ((9 : Int32) < 0 ∨ cl11.slots.size ≤ ((9 : Int32)).toNatClampNeg) := inb_of S11 ⟨by decide, by decide⟩
  obtain ⟨T11, h11, X11, e11, W11, st11⟩ := stI X10 hx hZ e10 Ar11 (j := (9 : Int32)) hin11 (g := (mkF m 56 #[.val (.int p1), .val (.int p2), .val (.int p3), .unset, .unset, .unset, .unset] [(.int (65533 : Int32)), (.int (9 : Int32)), (.ref b1), (.ref b1)])) rfl rfl (hb hby at_56)
  have V11 : Arv Z h11 b1 k1 .int (17 : Int32) [(.int (0 : Int32)), (.int (9 : Int32)), (.int (10 : Int32)), (.int (13 : Int32)), (.int (32 : Int32)), (.int (55295 : Int32)), (.int (55296 : Int32)), (.int (57343 : Int32)), (.int (57344 : Int32)), (.int (65533 : Int32)), (.int (0 : Int32)), (.int (0 : Int32)), (.int (0 : Int32)), (.int (0 : Int32)), (.int (0 : Int32)), (.int (0 : Int32)), (.int (0 : Int32))] (.int (0 : Int32)) := Arv.set Ar11 q11 S11 M11 H11 G11 rfl W11 9 rfl (Nat.le_of_ble_eq_true rfl)
  have N11 := Fr.snoc X11 N10 g_b1
  obtain ⟨cl12, Ar12, q12, S12, M12, H12, G12⟩ := id V11
  have hin12 : ¬ ((10 : Int32) < 0 ∨ cl12.slots.size ≤ ((10 : Int32)).toNatClampNeg) := inb_of S12 ⟨by decide, by decide⟩
  obtain ⟨T12, h12, X12, e12, W12, st12⟩ := stI X11 hx hZ e11 Ar12 (j := (10 : Int32)) hin12 (g := (mkF m 62 #[.val (.int p1), .val (.int p2), .val (.int p3), .unset, .unset, .unset, .unset] [(.int (65534 : Int32)), (.int (10 : Int32)), (.ref b1), (.ref b1)])) rfl rfl (hb hby at_62)
  have V12 : Arv Z h12 b1 k1 .int (17 : Int32) [(.int (0 : Int32)), (.int (9 : Int32)), (.int (10 : Int32)), (.int (13 : Int32)), (.int (32 : Int32)), (.int (55295 : Int32)), (.int (55296 : Int32)), (.int (57343 : Int32)), (.int (57344 : Int32)), (.int (65533 : Int32)), (.int (65534 : Int32)), (.int (0 : Int32)), (.int (0 : Int32)), (.int (0 : Int32)), (.int (0 : Int32)), (.int (0 : Int32)), (.int (0 : Int32))] (.int (0 : Int32)) := Arv.set Ar12 q12 S12 M12 H12 G12 rfl W12 10 rfl (Nat.le_of_ble_eq_true rfl)
  have N12 := Fr.snoc X12 N11 g_b1
  obtain ⟨cl13, Ar13, q13, S13, M13, H13, G13⟩ := id V12
  have hin13 : ¬ ((11 : Int32) < 0 ∨ cl13.slots.size ≤ ((11 : Int32)).toNatClampNeg) := inb_of S13 ⟨by decide, by decide⟩
  obtain ⟨T13, h13, X13, e13, W13, st13⟩ := stI X12 hx hZ e12 Ar13 (j := (11 : Int32)) hin13 (g := (mkF m 68 #[.val (.int p1), .val (.int p2), .val (.int p3), .unset, .unset, .unset, .unset] [(.int (65535 : Int32)), (.int (11 : Int32)), (.ref b1), (.ref b1)])) rfl rfl (hb hby at_68)
  have V13 : Arv Z h13 b1 k1 .int (17 : Int32) [(.int (0 : Int32)), (.int (9 : Int32)), (.int (10 : Int32)), (.int (13 : Int32)), (.int (32 : Int32)), (.int (55295 : Int32)), (.int (55296 : Int32)), (.int (57343 : Int32)), (.int (57344 : Int32)), (.int (65533 : Int32)), (.int (65534 : Int32)), (.int (65535 : Int32)), (.int (0 : Int32)), (.int (0 : Int32)), (.int (0 : Int32)), (.int (0 : Int32)), (.int (0 : Int32))] (.int (0 : Int32)) := Arv.set Ar13 q13 S13 M13 H13 G13 rfl W13 11 rfl (Nat.le_of_ble_eq_true rfl)
  have N13 := Fr.snoc X13 N12 g_b1
  obtain ⟨cl14, Ar14, q14, S14, M14, H14, G14⟩ := id V13
  have hin14 : ¬ ((12 : Int32) < 0 ∨ cl14.slots.size ≤ ((12 : Int32)).toNatClampNeg) := inb_of S14 ⟨by decide, by decide⟩
  obtain ⟨T14, h14, X14, e14, W14, st14⟩ := stI X13 hx hZ e13 Ar14 (j := (12 : Int32)) hin14 (g := (mkF m 74 #[.val (.int p1), .val (.int p2), .val (.int p3), .unset, .unset, .unset, .unset] [(.int (65536 : Int32)), (.int (12 : Int32)), (.ref b1), (.ref b1)])) rfl rfl (hb hby at_74)
  have V14 : Arv Z h14 b1 k1 .int (17 : Int32) [(.int (0 : Int32)), (.int (9 : Int32)), (.int (10 : Int32)), (.int (13 : Int32)), (.int (32 : Int32)), (.int (55295 : Int32)), (.int (55296 : Int32)), (.int (57343 : Int32)), (.int (57344 : Int32)), (.int (65533 : Int32)), (.int (65534 : Int32)), (.int (65535 : Int32)), (.int (65536 : Int32)), (.int (0 : Int32)), (.int (0 : Int32)), (.int (0 : Int32)), (.int (0 : Int32))] (.int (0 : Int32)) := Arv.set Ar14 q14 S14 M14 H14 G14 rfl W14 12 rfl (Nat.le_of_ble_eq_true rfl)
  have N14 := Fr.snoc X14 N13 g_b1
  obtain ⟨cl15, Ar15, q15, S15, M15, H15, G15⟩ := id V14
  have hin15 : ¬ ((13 : Int32) < 0 ∨ cl15.slots.size ≤ ((13 : Int32)).toNatClampNeg) := inb_of S15 ⟨by decide, by decide⟩
  obtain ⟨T15, h15, X15, e15, W15, st15⟩ := stI X14 hx hZ e14 Ar15 (j := (13 : Int32)) hin15 (g := (mkF m 80 #[.val (.int p1), .val (.int p2), .val (.int p3), .unset, .unset, .unset, .unset] [(.int (1114111 : Int32)), (.int (13 : Int32)), (.ref b1), (.ref b1)])) rfl rfl (hb hby at_80)
  have V15 : Arv Z h15 b1 k1 .int (17 : Int32) [(.int (0 : Int32)), (.int (9 : Int32)), (.int (10 : Int32)), (.int (13 : Int32)), (.int (32 : Int32)), (.int (55295 : Int32)), (.int (55296 : Int32)), (.int (57343 : Int32)), (.int (57344 : Int32)), (.int (65533 : Int32)), (.int (65534 : Int32)), (.int (65535 : Int32)), (.int (65536 : Int32)), (.int (1114111 : Int32)), (.int (0 : Int32)), (.int (0 : Int32)), (.int (0 : Int32))] (.int (0 : Int32)) := Arv.set Ar15 q15 S15 M15 H15 G15 rfl W15 13 rfl (Nat.le_of_ble_eq_true rfl)
  have N15 := Fr.snoc X15 N14 g_b1
  obtain ⟨cl16, Ar16, q16, S16, M16, H16, G16⟩ := id V15
  have hin16 : ¬ ((14 : Int32) < 0 ∨ cl16.slots.size ≤ ((14 : Int32)).toNatClampNeg) := inb_of S16 ⟨by decide, by decide⟩
  obtain ⟨T16, h16, X16, e16, W16, st16⟩ := stI X15 hx hZ e15 Ar16 (j := (14 : Int32)) hin16 (g := (mkF m 86 #[.val (.int p1), .val (.int p2), .val (.int p3), .unset, .unset, .unset, .unset] [(.int (1114112 : Int32)), (.int (14 : Int32)), (.ref b1), (.ref b1)])) rfl rfl (hb hby at_86)
  have V16 : Arv Z h16 b1 k1 .int (17 : Int32) [(.int (0 : Int32)), (.int (9 : Int32)), (.int (10 : Int32)), (.int (13 : Int32)), (.int (32 : Int32)), (.int (55295 : Int32)), (.int (55296 : Int32)), (.int (57343 : Int32)), (.int (57344 : Int32)), (.int (65533 : Int32)), (.int (65534 : Int32)), (.int (65535 : Int32)), (.int (65536 : Int32)), (.int (1114111 : Int32)), (.int (1114112 : Int32)), (.int (0 : Int32)), (.int (0 : Int32))] (.int (0 : Int32)) := Arv.set Ar16 q16 S16 M16 H16 G16 rfl W16 14 rfl (Nat.le_of_ble_eq_true rfl)
  have N16 := Fr.snoc X16 N15 g_b1
  obtain ⟨cl17, Ar17, q17, S17, M17, H17, G17⟩ := id V16
  have hin17 : ¬ ((15 : Int32) < 0 ∨ cl17.slots.size ≤ ((15 : Int32)).toNatClampNeg) := inb_of S17 ⟨by decide, by decide⟩
  obtain ⟨T17, h17, X17, e17, W17, st17⟩ := stI X16 hx hZ e16 Ar17 (j := (15 : Int32)) hin17 (g := (mkF m 92 #[.val (.int p1), .val (.int p2), .val (.int p3), .unset, .unset, .unset, .unset] [(.int (-2147483648 : Int32)), (.int (15 : Int32)), (.ref b1), (.ref b1)])) rfl rfl (hb hby at_92)
  have V17 : Arv Z h17 b1 k1 .int (17 : Int32) [(.int (0 : Int32)), (.int (9 : Int32)), (.int (10 : Int32)), (.int (13 : Int32)), (.int (32 : Int32)), (.int (55295 : Int32)), (.int (55296 : Int32)), (.int (57343 : Int32)), (.int (57344 : Int32)), (.int (65533 : Int32)), (.int (65534 : Int32)), (.int (65535 : Int32)), (.int (65536 : Int32)), (.int (1114111 : Int32)), (.int (1114112 : Int32)), (.int (-2147483648 : Int32)), (.int (0 : Int32))] (.int (0 : Int32)) := Arv.set Ar17 q17 S17 M17 H17 G17 rfl W17 15 rfl (Nat.le_of_ble_eq_true rfl)
  have N17 := Fr.snoc X17 N16 g_b1
  obtain ⟨cl18, Ar18, q18, S18, M18, H18, G18⟩ := id V17
  have hin18 : ¬ ((16 : Int32) < 0 ∨ cl18.slots.size ≤ ((16 : Int32)).toNatClampNeg) := inb_of S18 ⟨by decide, by decide⟩
  obtain ⟨T18, h18, X18, e18, W18, st18⟩ := stI X17 hx hZ e17 Ar18 (j := (16 : Int32)) hin18 (g := (mkF m 98 #[.val (.int p1), .val (.int p2), .val (.int p3), .unset, .unset, .unset, .unset] [(.int (2147483647 : Int32)), (.int (16 : Int32)), (.ref b1), (.ref b1)])) rfl rfl (hb hby at_98)
  have V18 : Arv Z h18 b1 k1 .int (17 : Int32) [(.int (0 : Int32)), (.int (9 : Int32)), (.int (10 : Int32)), (.int (13 : Int32)), (.int (32 : Int32)), (.int (55295 : Int32)), (.int (55296 : Int32)), (.int (57343 : Int32)), (.int (57344 : Int32)), (.int (65533 : Int32)), (.int (65534 : Int32)), (.int (65535 : Int32)), (.int (65536 : Int32)), (.int (1114111 : Int32)), (.int (1114112 : Int32)), (.int (-2147483648 : Int32)), (.int (2147483647 : Int32))] (.int (0 : Int32)) := Arv.set Ar18 q18 S18 M18 H18 G18 rfl W18 16 rfl (Nat.le_of_ble_eq_true rfl)
  have N18 := Fr.snoc X18 N17 g_b1
  obtain ⟨cl19, Ar19, q19, S19, M19, H19, G19⟩ := id V18
  have pre20 : ∀ t, Steps p.tables e below (T18.setTop (mkF m 119 #[.val (.int p1), .val (.int p2), .val (.int p3), .val (.ref b1), .val (.int (17 : Int32)), .val (.int ((p2 &&& (2147483647 : Int32)) % (18 : Int32))), .unset] [(.int (17 : Int32)), (.int ((p2 &&& (2147483647 : Int32)) % (18 : Int32)))])) t → Steps p.tables e below (s₁.setTop (entryFrame m #[(.int p1), (.int p2), (.int p3)] maxLocals)) t := fun t kt => by
    refine pre0 t ?_
    show Steps p.tables e below (s₁.setTop (mkF m 0 #[.val (.int p1), .val (.int p2), .val (.int p3), .unset, .unset, .unset, .unset] [])) _
    refine XS.bipush X0.here hx rfl (hb hby at_0) ?_
    show Steps p.tables e below (s₁.setTop (mkF m 2 #[.val (.int p1), .val (.int p2), .val (.int p3), .unset, .unset, .unset, .unset] [(.int (17 : Int32))])) _
    refine st1 _ ?_
    show Steps p.tables e below (T1.setTop (mkF m 4 #[.val (.int p1), .val (.int p2), .val (.int p3), .unset, .unset, .unset, .unset] [(.ref b1)])) _
    refine XS.dup X1.here hx rfl (hb hby at_4) rfl rfl ?_
    show Steps p.tables e below (T1.setTop (mkF m 5 #[.val (.int p1), .val (.int p2), .val (.int p3), .unset, .unset, .unset, .unset] [(.ref b1), (.ref b1)])) _
    refine XS.iconst X1.here hx rfl (hb hby at_5) ?_
    show Steps p.tables e below (T1.setTop (mkF m 6 #[.val (.int p1), .val (.int p2), .val (.int p3), .unset, .unset, .unset, .unset] [(.int (0 : Int32)), (.ref b1), (.ref b1)])) _
    refine XS.iconst X1.here hx rfl (hb hby at_6) ?_
    show Steps p.tables e below (T1.setTop (mkF m 7 #[.val (.int p1), .val (.int p2), .val (.int p3), .unset, .unset, .unset, .unset] [(.int (0 : Int32)), (.int (0 : Int32)), (.ref b1), (.ref b1)])) _
    refine st2 _ ?_
    show Steps p.tables e below (T2.setTop (mkF m 8 #[.val (.int p1), .val (.int p2), .val (.int p3), .unset, .unset, .unset, .unset] [(.ref b1)])) _
    refine XS.dup X2.here hx rfl (hb hby at_8) rfl rfl ?_
    show Steps p.tables e below (T2.setTop (mkF m 9 #[.val (.int p1), .val (.int p2), .val (.int p3), .unset, .unset, .unset, .unset] [(.ref b1), (.ref b1)])) _
    refine XS.iconst X2.here hx rfl (hb hby at_9) ?_
    show Steps p.tables e below (T2.setTop (mkF m 10 #[.val (.int p1), .val (.int p2), .val (.int p3), .unset, .unset, .unset, .unset] [(.int (1 : Int32)), (.ref b1), (.ref b1)])) _
    refine XS.bipush X2.here hx rfl (hb hby at_10) ?_
    show Steps p.tables e below (T2.setTop (mkF m 12 #[.val (.int p1), .val (.int p2), .val (.int p3), .unset, .unset, .unset, .unset] [(.int (9 : Int32)), (.int (1 : Int32)), (.ref b1), (.ref b1)])) _
    refine st3 _ ?_
    show Steps p.tables e below (T3.setTop (mkF m 13 #[.val (.int p1), .val (.int p2), .val (.int p3), .unset, .unset, .unset, .unset] [(.ref b1)])) _
    refine XS.dup X3.here hx rfl (hb hby at_13) rfl rfl ?_
    show Steps p.tables e below (T3.setTop (mkF m 14 #[.val (.int p1), .val (.int p2), .val (.int p3), .unset, .unset, .unset, .unset] [(.ref b1), (.ref b1)])) _
    refine XS.iconst X3.here hx rfl (hb hby at_14) ?_
    show Steps p.tables e below (T3.setTop (mkF m 15 #[.val (.int p1), .val (.int p2), .val (.int p3), .unset, .unset, .unset, .unset] [(.int (2 : Int32)), (.ref b1), (.ref b1)])) _
    refine XS.bipush X3.here hx rfl (hb hby at_15) ?_
    show Steps p.tables e below (T3.setTop (mkF m 17 #[.val (.int p1), .val (.int p2), .val (.int p3), .unset, .unset, .unset, .unset] [(.int (10 : Int32)), (.int (2 : Int32)), (.ref b1), (.ref b1)])) _
    refine st4 _ ?_
    show Steps p.tables e below (T4.setTop (mkF m 18 #[.val (.int p1), .val (.int p2), .val (.int p3), .unset, .unset, .unset, .unset] [(.ref b1)])) _
    refine XS.dup X4.here hx rfl (hb hby at_18) rfl rfl ?_
    show Steps p.tables e below (T4.setTop (mkF m 19 #[.val (.int p1), .val (.int p2), .val (.int p3), .unset, .unset, .unset, .unset] [(.ref b1), (.ref b1)])) _
    refine XS.iconst X4.here hx rfl (hb hby at_19) ?_
    show Steps p.tables e below (T4.setTop (mkF m 20 #[.val (.int p1), .val (.int p2), .val (.int p3), .unset, .unset, .unset, .unset] [(.int (3 : Int32)), (.ref b1), (.ref b1)])) _
    refine XS.bipush X4.here hx rfl (hb hby at_20) ?_
    show Steps p.tables e below (T4.setTop (mkF m 22 #[.val (.int p1), .val (.int p2), .val (.int p3), .unset, .unset, .unset, .unset] [(.int (13 : Int32)), (.int (3 : Int32)), (.ref b1), (.ref b1)])) _
    refine st5 _ ?_
    show Steps p.tables e below (T5.setTop (mkF m 23 #[.val (.int p1), .val (.int p2), .val (.int p3), .unset, .unset, .unset, .unset] [(.ref b1)])) _
    refine XS.dup X5.here hx rfl (hb hby at_23) rfl rfl ?_
    show Steps p.tables e below (T5.setTop (mkF m 24 #[.val (.int p1), .val (.int p2), .val (.int p3), .unset, .unset, .unset, .unset] [(.ref b1), (.ref b1)])) _
    refine XS.iconst X5.here hx rfl (hb hby at_24) ?_
    show Steps p.tables e below (T5.setTop (mkF m 25 #[.val (.int p1), .val (.int p2), .val (.int p3), .unset, .unset, .unset, .unset] [(.int (4 : Int32)), (.ref b1), (.ref b1)])) _
    refine XS.bipush X5.here hx rfl (hb hby at_25) ?_
    show Steps p.tables e below (T5.setTop (mkF m 27 #[.val (.int p1), .val (.int p2), .val (.int p3), .unset, .unset, .unset, .unset] [(.int (32 : Int32)), (.int (4 : Int32)), (.ref b1), (.ref b1)])) _
    refine st6 _ ?_
    show Steps p.tables e below (T6.setTop (mkF m 28 #[.val (.int p1), .val (.int p2), .val (.int p3), .unset, .unset, .unset, .unset] [(.ref b1)])) _
    refine XS.dup X6.here hx rfl (hb hby at_28) rfl rfl ?_
    show Steps p.tables e below (T6.setTop (mkF m 29 #[.val (.int p1), .val (.int p2), .val (.int p3), .unset, .unset, .unset, .unset] [(.ref b1), (.ref b1)])) _
    refine XS.iconst X6.here hx rfl (hb hby at_29) ?_
    show Steps p.tables e below (T6.setTop (mkF m 30 #[.val (.int p1), .val (.int p2), .val (.int p3), .unset, .unset, .unset, .unset] [(.int (5 : Int32)), (.ref b1), (.ref b1)])) _
    refine X6.ldcInt hx hown (mvT hZ (hw _ (List.mem_of_getElem? (i := 1) rfl))) (g := (mkF m 30 #[.val (.int p1), .val (.int p2), .val (.int p3), .unset, .unset, .unset, .unset] [(.int (5 : Int32)), (.ref b1), (.ref b1)])) rfl (hb hby at_30) _ ?_
    show Steps p.tables e below (T6.setTop (mkF m 32 #[.val (.int p1), .val (.int p2), .val (.int p3), .unset, .unset, .unset, .unset] [(.int (55295 : Int32)), (.int (5 : Int32)), (.ref b1), (.ref b1)])) _
    refine st7 _ ?_
    show Steps p.tables e below (T7.setTop (mkF m 33 #[.val (.int p1), .val (.int p2), .val (.int p3), .unset, .unset, .unset, .unset] [(.ref b1)])) _
    refine XS.dup X7.here hx rfl (hb hby at_33) rfl rfl ?_
    show Steps p.tables e below (T7.setTop (mkF m 34 #[.val (.int p1), .val (.int p2), .val (.int p3), .unset, .unset, .unset, .unset] [(.ref b1), (.ref b1)])) _
    refine XS.bipush X7.here hx rfl (hb hby at_34) ?_
    show Steps p.tables e below (T7.setTop (mkF m 36 #[.val (.int p1), .val (.int p2), .val (.int p3), .unset, .unset, .unset, .unset] [(.int (6 : Int32)), (.ref b1), (.ref b1)])) _
    refine X7.ldcInt hx hown (mvT hZ (hw _ (List.mem_of_getElem? (i := 2) rfl))) (g := (mkF m 36 #[.val (.int p1), .val (.int p2), .val (.int p3), .unset, .unset, .unset, .unset] [(.int (6 : Int32)), (.ref b1), (.ref b1)])) rfl (hb hby at_36) _ ?_
    show Steps p.tables e below (T7.setTop (mkF m 38 #[.val (.int p1), .val (.int p2), .val (.int p3), .unset, .unset, .unset, .unset] [(.int (55296 : Int32)), (.int (6 : Int32)), (.ref b1), (.ref b1)])) _
    refine st8 _ ?_
    show Steps p.tables e below (T8.setTop (mkF m 39 #[.val (.int p1), .val (.int p2), .val (.int p3), .unset, .unset, .unset, .unset] [(.ref b1)])) _
    refine XS.dup X8.here hx rfl (hb hby at_39) rfl rfl ?_
    show Steps p.tables e below (T8.setTop (mkF m 40 #[.val (.int p1), .val (.int p2), .val (.int p3), .unset, .unset, .unset, .unset] [(.ref b1), (.ref b1)])) _
    refine XS.bipush X8.here hx rfl (hb hby at_40) ?_
    show Steps p.tables e below (T8.setTop (mkF m 42 #[.val (.int p1), .val (.int p2), .val (.int p3), .unset, .unset, .unset, .unset] [(.int (7 : Int32)), (.ref b1), (.ref b1)])) _
    refine X8.ldcInt hx hown (mvT hZ (hw _ (List.mem_of_getElem? (i := 3) rfl))) (g := (mkF m 42 #[.val (.int p1), .val (.int p2), .val (.int p3), .unset, .unset, .unset, .unset] [(.int (7 : Int32)), (.ref b1), (.ref b1)])) rfl (hb hby at_42) _ ?_
    show Steps p.tables e below (T8.setTop (mkF m 44 #[.val (.int p1), .val (.int p2), .val (.int p3), .unset, .unset, .unset, .unset] [(.int (57343 : Int32)), (.int (7 : Int32)), (.ref b1), (.ref b1)])) _
    refine st9 _ ?_
    show Steps p.tables e below (T9.setTop (mkF m 45 #[.val (.int p1), .val (.int p2), .val (.int p3), .unset, .unset, .unset, .unset] [(.ref b1)])) _
    refine XS.dup X9.here hx rfl (hb hby at_45) rfl rfl ?_
    show Steps p.tables e below (T9.setTop (mkF m 46 #[.val (.int p1), .val (.int p2), .val (.int p3), .unset, .unset, .unset, .unset] [(.ref b1), (.ref b1)])) _
    refine XS.bipush X9.here hx rfl (hb hby at_46) ?_
    show Steps p.tables e below (T9.setTop (mkF m 48 #[.val (.int p1), .val (.int p2), .val (.int p3), .unset, .unset, .unset, .unset] [(.int (8 : Int32)), (.ref b1), (.ref b1)])) _
    refine X9.ldcInt hx hown (mvT hZ (hw _ (List.mem_of_getElem? (i := 4) rfl))) (g := (mkF m 48 #[.val (.int p1), .val (.int p2), .val (.int p3), .unset, .unset, .unset, .unset] [(.int (8 : Int32)), (.ref b1), (.ref b1)])) rfl (hb hby at_48) _ ?_
    show Steps p.tables e below (T9.setTop (mkF m 50 #[.val (.int p1), .val (.int p2), .val (.int p3), .unset, .unset, .unset, .unset] [(.int (57344 : Int32)), (.int (8 : Int32)), (.ref b1), (.ref b1)])) _
    refine st10 _ ?_
    show Steps p.tables e below (T10.setTop (mkF m 51 #[.val (.int p1), .val (.int p2), .val (.int p3), .unset, .unset, .unset, .unset] [(.ref b1)])) _
    refine XS.dup X10.here hx rfl (hb hby at_51) rfl rfl ?_
    show Steps p.tables e below (T10.setTop (mkF m 52 #[.val (.int p1), .val (.int p2), .val (.int p3), .unset, .unset, .unset, .unset] [(.ref b1), (.ref b1)])) _
    refine XS.bipush X10.here hx rfl (hb hby at_52) ?_
    show Steps p.tables e below (T10.setTop (mkF m 54 #[.val (.int p1), .val (.int p2), .val (.int p3), .unset, .unset, .unset, .unset] [(.int (9 : Int32)), (.ref b1), (.ref b1)])) _
    refine X10.ldcInt hx hown (mvT hZ (hw _ (List.mem_of_getElem? (i := 5) rfl))) (g := (mkF m 54 #[.val (.int p1), .val (.int p2), .val (.int p3), .unset, .unset, .unset, .unset] [(.int (9 : Int32)), (.ref b1), (.ref b1)])) rfl (hb hby at_54) _ ?_
    show Steps p.tables e below (T10.setTop (mkF m 56 #[.val (.int p1), .val (.int p2), .val (.int p3), .unset, .unset, .unset, .unset] [(.int (65533 : Int32)), (.int (9 : Int32)), (.ref b1), (.ref b1)])) _
    refine st11 _ ?_
    show Steps p.tables e below (T11.setTop (mkF m 57 #[.val (.int p1), .val (.int p2), .val (.int p3), .unset, .unset, .unset, .unset] [(.ref b1)])) _
    refine XS.dup X11.here hx rfl (hb hby at_57) rfl rfl ?_
    show Steps p.tables e below (T11.setTop (mkF m 58 #[.val (.int p1), .val (.int p2), .val (.int p3), .unset, .unset, .unset, .unset] [(.ref b1), (.ref b1)])) _
    refine XS.bipush X11.here hx rfl (hb hby at_58) ?_
    show Steps p.tables e below (T11.setTop (mkF m 60 #[.val (.int p1), .val (.int p2), .val (.int p3), .unset, .unset, .unset, .unset] [(.int (10 : Int32)), (.ref b1), (.ref b1)])) _
    refine X11.ldcInt hx hown (mvT hZ (hw _ (List.mem_of_getElem? (i := 6) rfl))) (g := (mkF m 60 #[.val (.int p1), .val (.int p2), .val (.int p3), .unset, .unset, .unset, .unset] [(.int (10 : Int32)), (.ref b1), (.ref b1)])) rfl (hb hby at_60) _ ?_
    show Steps p.tables e below (T11.setTop (mkF m 62 #[.val (.int p1), .val (.int p2), .val (.int p3), .unset, .unset, .unset, .unset] [(.int (65534 : Int32)), (.int (10 : Int32)), (.ref b1), (.ref b1)])) _
    refine st12 _ ?_
    show Steps p.tables e below (T12.setTop (mkF m 63 #[.val (.int p1), .val (.int p2), .val (.int p3), .unset, .unset, .unset, .unset] [(.ref b1)])) _
    refine XS.dup X12.here hx rfl (hb hby at_63) rfl rfl ?_
    show Steps p.tables e below (T12.setTop (mkF m 64 #[.val (.int p1), .val (.int p2), .val (.int p3), .unset, .unset, .unset, .unset] [(.ref b1), (.ref b1)])) _
    refine XS.bipush X12.here hx rfl (hb hby at_64) ?_
    show Steps p.tables e below (T12.setTop (mkF m 66 #[.val (.int p1), .val (.int p2), .val (.int p3), .unset, .unset, .unset, .unset] [(.int (11 : Int32)), (.ref b1), (.ref b1)])) _
    refine X12.ldcInt hx hown (mvT hZ (hw _ (List.mem_of_getElem? (i := 7) rfl))) (g := (mkF m 66 #[.val (.int p1), .val (.int p2), .val (.int p3), .unset, .unset, .unset, .unset] [(.int (11 : Int32)), (.ref b1), (.ref b1)])) rfl (hb hby at_66) _ ?_
    show Steps p.tables e below (T12.setTop (mkF m 68 #[.val (.int p1), .val (.int p2), .val (.int p3), .unset, .unset, .unset, .unset] [(.int (65535 : Int32)), (.int (11 : Int32)), (.ref b1), (.ref b1)])) _
    refine st13 _ ?_
    show Steps p.tables e below (T13.setTop (mkF m 69 #[.val (.int p1), .val (.int p2), .val (.int p3), .unset, .unset, .unset, .unset] [(.ref b1)])) _
    refine XS.dup X13.here hx rfl (hb hby at_69) rfl rfl ?_
    show Steps p.tables e below (T13.setTop (mkF m 70 #[.val (.int p1), .val (.int p2), .val (.int p3), .unset, .unset, .unset, .unset] [(.ref b1), (.ref b1)])) _
    refine XS.bipush X13.here hx rfl (hb hby at_70) ?_
    show Steps p.tables e below (T13.setTop (mkF m 72 #[.val (.int p1), .val (.int p2), .val (.int p3), .unset, .unset, .unset, .unset] [(.int (12 : Int32)), (.ref b1), (.ref b1)])) _
    refine X13.ldcInt hx hown (mvT hZ (hw _ (List.mem_of_getElem? (i := 8) rfl))) (g := (mkF m 72 #[.val (.int p1), .val (.int p2), .val (.int p3), .unset, .unset, .unset, .unset] [(.int (12 : Int32)), (.ref b1), (.ref b1)])) rfl (hb hby at_72) _ ?_
    show Steps p.tables e below (T13.setTop (mkF m 74 #[.val (.int p1), .val (.int p2), .val (.int p3), .unset, .unset, .unset, .unset] [(.int (65536 : Int32)), (.int (12 : Int32)), (.ref b1), (.ref b1)])) _
    refine st14 _ ?_
    show Steps p.tables e below (T14.setTop (mkF m 75 #[.val (.int p1), .val (.int p2), .val (.int p3), .unset, .unset, .unset, .unset] [(.ref b1)])) _
    refine XS.dup X14.here hx rfl (hb hby at_75) rfl rfl ?_
    show Steps p.tables e below (T14.setTop (mkF m 76 #[.val (.int p1), .val (.int p2), .val (.int p3), .unset, .unset, .unset, .unset] [(.ref b1), (.ref b1)])) _
    refine XS.bipush X14.here hx rfl (hb hby at_76) ?_
    show Steps p.tables e below (T14.setTop (mkF m 78 #[.val (.int p1), .val (.int p2), .val (.int p3), .unset, .unset, .unset, .unset] [(.int (13 : Int32)), (.ref b1), (.ref b1)])) _
    refine X14.ldcInt hx hown (mvT hZ (hw _ (List.mem_of_getElem? (i := 9) rfl))) (g := (mkF m 78 #[.val (.int p1), .val (.int p2), .val (.int p3), .unset, .unset, .unset, .unset] [(.int (13 : Int32)), (.ref b1), (.ref b1)])) rfl (hb hby at_78) _ ?_
    show Steps p.tables e below (T14.setTop (mkF m 80 #[.val (.int p1), .val (.int p2), .val (.int p3), .unset, .unset, .unset, .unset] [(.int (1114111 : Int32)), (.int (13 : Int32)), (.ref b1), (.ref b1)])) _
    refine st15 _ ?_
    show Steps p.tables e below (T15.setTop (mkF m 81 #[.val (.int p1), .val (.int p2), .val (.int p3), .unset, .unset, .unset, .unset] [(.ref b1)])) _
    refine XS.dup X15.here hx rfl (hb hby at_81) rfl rfl ?_
    show Steps p.tables e below (T15.setTop (mkF m 82 #[.val (.int p1), .val (.int p2), .val (.int p3), .unset, .unset, .unset, .unset] [(.ref b1), (.ref b1)])) _
    refine XS.bipush X15.here hx rfl (hb hby at_82) ?_
    show Steps p.tables e below (T15.setTop (mkF m 84 #[.val (.int p1), .val (.int p2), .val (.int p3), .unset, .unset, .unset, .unset] [(.int (14 : Int32)), (.ref b1), (.ref b1)])) _
    refine X15.ldcInt hx hown (mvT hZ (hw _ (List.mem_of_getElem? (i := 10) rfl))) (g := (mkF m 84 #[.val (.int p1), .val (.int p2), .val (.int p3), .unset, .unset, .unset, .unset] [(.int (14 : Int32)), (.ref b1), (.ref b1)])) rfl (hb hby at_84) _ ?_
    show Steps p.tables e below (T15.setTop (mkF m 86 #[.val (.int p1), .val (.int p2), .val (.int p3), .unset, .unset, .unset, .unset] [(.int (1114112 : Int32)), (.int (14 : Int32)), (.ref b1), (.ref b1)])) _
    refine st16 _ ?_
    show Steps p.tables e below (T16.setTop (mkF m 87 #[.val (.int p1), .val (.int p2), .val (.int p3), .unset, .unset, .unset, .unset] [(.ref b1)])) _
    refine XS.dup X16.here hx rfl (hb hby at_87) rfl rfl ?_
    show Steps p.tables e below (T16.setTop (mkF m 88 #[.val (.int p1), .val (.int p2), .val (.int p3), .unset, .unset, .unset, .unset] [(.ref b1), (.ref b1)])) _
    refine XS.bipush X16.here hx rfl (hb hby at_88) ?_
    show Steps p.tables e below (T16.setTop (mkF m 90 #[.val (.int p1), .val (.int p2), .val (.int p3), .unset, .unset, .unset, .unset] [(.int (15 : Int32)), (.ref b1), (.ref b1)])) _
    refine X16.ldcInt hx hown (mvT hZ (hw _ (List.mem_of_getElem? (i := 11) rfl))) (g := (mkF m 90 #[.val (.int p1), .val (.int p2), .val (.int p3), .unset, .unset, .unset, .unset] [(.int (15 : Int32)), (.ref b1), (.ref b1)])) rfl (hb hby at_90) _ ?_
    show Steps p.tables e below (T16.setTop (mkF m 92 #[.val (.int p1), .val (.int p2), .val (.int p3), .unset, .unset, .unset, .unset] [(.int (-2147483648 : Int32)), (.int (15 : Int32)), (.ref b1), (.ref b1)])) _
    refine st17 _ ?_
    show Steps p.tables e below (T17.setTop (mkF m 93 #[.val (.int p1), .val (.int p2), .val (.int p3), .unset, .unset, .unset, .unset] [(.ref b1)])) _
    refine XS.dup X17.here hx rfl (hb hby at_93) rfl rfl ?_
    show Steps p.tables e below (T17.setTop (mkF m 94 #[.val (.int p1), .val (.int p2), .val (.int p3), .unset, .unset, .unset, .unset] [(.ref b1), (.ref b1)])) _
    refine XS.bipush X17.here hx rfl (hb hby at_94) ?_
    show Steps p.tables e below (T17.setTop (mkF m 96 #[.val (.int p1), .val (.int p2), .val (.int p3), .unset, .unset, .unset, .unset] [(.int (16 : Int32)), (.ref b1), (.ref b1)])) _
    refine X17.ldcInt hx hown (mvT hZ (hw _ (List.mem_of_getElem? (i := 12) rfl))) (g := (mkF m 96 #[.val (.int p1), .val (.int p2), .val (.int p3), .unset, .unset, .unset, .unset] [(.int (16 : Int32)), (.ref b1), (.ref b1)])) rfl (hb hby at_96) _ ?_
    show Steps p.tables e below (T17.setTop (mkF m 98 #[.val (.int p1), .val (.int p2), .val (.int p3), .unset, .unset, .unset, .unset] [(.int (2147483647 : Int32)), (.int (16 : Int32)), (.ref b1), (.ref b1)])) _
    refine st18 _ ?_
    show Steps p.tables e below (T18.setTop (mkF m 99 #[.val (.int p1), .val (.int p2), .val (.int p3), .unset, .unset, .unset, .unset] [(.ref b1)])) _
    refine XS.astoreN X18.here hx rfl (hb hby at_99) rfl rfl (l' := #[.val (.int p1), .val (.int p2), .val (.int p3), .val (.ref b1), .unset, .unset, .unset]) rfl ?_
    show Steps p.tables e below (T18.setTop (mkF m 100 #[.val (.int p1), .val (.int p2), .val (.int p3), .val (.ref b1), .unset, .unset, .unset] [])) _
    refine XS.aloadN X18.here hx rfl (hb hby at_100) rfl rfl ?_
    show Steps p.tables e below (T18.setTop (mkF m 101 #[.val (.int p1), .val (.int p2), .val (.int p3), .val (.ref b1), .unset, .unset, .unset] [(.ref b1)])) _
    refine X18.arraylength hx (by rw [e18]; exact Ar19.1) (State.isArrayOf_alike hZ.alike Ar19.2.1) (g := (mkF m 101 #[.val (.int p1), .val (.int p2), .val (.int p3), .val (.ref b1), .unset, .unset, .unset] [(.ref b1)])) rfl rfl (hb hby at_101) _ ?_
    rw [len_of S19 M19]
    show Steps p.tables e below (T18.setTop (mkF m 102 #[.val (.int p1), .val (.int p2), .val (.int p3), .val (.ref b1), .unset, .unset, .unset] [(.int (17 : Int32))])) _
    refine XS.istore X18.here hx rfl (hb hby at_102) rfl (l' := #[.val (.int p1), .val (.int p2), .val (.int p3), .val (.ref b1), .val (.int (17 : Int32)), .unset, .unset]) rfl ?_
    show Steps p.tables e below (T18.setTop (mkF m 104 #[.val (.int p1), .val (.int p2), .val (.int p3), .val (.ref b1), .val (.int (17 : Int32)), .unset, .unset] [])) _
    refine XS.iloadN X18.here hx rfl (hb hby at_104) rfl ?_
    show Steps p.tables e below (T18.setTop (mkF m 105 #[.val (.int p1), .val (.int p2), .val (.int p3), .val (.ref b1), .val (.int (17 : Int32)), .unset, .unset] [(.int p2)])) _
    refine X18.ldcInt hx hown (mvT hZ (hw _ (List.mem_of_getElem? (i := 12) rfl))) (g := (mkF m 105 #[.val (.int p1), .val (.int p2), .val (.int p3), .val (.ref b1), .val (.int (17 : Int32)), .unset, .unset] [(.int p2)])) rfl (hb hby at_105) _ ?_
    show Steps p.tables e below (T18.setTop (mkF m 107 #[.val (.int p1), .val (.int p2), .val (.int p3), .val (.ref b1), .val (.int (17 : Int32)), .unset, .unset] [(.int (2147483647 : Int32)), (.int p2)])) _
    refine XS.iand X18.here hx rfl (hb hby at_107) rfl ?_
    show Steps p.tables e below (T18.setTop (mkF m 108 #[.val (.int p1), .val (.int p2), .val (.int p3), .val (.ref b1), .val (.int (17 : Int32)), .unset, .unset] [(.int (p2 &&& (2147483647 : Int32)))])) _
    refine XS.iload X18.here hx rfl (hb hby at_108) rfl ?_
    show Steps p.tables e below (T18.setTop (mkF m 110 #[.val (.int p1), .val (.int p2), .val (.int p3), .val (.ref b1), .val (.int (17 : Int32)), .unset, .unset] [(.int (17 : Int32)), (.int (p2 &&& (2147483647 : Int32)))])) _
    refine XS.iconst X18.here hx rfl (hb hby at_110) ?_
    show Steps p.tables e below (T18.setTop (mkF m 111 #[.val (.int p1), .val (.int p2), .val (.int p3), .val (.ref b1), .val (.int (17 : Int32)), .unset, .unset] [(.int (1 : Int32)), (.int (17 : Int32)), (.int (p2 &&& (2147483647 : Int32)))])) _
    refine XS.iadd X18.here hx rfl (hb hby at_111) rfl ?_
    show Steps p.tables e below (T18.setTop (mkF m 112 #[.val (.int p1), .val (.int p2), .val (.int p3), .val (.ref b1), .val (.int (17 : Int32)), .unset, .unset] [(.int (18 : Int32)), (.int (p2 &&& (2147483647 : Int32)))])) _
    refine iremM X18 hx rfl (hb hby at_112) rfl (by decide) ?_
    show Steps p.tables e below (T18.setTop (mkF m 113 #[.val (.int p1), .val (.int p2), .val (.int p3), .val (.ref b1), .val (.int (17 : Int32)), .unset, .unset] [(.int ((p2 &&& (2147483647 : Int32)) % (18 : Int32)))])) _
    refine XS.istore X18.here hx rfl (hb hby at_113) rfl (l' := #[.val (.int p1), .val (.int p2), .val (.int p3), .val (.ref b1), .val (.int (17 : Int32)), .val (.int ((p2 &&& (2147483647 : Int32)) % (18 : Int32))), .unset]) rfl ?_
    show Steps p.tables e below (T18.setTop (mkF m 115 #[.val (.int p1), .val (.int p2), .val (.int p3), .val (.ref b1), .val (.int (17 : Int32)), .val (.int ((p2 &&& (2147483647 : Int32)) % (18 : Int32))), .unset] [])) _
    refine XS.iload X18.here hx rfl (hb hby at_115) rfl ?_
    show Steps p.tables e below (T18.setTop (mkF m 117 #[.val (.int p1), .val (.int p2), .val (.int p3), .val (.ref b1), .val (.int (17 : Int32)), .val (.int ((p2 &&& (2147483647 : Int32)) % (18 : Int32))), .unset] [(.int ((p2 &&& (2147483647 : Int32)) % (18 : Int32)))])) _
    refine XS.iload X18.here hx rfl (hb hby at_117) rfl ?_
    exact kt
  have pre23 : ∀ t, Steps p.tables e below (T18.setTop (mkF m 142 #[.val (.int p1), .val (.int p2), .val (.int p3), .val (.ref b1), .val (.int (17 : Int32)), .val (.int ((p2 &&& (2147483647 : Int32)) % (18 : Int32))), .val (.int (if ((p2 &&& (2147483647 : Int32)) % (18 : Int32)) = (17 : Int32) then p1 else ((own_at own_tab_0_131 ((p2 &&& (2147483647 : Int32)) % (18 : Int32))) + ((p3 &&& (15 : Int32)) - (8 : Int32)))))] [])) t → Steps p.tables e below (s₁.setTop (entryFrame m #[(.int p1), (.int p2), (.int p3)] maxLocals)) t := by
    by_cases hc21 : ((p2 &&& (2147483647 : Int32)) % (18 : Int32)) = (17 : Int32)
    · refine fun t kt => pre20 t ?_
      repeat rw [if_pos hc21] at kt
      show Steps p.tables e below (T18.setTop (mkF m 119 #[.val (.int p1), .val (.int p2), .val (.int p3), .val (.ref b1), .val (.int (17 : Int32)), .val (.int ((p2 &&& (2147483647 : Int32)) % (18 : Int32))), .unset] [(.int (17 : Int32)), (.int ((p2 &&& (2147483647 : Int32)) % (18 : Int32)))])) _
      refine XS.icmpNo X18.here hx rfl (hb hby at_119) rfl (teq hc21).2 ?_
      show Steps p.tables e below (T18.setTop (mkF m 122 #[.val (.int p1), .val (.int p2), .val (.int p3), .val (.ref b1), .val (.int (17 : Int32)), .val (.int ((p2 &&& (2147483647 : Int32)) % (18 : Int32))), .unset] [])) _
      refine XS.iloadN X18.here hx rfl (hb hby at_122) rfl ?_
      show Steps p.tables e below (T18.setTop (mkF m 123 #[.val (.int p1), .val (.int p2), .val (.int p3), .val (.ref b1), .val (.int (17 : Int32)), .val (.int ((p2 &&& (2147483647 : Int32)) % (18 : Int32))), .unset] [(.int p1)])) _
      refine XS.istore X18.here hx rfl (hb hby at_123) rfl (l' := #[.val (.int p1), .val (.int p2), .val (.int p3), .val (.ref b1), .val (.int (17 : Int32)), .val (.int ((p2 &&& (2147483647 : Int32)) % (18 : Int32))), .val (.int p1)]) rfl ?_
      show Steps p.tables e below (T18.setTop (mkF m 125 #[.val (.int p1), .val (.int p2), .val (.int p3), .val (.ref b1), .val (.int (17 : Int32)), .val (.int ((p2 &&& (2147483647 : Int32)) % (18 : Int32))), .val (.int p1)] [])) _
      refine XS.goto X18.here hx rfl (pc0 := 125) (pc' := 142) rfl (hb hby at_125) (by decide) (by decide) ?_
      exact kt
    · obtain ⟨cl22, Ar22, q22, S22, M22, H22, G22⟩ := id V18
      have hin22 : ¬ (((p2 &&& (2147483647 : Int32)) % (18 : Int32)) < 0 ∨ cl22.slots.size ≤ (((p2 &&& (2147483647 : Int32)) % (18 : Int32))).toNatClampNeg) := inb_of S22 (side_0_131 p1 p2 p3 hc21)
      have hat22 : cl22.slots[(((p2 &&& (2147483647 : Int32)) % (18 : Int32))).toNatClampNeg]? = some (.int (own_at own_tab_0_131 ((p2 &&& (2147483647 : Int32)) % (18 : Int32)))) := Has.at H22 hin22 (own_getD own_tab_0_131 (((p2 &&& (2147483647 : Int32)) % (18 : Int32))).toNatClampNeg)
      refine fun t kt => pre20 t ?_
      repeat rw [if_neg hc21] at kt
      show Steps p.tables e below (T18.setTop (mkF m 119 #[.val (.int p1), .val (.int p2), .val (.int p3), .val (.ref b1), .val (.int (17 : Int32)), .val (.int ((p2 &&& (2147483647 : Int32)) % (18 : Int32))), .unset] [(.int (17 : Int32)), (.int ((p2 &&& (2147483647 : Int32)) % (18 : Int32)))])) _
      refine XS.icmpYes X18.here hx rfl (pc0 := 119) (pc' := 128) rfl (hb hby at_119) rfl (feq hc21).2 (by decide) (by decide) ?_
      show Steps p.tables e below (T18.setTop (mkF m 128 #[.val (.int p1), .val (.int p2), .val (.int p3), .val (.ref b1), .val (.int (17 : Int32)), .val (.int ((p2 &&& (2147483647 : Int32)) % (18 : Int32))), .unset] [])) _
      refine XS.aloadN X18.here hx rfl (hb hby at_128) rfl rfl ?_
      show Steps p.tables e below (T18.setTop (mkF m 129 #[.val (.int p1), .val (.int p2), .val (.int p3), .val (.ref b1), .val (.int (17 : Int32)), .val (.int ((p2 &&& (2147483647 : Int32)) % (18 : Int32))), .unset] [(.ref b1)])) _
      refine XS.iload X18.here hx rfl (hb hby at_129) rfl ?_
      show Steps p.tables e below (T18.setTop (mkF m 131 #[.val (.int p1), .val (.int p2), .val (.int p3), .val (.ref b1), .val (.int (17 : Int32)), .val (.int ((p2 &&& (2147483647 : Int32)) % (18 : Int32))), .unset] [(.int ((p2 &&& (2147483647 : Int32)) % (18 : Int32))), (.ref b1)])) _
      refine X18.iaload hx (j := ((p2 &&& (2147483647 : Int32)) % (18 : Int32))) (v := (.int (own_at own_tab_0_131 ((p2 &&& (2147483647 : Int32)) % (18 : Int32))))) (by rw [e18]; exact Ar22.1) (State.isArrayOf_alike hZ.alike Ar22.2.1) Ar22.2.2 hin22 hat22 (g := (mkF m 131 #[.val (.int p1), .val (.int p2), .val (.int p3), .val (.ref b1), .val (.int (17 : Int32)), .val (.int ((p2 &&& (2147483647 : Int32)) % (18 : Int32))), .unset] [(.int ((p2 &&& (2147483647 : Int32)) % (18 : Int32))), (.ref b1)])) rfl rfl (hb hby at_131) _ ?_
      show Steps p.tables e below (T18.setTop (mkF m 132 #[.val (.int p1), .val (.int p2), .val (.int p3), .val (.ref b1), .val (.int (17 : Int32)), .val (.int ((p2 &&& (2147483647 : Int32)) % (18 : Int32))), .unset] [(.int (own_at own_tab_0_131 ((p2 &&& (2147483647 : Int32)) % (18 : Int32))))])) _
      refine XS.iloadN X18.here hx rfl (hb hby at_132) rfl ?_
      show Steps p.tables e below (T18.setTop (mkF m 133 #[.val (.int p1), .val (.int p2), .val (.int p3), .val (.ref b1), .val (.int (17 : Int32)), .val (.int ((p2 &&& (2147483647 : Int32)) % (18 : Int32))), .unset] [(.int p3), (.int (own_at own_tab_0_131 ((p2 &&& (2147483647 : Int32)) % (18 : Int32))))])) _
      refine XS.bipush X18.here hx rfl (hb hby at_133) ?_
      show Steps p.tables e below (T18.setTop (mkF m 135 #[.val (.int p1), .val (.int p2), .val (.int p3), .val (.ref b1), .val (.int (17 : Int32)), .val (.int ((p2 &&& (2147483647 : Int32)) % (18 : Int32))), .unset] [(.int (15 : Int32)), (.int p3), (.int (own_at own_tab_0_131 ((p2 &&& (2147483647 : Int32)) % (18 : Int32))))])) _
      refine XS.iand X18.here hx rfl (hb hby at_135) rfl ?_
      show Steps p.tables e below (T18.setTop (mkF m 136 #[.val (.int p1), .val (.int p2), .val (.int p3), .val (.ref b1), .val (.int (17 : Int32)), .val (.int ((p2 &&& (2147483647 : Int32)) % (18 : Int32))), .unset] [(.int (p3 &&& (15 : Int32))), (.int (own_at own_tab_0_131 ((p2 &&& (2147483647 : Int32)) % (18 : Int32))))])) _
      refine XS.bipush X18.here hx rfl (hb hby at_136) ?_
      show Steps p.tables e below (T18.setTop (mkF m 138 #[.val (.int p1), .val (.int p2), .val (.int p3), .val (.ref b1), .val (.int (17 : Int32)), .val (.int ((p2 &&& (2147483647 : Int32)) % (18 : Int32))), .unset] [(.int (8 : Int32)), (.int (p3 &&& (15 : Int32))), (.int (own_at own_tab_0_131 ((p2 &&& (2147483647 : Int32)) % (18 : Int32))))])) _
      refine XS.isub X18.here hx rfl (hb hby at_138) rfl ?_
      show Steps p.tables e below (T18.setTop (mkF m 139 #[.val (.int p1), .val (.int p2), .val (.int p3), .val (.ref b1), .val (.int (17 : Int32)), .val (.int ((p2 &&& (2147483647 : Int32)) % (18 : Int32))), .unset] [(.int ((p3 &&& (15 : Int32)) - (8 : Int32))), (.int (own_at own_tab_0_131 ((p2 &&& (2147483647 : Int32)) % (18 : Int32))))])) _
      refine XS.iadd X18.here hx rfl (hb hby at_139) rfl ?_
      show Steps p.tables e below (T18.setTop (mkF m 140 #[.val (.int p1), .val (.int p2), .val (.int p3), .val (.ref b1), .val (.int (17 : Int32)), .val (.int ((p2 &&& (2147483647 : Int32)) % (18 : Int32))), .unset] [(.int ((own_at own_tab_0_131 ((p2 &&& (2147483647 : Int32)) % (18 : Int32))) + ((p3 &&& (15 : Int32)) - (8 : Int32))))])) _
      refine XS.istore X18.here hx rfl (hb hby at_140) rfl (l' := #[.val (.int p1), .val (.int p2), .val (.int p3), .val (.ref b1), .val (.int (17 : Int32)), .val (.int ((p2 &&& (2147483647 : Int32)) % (18 : Int32))), .val (.int ((own_at own_tab_0_131 ((p2 &&& (2147483647 : Int32)) % (18 : Int32))) + ((p3 &&& (15 : Int32)) - (8 : Int32))))]) rfl ?_
      exact kt
  obtain ⟨v24, hv24⟩ : ∃ z : Int32, z = (if ((p2 &&& (2147483647 : Int32)) % (18 : Int32)) = (17 : Int32) then p1 else ((own_at own_tab_0_131 ((p2 &&& (2147483647 : Int32)) % (18 : Int32))) + ((p3 &&& (15 : Int32)) - (8 : Int32)))) := ⟨_, rfl⟩
  rw [← hv24] at pre23
  have z26 : n0 ≤ h18.size := (Nat.le_trans (Nat.le_trans (Nat.le_trans (Nat.le_trans (Nat.le_trans (Nat.le_trans (Nat.le_trans (Nat.le_trans (Nat.le_trans (Nat.le_trans (Nat.le_trans (Nat.le_trans (Nat.le_trans (Nat.le_trans (Nat.le_trans (Nat.le_trans (Nat.le_trans (Nat.le_trans Z0 E1.1) (Keep.of_wr W2).1) (Keep.of_wr W3).1) (Keep.of_wr W4).1) (Keep.of_wr W5).1) (Keep.of_wr W6).1) (Keep.of_wr W7).1) (Keep.of_wr W8).1) (Keep.of_wr W9).1) (Keep.of_wr W10).1) (Keep.of_wr W11).1) (Keep.of_wr W12).1) (Keep.of_wr W13).1) (Keep.of_wr W14).1) (Keep.of_wr W15).1) (Keep.of_wr W16).1) (Keep.of_wr W17).1) (Keep.of_wr W18).1)
  obtain ⟨_, _, ⟨T25, L25, k25, n25⟩, -, X25, ⟨Lc25, hQ25, l25, y25, z25⟩, st25⟩ := Jvm.LawKit.callS X18 hx (y := (⟨"com/example/trampoline/trampoline/manifest/XmlChars", "isXmlChar", "(I)Z"⟩ : MethodName)) hown (mvT hZ (hw _ (List.mem_of_getElem? (i := 13) rfl))) (mvT hZ (hw _ (List.mem_of_getElem? (i := 14) rfl))) (mvT hZ (hw _ (List.mem_of_getElem? (i := 15) rfl))) (mvT hZ (hw _ (List.mem_of_getElem? (i := 16) rfl))) (by decide) (backOf (W := 0) (rm1 l Z a0 hw [] v24 h18 n0 z26) hZ (hw _ (List.mem_of_getElem? (i := 16) rfl)) (hw _ (List.mem_of_getElem? (i := 15) rfl)) (by decide) (by decide)) (g := (mkF m 144 #[.val (.int p1), .val (.int p2), .val (.int p3), .val (.ref b1), .val (.int (17 : Int32)), .val (.int ((p2 &&& (2147483647 : Int32)) % (18 : Int32))), .val (.int v24)] [(.int v24)])) rfl (by rw [hml]; rfl) (argsL := [(.int v24)]) (rest := []) (lenOf pd_0_0 rfl) rfl (by show 2 * 0 + _ ≤ _; exact Nat.le_of_eq rfl) (hb hby at_144) (fun _ _ => ⟨rfl, e18, (by decide : 1 + 0 ≤ _), (by decide : 17 + 0 ≤ _)⟩)
  dsimp only [Pt.U, Pt.locs, Pt.cells, Pt.slots] at X25 l25 y25 z25 st25 hQ25
  subst l25 y25 z25
  obtain ⟨rfl, N25q, e25⟩ := hQ25
  have N25 := Fr.app N18 N25q
  obtain ⟨_, _, ⟨T27, L27, k27, n27⟩, -, X27, ⟨Lc27, hQ27, l27, y27, z27⟩, st27⟩ := Jvm.LawKit.callS X25 hx (y := (⟨"com/example/trampoline/trampoline/manifest/XmlCharsIsXmlCharPinLaw", "forbidden", "(I)Z"⟩ : MethodName)) hown (mvT hZ (hw _ (List.mem_of_getElem? (i := 19) rfl))) (mvT hZ (hw _ (List.mem_of_getElem? (i := 20) rfl))) (mvT hZ (hw _ (List.mem_of_getElem? (i := 21) rfl))) (mvT hZ (hw _ (List.mem_of_getElem? (i := 22) rfl))) (by decide) (backOf (W := 1) (rm2 l Z a0 hw [] v24 h18 n0 z26) hZ (hw _ (List.mem_of_getElem? (i := 22) rfl)) (hw _ (List.mem_of_getElem? (i := 21) rfl)) (by decide) (by decide)) (g := (mkF m 149 #[.val (.int p1), .val (.int p2), .val (.int p3), .val (.ref b1), .val (.int (17 : Int32)), .val (.int ((p2 &&& (2147483647 : Int32)) % (18 : Int32))), .val (.int v24)] [(.int v24), (.int (F1 v24))])) rfl (by rw [hml]; rfl) (argsL := [(.int v24)]) (rest := [(.int (F1 v24))]) (lenOf pd_0_0 rfl) rfl (by show 2 * 0 + _ ≤ _; exact Nat.le_of_eq rfl) (hb hby at_149) (fun _ _ => ⟨rfl, e25, (by decide : 1 + 0 ≤ _), (by decide : 17 + 0 ≤ _)⟩)
  dsimp only [Pt.U, Pt.locs, Pt.cells, Pt.slots] at X27 l27 y27 z27 st27 hQ27
  subst l27 y27 z27
  obtain ⟨rfl, N27q, e27⟩ := hQ27
  have N27 := Fr.app N25 N27q
  have pre28 : ∀ t, Steps p.tables e below (T27.setTop (mkF m 152 #[.val (.int p1), .val (.int p2), .val (.int p3), .val (.ref b1), .val (.int (17 : Int32)), .val (.int ((p2 &&& (2147483647 : Int32)) % (18 : Int32))), .val (.int v24)] [(.int (F2 v24)), (.int (F1 v24))])) t → Steps p.tables e below (s₁.setTop (entryFrame m #[(.int p1), (.int p2), (.int p3)] maxLocals)) t := fun t kt => by
    refine pre23 t ?_
    show Steps p.tables e below (T18.setTop (mkF m 142 #[.val (.int p1), .val (.int p2), .val (.int p3), .val (.ref b1), .val (.int (17 : Int32)), .val (.int ((p2 &&& (2147483647 : Int32)) % (18 : Int32))), .val (.int v24)] [])) _
    refine XS.iload X18.here hx rfl (hb hby at_142) rfl ?_
    show Steps p.tables e below (T18.setTop (mkF m 144 #[.val (.int p1), .val (.int p2), .val (.int p3), .val (.ref b1), .val (.int (17 : Int32)), .val (.int ((p2 &&& (2147483647 : Int32)) % (18 : Int32))), .val (.int v24)] [(.int v24)])) _
    refine st25 _ ?_
    show Steps p.tables e below (T25.setTop (mkF m 147 #[.val (.int p1), .val (.int p2), .val (.int p3), .val (.ref b1), .val (.int (17 : Int32)), .val (.int ((p2 &&& (2147483647 : Int32)) % (18 : Int32))), .val (.int v24)] [(.int (F1 v24))])) _
    refine XS.iload X25.here hx rfl (hb hby at_147) rfl ?_
    show Steps p.tables e below (T25.setTop (mkF m 149 #[.val (.int p1), .val (.int p2), .val (.int p3), .val (.ref b1), .val (.int (17 : Int32)), .val (.int ((p2 &&& (2147483647 : Int32)) % (18 : Int32))), .val (.int v24)] [(.int v24), (.int (F1 v24))])) _
    refine st27 _ ?_
    exact kt
  have pre30 : ∀ t, Steps p.tables e below (T27.setTop (mkF m 160 #[.val (.int p1), .val (.int p2), .val (.int p3), .val (.ref b1), .val (.int (17 : Int32)), .val (.int ((p2 &&& (2147483647 : Int32)) % (18 : Int32))), .val (.int v24)] [(.int (if (F2 v24) = (0 : Int32) then (1 : Int32) else (0 : Int32))), (.int (F1 v24))])) t → Steps p.tables e below (s₁.setTop (entryFrame m #[(.int p1), (.int p2), (.int p3)] maxLocals)) t := by
    by_cases hc29 : (F2 v24) = (0 : Int32)
    · refine fun t kt => pre28 t ?_
      repeat rw [if_pos hc29] at kt
      show Steps p.tables e below (T27.setTop (mkF m 152 #[.val (.int p1), .val (.int p2), .val (.int p3), .val (.ref b1), .val (.int (17 : Int32)), .val (.int ((p2 &&& (2147483647 : Int32)) % (18 : Int32))), .val (.int v24)] [(.int (F2 v24)), (.int (F1 v24))])) _
      refine XS.ifNo X27.here hx rfl (hb hby at_152) rfl ((if0 _ _).trans (teq hc29).2) ?_
      show Steps p.tables e below (T27.setTop (mkF m 155 #[.val (.int p1), .val (.int p2), .val (.int p3), .val (.ref b1), .val (.int (17 : Int32)), .val (.int ((p2 &&& (2147483647 : Int32)) % (18 : Int32))), .val (.int v24)] [(.int (F1 v24))])) _
      refine XS.iconst X27.here hx rfl (hb hby at_155) ?_
      show Steps p.tables e below (T27.setTop (mkF m 156 #[.val (.int p1), .val (.int p2), .val (.int p3), .val (.ref b1), .val (.int (17 : Int32)), .val (.int ((p2 &&& (2147483647 : Int32)) % (18 : Int32))), .val (.int v24)] [(.int (1 : Int32)), (.int (F1 v24))])) _
      refine XS.goto X27.here hx rfl (pc0 := 156) (pc' := 160) rfl (hb hby at_156) (by decide) (by decide) ?_
      exact kt
    · refine fun t kt => pre28 t ?_
      repeat rw [if_neg hc29] at kt
      show Steps p.tables e below (T27.setTop (mkF m 152 #[.val (.int p1), .val (.int p2), .val (.int p3), .val (.ref b1), .val (.int (17 : Int32)), .val (.int ((p2 &&& (2147483647 : Int32)) % (18 : Int32))), .val (.int v24)] [(.int (F2 v24)), (.int (F1 v24))])) _
      refine XS.ifYes X27.here hx rfl (pc0 := 152) (pc' := 159) rfl (hb hby at_152) rfl ((if0 _ _).trans (feq hc29).2) (by decide) (by decide) ?_
      show Steps p.tables e below (T27.setTop (mkF m 159 #[.val (.int p1), .val (.int p2), .val (.int p3), .val (.ref b1), .val (.int (17 : Int32)), .val (.int ((p2 &&& (2147483647 : Int32)) % (18 : Int32))), .val (.int v24)] [(.int (F1 v24))])) _
      refine XS.iconst X27.here hx rfl (hb hby at_159) ?_
      exact kt
  obtain ⟨v31, hv31⟩ : ∃ z : Int32, z = (if (F2 v24) = (0 : Int32) then (1 : Int32) else (0 : Int32)) := ⟨_, rfl⟩
  rw [← hv31] at pre30
  by_cases hc32 : (F1 v24) = v31
  · obtain ⟨fs, hr, hrun, hended, hW, hsame⟩ := X27.leave (v := some (.int (1 : Int32))) (fun h => by rw [Bd.returns] at h; cases h)
    refine ⟨_, _, pre30 _ ?_, hrun, hended, _, _, rfl, ?_, ⟨_, rfl⟩, hW, hsame.mono (by decide) (by decide)⟩
    · show Steps p.tables e below (T27.setTop (mkF m 160 #[.val (.int p1), .val (.int p2), .val (.int p3), .val (.ref b1), .val (.int (17 : Int32)), .val (.int ((p2 &&& (2147483647 : Int32)) % (18 : Int32))), .val (.int v24)] [(.int v31), (.int (F1 v24))])) _
      refine XS.icmpNo X27.here hx rfl (hb hby at_160) rfl (teq hc32).2 ?_
      show Steps p.tables e below (T27.setTop (mkF m 163 #[.val (.int p1), .val (.int p2), .val (.int p3), .val (.ref b1), .val (.int (17 : Int32)), .val (.int ((p2 &&& (2147483647 : Int32)) % (18 : Int32))), .val (.int v24)] [])) _
      refine XS.iconst X27.here hx rfl (hb hby at_163) ?_
      show Steps p.tables e below (T27.setTop (mkF m 164 #[.val (.int p1), .val (.int p2), .val (.int p3), .val (.ref b1), .val (.int (17 : Int32)), .val (.int ((p2 &&& (2147483647 : Int32)) % (18 : Int32))), .val (.int v24)] [(.int (1 : Int32))])) _
      refine XS.goto X27.here hx rfl (pc0 := 164) (pc' := 168) rfl (hb hby at_164) (by decide) (by decide) ?_
      show Steps p.tables e below (T27.setTop (mkF m 168 #[.val (.int p1), .val (.int p2), .val (.int p3), .val (.ref b1), .val (.int (17 : Int32)), .val (.int ((p2 &&& (2147483647 : Int32)) % (18 : Int32))), .val (.int v24)] [(.int (1 : Int32))])) _
      exact retN X27 hx (t := .boolean) Bd.returns (by simp) (hb hby at_168) hr
    · show Q0 Z p1 p2 p3 h0 n0 _ T27.heap _
      rw [e27]
      exact ⟨rfl, N27⟩
  · exact (leaf_0_2 p1 p2 p3 v24 hv24 v31 hv31 hc32).elim
set_option maxRecDepth 65536 in
set_option maxHeartbeats 40000000 in
theorem comes_1 {Post : Tables → Env → Array Value → State → Outcome → State → Prop} (hpost : ∀ tb e args s v u, (limb_1_1.after args s (.returned v) u = true ∧ limb_1_2.after args s (.returned v) u = true ∧ True) → FrameEnd s (.returned v) u (Jvm.fieldLocs frame_1_writes args s ++ Jvm.arrayLocs frame_1_arrays args s ++ Jvm.staticLocs frame_1_statics s) 16 128 → Post tb e args s (.returned v) u) :
    ArmFor flags0 classFile x code maxLocals ret World_1 tables_1 room_1 Calls_1 rest_1 Pre_1 Post := by
  intro l hfl _ _ p e ha hc hk s m args below hf hA hF happ hP
  obtain ⟨hcalls, hrest, hpre⟩ := hP
  obtain ⟨-, -, -, hnamed, -, -, -, hat⟩ := (Spec.applies_iff hf).mp happ
  obtain ⟨hg, hn⟩ := and_e (Cond.before_iff.mp (show (Jvm.Cond.and given_1 narrow_1).before args s = true from hpre))
  obtain ⟨g1, g2⟩ := and_e hg
  obtain ⟨g3, g4⟩ := and_e g2
  obtain ⟨g5, g6⟩ := and_e g4
  obtain ⟨w0, w1, w2, rfl⟩ : ∃ w0 w1 w2 : Value, args = #[w0, w1, w2] := by
    have hs : args.size = 3 := by simpa [Cond.value, given_1] using g1
    obtain ⟨L⟩ := args
    match L, hs with
    | [w0, w1, w2], _ => exact ⟨w0, w1, w2, rfl⟩
  have hw := fun d (hd : d ∈ tables_1) => atoms_spec (ws := Jvm.Cond.code x code maxLocals ret :: tables_1) hat d (List.mem_cons_of_mem _ hd)
  have hfit : Fit s := fun {y c} hc i hi => by
    obtain ⟨ha, rfl⟩ := Array.getElem?_eq_some_iff.mp hc
    have q := List.all_eq_true.mp ((Array.all_eq_true_iff_forall_mem.mp hF) _ (Array.getElem_mem ha)) i (List.mem_range.mpr hi)
    simpa [Array.getElem?_eq_getElem hi] using q
  obtain ⟨i0, ei0⟩ := is_v g3
  obtain rfl : w0 = (.int i0) := Option.some.inj ei0
  obtain ⟨i1, ei1⟩ := is_v g5
  obtain rfl : w1 = (.int i1) := Option.some.inj ei1
  obtain ⟨i2, ei2⟩ := is_v g6
  obtain rfl : w2 = (.int i2) := Option.some.inj ei2
  obtain ⟨n, o, h1, h2, h3, _, L, rfl, ⟨rfl, N⟩, hq⟩ := rm0 l s _ hw tables_1 i0 i1 i2 s.heap s.heap.size (Nat.le_refl _) p e ha hc hk s m _ below hf ((Spec.applies_iff_loose hf).mp happ).1 ⟨rfl, State.Warmed39.refl s, rfl⟩ trivial
  refine ⟨n, _, h1, h2, h3, hpost _ _ _ _ _ _ ⟨Cond.after_iff.mpr rfl, Cond.after_iff.mpr (eq_i res_at (Term.int_eval (1)) rfl), trivial⟩ ⟨hq.1, hq.2.1, (hq.2.2.sift fun y hy => Or.inr (N y hy)).mono (by decide) (by decide)⟩⟩
theorem main_1_1 : Claimed_1_1 := comes_1 fun _ _ _ _ _ _ h hF => ⟨h.1, hF⟩
theorem main_1_2 : Claimed_1_2 := comes_1 fun _ _ _ _ _ _ h hF => ⟨h.2.1, hF⟩
end Jvm.Pilot.@@N@@
namespace Jvm.Pilot.@@N@@
open Jvm Jvm.ClassFile Sem Op Lib Jvm.Free Jvm.Stand Jvm.Pilot.@@N@@.Jvm.D
/-! MADE BY PROGRAM (witnessworld.py) out of the Statement's table words and the real class files: 9 classes; the members and pool entries that the words name. The judged class is class 1, her method 2. -/
namespace start1
open Jvm.ClassFile
def u (s : String) : CpInfo := .utf8 (stringToUtf16 s)
/-- a pool by its gaps: so many unusable entries, then the entry; so many at the end -/
def gap : Nat → List CpInfo → List CpInfo
  | 0, r => r
  | n + 1, r => .unusable :: gap n r
def poolList (es : List (Nat × CpInfo)) (last : Nat) : List CpInfo := es.foldr (fun e r => gap e.1 (e.2 :: r)) (gap last [])
def pool (es : List (Nat × CpInfo)) (last : Nat) : Array CpInfo := ⟨poolList es last⟩
def fileOf (pool : Array CpInfo) (this : Nat) (attrs : Array Attribute := #[]) (ms : Array MethodInfo := #[]) (fl : Nat := 33) (sup : Nat := 0) (ifs : Array Nat := #[]) (fds : Array FieldInfo := #[]) : ClassFile where
  minorVersion := 0
  majorVersion := 65
  constantPool := pool
  accessFlags := fl
  thisClass := this
  superClass := sup
  interfaces := ifs
  fields := fds
  methods := ms
  attributes := attrs
def plain (name : String) (sup : Option ClassId) : Class where
  name := name
  kind := .ordinary
  loader := none
  accessFlags := 33
  super := sup
  interfaces := #[]
  cf := none
  fields := #[]
  methods := #[]
  instanceTypes := #[]
  staticTypes := #[]
  resolved := #[]
  callSites := []
  init := .initialized
  statics := none
  mirror := none

def pool0 : Array CpInfo := pool [(5, u "<init>"), (0, u "()V"), (1, .class_ 10), (1, u "java/lang/Object")] 113

def k0m0 : Method := { name := "<init>", desc := "()V", sig := { parameters := [], returnType := none }, accessFlags := 1, code := none }
/-- java/lang/Object -/
def k0 : Class := { plain "java/lang/Object" none with
  accessFlags := 33
  interfaces := #[]
  cf := some (fileOf pool0 8 #[] #[{ accessFlags := 1, nameIndex := 5, descriptorIndex := 6, attributes := #[] }] 33 0 #[] #[])
  fields := #[]
  methods := #[k0m0]
  instanceTypes := #[]
  staticTypes := #[]
  resolved := Array.replicate 124 none
  statics := none }

def pool1 : Array CpInfo := pool [(2, .class_ 4), (1, u "java/lang/Object"), (0, u "<init>"), (0, u "()V"), (0, .integer 55296), (0, .integer 57344), (0, .integer 65534), (0, .integer 65535), (0, .integer 1114111), (0, .integer 55295), (0, .integer 57343), (0, .integer 65533), (0, .integer 65536), (0, .integer 1114112), (2, .integer 2147483648), (0, .integer 2147483647), (0, .methodref 22 23), (0, .class_ 24), (0, .nameAndType 25 26), (0, u "com/example/trampoline/trampoline/manifest/XmlChars"), (0, u "isXmlChar"), (0, u "(I)Z"), (0, .methodref 28 29), (0, .class_ 30), (0, .nameAndType 31 26), (0, u "com/example/trampoline/trampoline/manifest/XmlCharsIsXmlCharPinLaw"), (0, u "forbidden"), (3, u "law"), (0, u "(III)Z")] 4

def k1m0 : Method := { name := "<init>", desc := "()V", sig := { parameters := [], returnType := none }, accessFlags := 2, code := none }
def k1c1 : Code := { maxStack := 2, maxLocals := 1, code := method_2_code, exceptionTable := #[], attributes := #[] }
def k1m1 : Method := { name := "forbidden", desc := "(I)Z", sig := { parameters := [.int], returnType := some .boolean }, accessFlags := 10, code := some k1c1 }
def k1c2 : Code := { maxStack := 4, maxLocals := 7, code := code, exceptionTable := #[], attributes := #[] }
def k1m2 : Method := { name := "law", desc := "(III)Z", sig := { parameters := [.int, .int, .int], returnType := some .boolean }, accessFlags := 9, code := some k1c2 }
/-- com/example/trampoline/trampoline/manifest/XmlCharsIsXmlCharPinLaw -/
def k1 : Class := { plain "com/example/trampoline/trampoline/manifest/XmlCharsIsXmlCharPinLaw" (some 0) with
  accessFlags := 49
  interfaces := #[]
  cf := some (fileOf pool1 28 #[] #[{ accessFlags := 2, nameIndex := 5, descriptorIndex := 6, attributes := #[] }, { accessFlags := 10, nameIndex := 31, descriptorIndex := 26, attributes := #[] }, { accessFlags := 9, nameIndex := 35, descriptorIndex := 36, attributes := #[] }] 49 2 #[] #[])
  fields := #[]
  methods := #[k1m0, k1m1, k1m2]
  instanceTypes := #[]
  staticTypes := #[]
  resolved := Array.replicate 41 none
  statics := none }

def pool2 : Array CpInfo := pool [(2, .class_ 4), (1, u "java/lang/Object"), (2, .class_ 8), (0, u "com/example/trampoline/trampoline/manifest/XmlChars"), (8, u "bytes"), (0, u "Ljava/nio/ByteBuffer;"), (7, u "units"), (0, u "Ljava/nio/CharBuffer;"), (2, u "peeked"), (0, u "I"), (2, u "line"), (2, u "in"), (0, u "Ljava/io/InputStream;"), (10, u "bytesEnded"), (0, u "Z"), (13, u "encoding"), (0, u "Ljava/lang/String;"), (17, u "decoder"), (0, u "Ljava/nio/charset/CharsetDecoder;"), (15, u "lineEnded"), (2, u "column"), (6, .integer 55295), (0, .integer 57344), (0, .integer 65533), (0, .integer 65536), (0, .integer 1114111), (56, u "isXmlChar"), (0, u "(I)Z"), (19, u "undecodable"), (46, u "END"), (2, u "ALLOWED_NOWHERE"), (2, u "NONE"), (1, u "BUFFER_SIZE")] 31

def k2c0 : Code := { maxStack := 2, maxLocals := 1, code := prog_30_method_8_code, exceptionTable := #[], attributes := #[] }
def k2m0 : Method := { name := "isXmlChar", desc := "(I)Z", sig := { parameters := [.int], returnType := some .boolean }, accessFlags := 8, code := some k2c0 }
/-- com/example/trampoline/trampoline/manifest/XmlChars -/
def k2 : Class := { plain "com/example/trampoline/trampoline/manifest/XmlChars" (some 0) with
  accessFlags := 32
  interfaces := #[]
  cf := some (fileOf pool2 7 #[] #[{ accessFlags := 8, nameIndex := 171, descriptorIndex := 172, attributes := #[] }] 32 2 #[] #[{ accessFlags := 24, nameIndex := 239, descriptorIndex := 31, attributes := #[] }, { accessFlags := 24, nameIndex := 242, descriptorIndex := 65, attributes := #[] }, { accessFlags := 26, nameIndex := 245, descriptorIndex := 31, attributes := #[] }, { accessFlags := 26, nameIndex := 247, descriptorIndex := 31, attributes := #[] }, { accessFlags := 18, nameIndex := 37, descriptorIndex := 38, attributes := #[] }, { accessFlags := 18, nameIndex := 17, descriptorIndex := 18, attributes := #[] }, { accessFlags := 18, nameIndex := 26, descriptorIndex := 27, attributes := #[] }, { accessFlags := 18, nameIndex := 64, descriptorIndex := 65, attributes := #[] }, { accessFlags := 18, nameIndex := 83, descriptorIndex := 84, attributes := #[] }, { accessFlags := 2, nameIndex := 49, descriptorIndex := 50, attributes := #[] }, { accessFlags := 2, nameIndex := 192, descriptorIndex := 50, attributes := #[] }, { accessFlags := 2, nameIndex := 30, descriptorIndex := 31, attributes := #[] }, { accessFlags := 2, nameIndex := 34, descriptorIndex := 31, attributes := #[] }, { accessFlags := 2, nameIndex := 103, descriptorIndex := 31, attributes := #[] }, { accessFlags := 2, nameIndex := 100, descriptorIndex := 50, attributes := #[] }])
  fields := #[{ name := "END", type := .int, accessFlags := 24, slot := 0, constantValue := 0 }, { name := "ALLOWED_NOWHERE", type := (.object "java/lang/String"), accessFlags := 24, slot := 1, constantValue := 0 }, { name := "NONE", type := .int, accessFlags := 26, slot := 2, constantValue := 0 }, { name := "BUFFER_SIZE", type := .int, accessFlags := 26, slot := 3, constantValue := 0 }, { name := "in", type := (.object "java/io/InputStream"), accessFlags := 18, slot := 0, constantValue := 0 }, { name := "bytes", type := (.object "java/nio/ByteBuffer"), accessFlags := 18, slot := 1, constantValue := 0 }, { name := "units", type := (.object "java/nio/CharBuffer"), accessFlags := 18, slot := 2, constantValue := 0 }, { name := "encoding", type := (.object "java/lang/String"), accessFlags := 18, slot := 3, constantValue := 0 }, { name := "decoder", type := (.object "java/nio/charset/CharsetDecoder"), accessFlags := 18, slot := 4, constantValue := 0 }, { name := "bytesEnded", type := .boolean, accessFlags := 2, slot := 5, constantValue := 0 }, { name := "undecodable", type := .boolean, accessFlags := 2, slot := 6, constantValue := 0 }, { name := "peeked", type := .int, accessFlags := 2, slot := 7, constantValue := 0 }, { name := "line", type := .int, accessFlags := 2, slot := 8, constantValue := 0 }, { name := "column", type := .int, accessFlags := 2, slot := 9, constantValue := 0 }, { name := "lineEnded", type := .boolean, accessFlags := 2, slot := 10, constantValue := 0 }]
  methods := #[k2m0]
  instanceTypes := #[(.object "java/io/InputStream"), (.object "java/nio/ByteBuffer"), (.object "java/nio/CharBuffer"), (.object "java/lang/String"), (.object "java/nio/charset/CharsetDecoder"), .boolean, .boolean, .int, .int, .int, .boolean]
  staticTypes := #[.int, (.object "java/lang/String"), .int, .int]
  resolved := Array.replicate 279 none
  statics := none }

def pool3 : Array CpInfo := pool [(1, u "java/lang/Cloneable"), (0, .class_ 1), (0, u "java/lang/Object"), (0, .class_ 3)] 3

/-- java/lang/Cloneable -/
def k3 : Class := { plain "java/lang/Cloneable" (some 0) with
  accessFlags := 1537
  interfaces := #[]
  cf := some (fileOf pool3 2 #[] #[] 1537 4 #[] #[])
  fields := #[]
  methods := #[]
  instanceTypes := #[]
  staticTypes := #[]
  resolved := Array.replicate 8 none
  statics := none }

def pool4 : Array CpInfo := pool [(1, u "java/io/Serializable"), (0, .class_ 1), (0, u "java/lang/Object"), (0, .class_ 3)] 3

/-- java/io/Serializable -/
def k4 : Class := { plain "java/io/Serializable" (some 0) with
  accessFlags := 1537
  interfaces := #[]
  cf := some (fileOf pool4 2 #[] #[] 1537 4 #[] #[])
  fields := #[]
  methods := #[]
  instanceTypes := #[]
  staticTypes := #[]
  resolved := Array.replicate 8 none
  statics := none }

/-- the primitive byte -/
def k5 : Class := { plain "byte" none with kind := .primitive 'B', accessFlags := 0x411 }
/-- [B -/
def k6 : Class := { plain "[B" (some 0) with kind := .array 5 .byte, interfaces := #[3, 4], accessFlags := 1041 }

/-- the primitive int -/
def k7 : Class := { plain "int" none with kind := .primitive 'I', accessFlags := 0x411 }
/-- [I -/
def k8 : Class := { plain "[I" (some 0) with kind := .array 7 .int, interfaces := #[3, 4], accessFlags := 1041 }

def heap : Heap := #[]
def classes : Array Class := #[k0, k1, k2, k3, k4, k5, k6, k7, k8]
def interned : List (Array UInt16 × Addr) := []
def slotsUsed : Nat := 0
def theMethod : MethodId := ⟨1, 2⟩
def args0 : Array Value := #[.int 5, .int 3, .int 2]
def aboutOver (below : List Frame) : State where
  vm := { classes := classes, interned := interned.toArray }
  heap := heap
  slotsUsed := slotsUsed
  threads := #[{ frames := .invoking theMethod args0 :: below }]
def below0 : List Frame := [.native { method := ⟨0, 0⟩, args := #[] }]
def about1 : State := aboutOver below0
def p0 : Program := .bare "" "" ""
def e0 : Env := launch0.env 0 0 0
theorem w_frames : about1.frames = Frame.invoking theMethod args0 :: below0 := rfl
set_option maxRecDepth 65536 in
theorem w_args : argsFit about1.vm theMethod args0 = true := by decide +kernel
set_option maxRecDepth 65536 in
theorem w_heap : heapFits about1 = true := by decide +kernel
set_option maxRecDepth 65536 in
theorem w_runnable : about1.curStatus? = some .runnable := by decide +kernel
set_option maxRecDepth 65536 in
theorem w_alone : about1.alone = true := by decide +kernel
set_option maxRecDepth 65536 in
theorem w_named : about1.methodNamed? x = some theMethod := by decide +kernel
set_option maxRecDepth 65536 in
theorem w_hears : about1.hears theMethod below0 = true := by decide +kernel
set_option maxRecDepth 65536 in
theorem w_ripe : about1.ripe theMethod args0 below0 = true := by decide +kernel
theorem w_running : about1.status = .running := rfl
set_option maxRecDepth 65536 in
theorem w_room : about1.hasRoom e0.platform room_1 = true :=
  launch0.hasRoom_least _ room_1 (by decide +kernel) (by decide +kernel) (by decide +kernel) (by decide +kernel) (by decide +kernel) (by decide +kernel)
theorem allAtoms_all (ts : List Jvm.Cond) (a : Array Jvm.Value) (st : Jvm.State) : (allAtoms ts).before a st = ts.all (fun c => c.before a st) := by
  induction ts with
  | nil => rfl
  | cons c t ih =>
    show (Jvm.Cond.and c (allAtoms t)).before a st = _
    rw [Jvm.Cond.before_and, ih, List.all_cons]
def words1 : List Jvm.Cond := Jvm.Cond.code x code maxLocals ret :: tables_1
/-- a 'code' word, met by the world's own term for the bytes: nothing is compared byte by byte -/
theorem code_word {y : MethodName} {bytes : ByteArray} {mx : Nat} {rt : Option FieldType} {a : Array Value} {s : State} {m : MethodId} {meth : Method} {c : Code} (h1 : s.methodNamed? y = some m) (h2 : s.vm.method? m = some meth) (h3 : meth.code = some c) (h4 : c.code = bytes)
    (h5 : (c.maxLocals == mx && c.exceptionTable.isEmpty && decide (c.maxStack ≤ mostOperands) && decide (meth.sig.returnType = rt) && !meth.locks && decide (parseMethodDescriptor y.desc = some meth.sig)) = true) : (Jvm.Cond.code y bytes mx rt).before a s = true := by
  simp only [Bool.and_eq_true, beq_iff_eq, Bool.not_eq_true', decide_eq_true_eq] at h5
  obtain ⟨⟨⟨⟨⟨g1, g2⟩, g3⟩, g4⟩, g5⟩, g6⟩ := h5
  simp [Cond.before, Cond.holds, Cond.value, h1, h2, h3, h4, g1, g2, g3, g4, g5, g6]
def isCode : Jvm.Cond → Bool
  | .code _ _ _ _ => true
  | _ => false
theorem all_split {L : List Jvm.Cond} {P : Jvm.Cond → Bool} (h1 : L.all (fun c => isCode c || P c) = true) (h2 : ∀ c ∈ L.filter isCode, P c = true) : L.all P = true := by
  refine List.all_eq_true.mpr fun c hc => ?_
  have h := List.all_eq_true.mp h1 c hc
  rcases Bool.eq_false_or_eq_true (isCode c) with hi | hi
  · exact h2 c (List.mem_filter.mpr ⟨hc, hi⟩)
  · simpa [hi] using h
set_option maxRecDepth 65536 in
theorem w_c0 : (Jvm.Cond.code x code maxLocals ret).before args0 about1 = true := code_word (m := ⟨1, 2⟩) (meth := k1m2) (c := k1c2) (by decide +kernel) rfl rfl rfl (by decide +kernel)
set_option maxRecDepth 65536 in
theorem w_c1 : (Jvm.Cond.code ({ cls := "com/example/trampoline/trampoline/manifest/XmlChars", name := "isXmlChar", desc := "(I)Z" } : Jvm.MethodName) prog_30_method_8_code (1 : Nat) (Option.some Jvm.ClassFile.FieldType.boolean)).before args0 about1 = true := code_word (m := ⟨2, 0⟩) (meth := k2m0) (c := k2c0) (by decide +kernel) rfl rfl rfl (by decide +kernel)
set_option maxRecDepth 65536 in
theorem w_c2 : (Jvm.Cond.code ({ cls := "com/example/trampoline/trampoline/manifest/XmlCharsIsXmlCharPinLaw", name := "forbidden", desc := "(I)Z" } : Jvm.MethodName) method_2_code (1 : Nat) (Option.some Jvm.ClassFile.FieldType.boolean)).before args0 about1 = true := code_word (m := ⟨1, 1⟩) (meth := k1m1) (c := k1c1) (by decide +kernel) rfl rfl rfl (by decide +kernel)
def codes1 : List Jvm.Cond := [Jvm.Cond.code x code maxLocals ret, Jvm.Cond.code ({ cls := "com/example/trampoline/trampoline/manifest/XmlChars", name := "isXmlChar", desc := "(I)Z" } : Jvm.MethodName) prog_30_method_8_code (1 : Nat) (Option.some Jvm.ClassFile.FieldType.boolean), Jvm.Cond.code ({ cls := "com/example/trampoline/trampoline/manifest/XmlCharsIsXmlCharPinLaw", name := "forbidden", desc := "(I)Z" } : Jvm.MethodName) method_2_code (1 : Nat) (Option.some Jvm.ClassFile.FieldType.boolean)]
set_option maxRecDepth 65536 in
theorem codes_eq : words1.filter isCode = codes1 := rfl
theorem w_codes : ∀ c ∈ words1.filter isCode, c.before args0 about1 = true := by
  rw [codes_eq]
  intro c hc
  simp only [codes1, List.mem_cons, List.not_mem_nil, or_false] at hc
  rcases hc with rfl | rfl | rfl
  · exact w_c0
  · exact w_c1
  · exact w_c2
set_option maxRecDepth 65536 in
theorem w_t1 : (words1.take 24).all (fun c => isCode c || c.before args0 about1) = true := by decide +kernel
set_option maxRecDepth 65536 in
theorem w_t2 : (words1.drop 24).all (fun c => isCode c || c.before args0 about1) = true := by decide +kernel
theorem w_tables : (allAtoms (Jvm.Cond.code x code maxLocals ret :: tables_1)).before args0 about1 = true := by
  rw [allAtoms_all]
  show words1.all (fun c => c.before args0 about1) = true
  refine all_split ?_ w_codes
  rw [← List.take_append_drop 24 words1, List.all_append, w_t1, w_t2]
  rfl
set_option maxRecDepth 65536 in
theorem w_case : (Jvm.Cond.and given_1 narrow_1).before args0 about1 = true := by decide +kernel
theorem w_applies : (headSpec (Jvm.Cond.code x code maxLocals ret :: tables_1) room_1).applies x e0.platform about1 = true :=
  (Spec.applies_iff w_frames).mpr ⟨w_running, w_runnable, w_alone, w_named, w_hears, w_ripe, w_room, w_tables⟩
theorem atStart : AtStart classFile x code maxLocals ret World_1 tables_1 room_1 Calls_1 rest_1 Pre_1 launch0 p0 e0 about1 theMethod args0 below0 :=
  ⟨lists_1, trivial, launch0.admits_env _ _ _, launch0.least_env, fairChoices_fair.cas, fairChoices_fair.clock, w_frames, w_args, w_heap, w_applies, trivial, trivial, w_case⟩
end start1
theorem witness_1 : WitnessClaimed_1 := ⟨start1.p0, start1.e0, start1.about1, start1.theMethod, start1.args0, start1.below0, start1.atStart⟩
end Jvm.Pilot.@@N@@
