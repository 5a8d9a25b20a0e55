import JvmDerived
import JvmDerived.Pilot.@@N@@Statement
import JvmDerived.Pilot.@@N@@Code
set_option linter.unusedVariables false
set_option linter.unusedSimpArgs false
namespace Jvm.RoadKit
open Sem ClassFile Op Lib Jvm.Stand Jvm.Free Jvm.LawKit
section New
variable {p : Program} {l : Launch} {e : Env} {R : Room} {s : State} {m : MethodId} {args : Array Value} {below : List Frame} {meth : Method} {c : Code} {T : State} {locs : List Loc} {cells slots : Nat}
theorem retI (X : Stand p l e R s m args below meth c T locs cells slots) (hx : p.tables.exec = Jvm.exec) {pc : Nat} {Ls : Array Slot} {z : Int32} {rest : List Value} (hret : meth.sig.returnType = some .int) (hd : decode c.code pc = .ok (.ireturn, 1)) {fs : List Frame}
    (hl : ∀ (f : JFrame) (acts : List Action), f.method = m → f.locked = none → f.entered = [] → (doReturn e (T.setTop f) acts (some (.int z))).1 = T.setFrames fs) : Steps p.tables e below (T.setTop (mkF m pc Ls (.int z :: rest))) (T.setFrames fs) := by
  have hm' : T.vm.method? m = some meth := X.method'
  have hn : narrow .int (.int z) = .int z := rfl
  show Steps p.tables e below (T.setTop { method := m, pc := pc, locals := Ls, stack := _ :: rest, locked := none }) _
  jvm_step X.here [X.here.top, hx, hd, hm', hret, hn]
  first | (intro acts; rw [hl _ acts rfl rfl rfl]) | rw [hl _ _ rfl rfl rfl]
  exact Steps.refl _
end New
end Jvm.RoadKit

@@BLOCK:NumsL.lean.txt@@

namespace Jvm.Pilot.@@N@@
open Jvm Jvm.ClassFile Sem Op Lib Jvm.Free Jvm.Stand Jvm.LawKit Jvm.RoadKit Bundle Jvm.Pilot.@@N@@.Jvm.D
def own_at (L : List Int32) (j : Int32) : Int32 := L.getD j.toNatClampNeg 0
theorem own_getD (L : List Int32) (i : Nat) : (L.map Value.int).getD i (.int (0 : Int32)) = .int (L.getD i 0) := by
  induction L generalizing i with
  | nil => rfl
  | cons a t ih => cases i with
    | zero => rfl
    | succ i => exact ih i

theorem own_eqI {a b : Int32} : a = b ↔ a.toInt = b.toInt := Int32.toInt_inj.symm
theorem own_ltI {a b : Int32} : a < b ↔ a.toInt < b.toInt := Int32.lt_iff_toInt_lt
theorem own_bd (a : Int32) : -2147483648 ≤ a.toInt ∧ a.toInt < 2147483648 := ⟨Int32.le_toInt a, Int32.toInt_lt a⟩
theorem own_tdiv (x m : Int) (hm : 0 < m) : (0 ≤ x → x.tdiv m = x / m ∧ x.tmod m = x % m) ∧ (x < 0 → x.tdiv m = -((-x) / m) ∧ x.tmod m = -((-x) % m)) := by
  refine ⟨fun h => ⟨Int.tdiv_eq_ediv_of_nonneg h, Int.tmod_eq_emod_of_nonneg h⟩, fun h => ?_⟩
  have h1 : x = -(-x) := by omega
  have a1 : (-(-x)).tdiv m = -((-x).tdiv m) := Int.neg_tdiv ..
  have a2 : (-(-x)).tmod m = -((-x).tmod m) := Int.neg_tmod ..
  rw [← h1] at a1 a2
  rw [a1, a2, Int.tdiv_eq_ediv_of_nonneg (by omega), Int.tmod_eq_emod_of_nonneg (by omega)]
  exact ⟨rfl, rfl⟩
theorem own_dm (a k : Int32) (hk : 1 < k.toInt) : (0 ≤ a.toInt → (a / k).toInt = a.toInt / k.toInt ∧ (a % k).toInt = a.toInt % k.toInt) ∧ (a.toInt < 0 → (a / k).toInt = -((-a.toInt) / k.toInt) ∧ (a % k).toInt = -((-a.toInt) % k.toInt)) := by
  have e1 : (a / k).toInt = a.toInt.tdiv k.toInt := Jvm.Kit.i32_div (fun h => by omega)
  have e2 : (a % k).toInt = a.toInt.tmod k.toInt := Jvm.Kit.i32_rem a k
  rw [e1, e2]
  exact own_tdiv _ _ (by omega)

theorem d1_0 : decode prog_12_method_2_code 0 = .ok (.iload_n 0, 1) := by decide +kernel
theorem d1_1 : decode prog_12_method_2_code 1 = .ok (.ldc 9, 2) := by decide +kernel
theorem d1_3 : decode prog_12_method_2_code 3 = .ok (.idiv, 1) := by decide +kernel
theorem d1_4 : decode prog_12_method_2_code 4 = .ok (.istore_n 1, 1) := by decide +kernel
theorem d1_5 : decode prog_12_method_2_code 5 = .ok (.iload_n 0, 1) := by decide +kernel
theorem d1_6 : decode prog_12_method_2_code 6 = .ok (.ldc 9, 2) := by decide +kernel
theorem d1_8 : decode prog_12_method_2_code 8 = .ok (.irem, 1) := by decide +kernel
theorem d1_9 : decode prog_12_method_2_code 9 = .ok (.istore_n 2, 1) := by decide +kernel
theorem d1_10 : decode prog_12_method_2_code 10 = .ok (.iload_n 1, 1) := by decide +kernel
theorem d1_11 : decode prog_12_method_2_code 11 = .ok (.ifCond .ne 49, 3) := by decide +kernel
theorem d1_14 : decode prog_12_method_2_code 14 = .ok (.iload_n 0, 1) := by decide +kernel
theorem d1_15 : decode prog_12_method_2_code 15 = .ok (.sipush 160, 3) := by decide +kernel
theorem d1_18 : decode prog_12_method_2_code 18 = .ok (.if_icmp .lt 9, 3) := by decide +kernel
theorem d1_21 : decode prog_12_method_2_code 21 = .ok (.iload_n 0, 1) := by decide +kernel
theorem d1_22 : decode prog_12_method_2_code 22 = .ok (.ldc 10, 2) := by decide +kernel
theorem d1_24 : decode prog_12_method_2_code 24 = .ok (.if_icmp .le 27, 3) := by decide +kernel
theorem d1_27 : decode prog_12_method_2_code 27 = .ok (.iload_n 0, 1) := by decide +kernel
theorem d1_28 : decode prog_12_method_2_code 28 = .ok (.ldc 11, 2) := by decide +kernel
theorem d1_30 : decode prog_12_method_2_code 30 = .ok (.if_icmp .lt 9, 3) := by decide +kernel
theorem d1_33 : decode prog_12_method_2_code 33 = .ok (.iload_n 0, 1) := by decide +kernel
theorem d1_34 : decode prog_12_method_2_code 34 = .ok (.ldc 12, 2) := by decide +kernel
theorem d1_36 : decode prog_12_method_2_code 36 = .ok (.if_icmp .le 15, 3) := by decide +kernel
theorem d1_39 : decode prog_12_method_2_code 39 = .ok (.iload_n 0, 1) := by decide +kernel
theorem d1_40 : decode prog_12_method_2_code 40 = .ok (.ldc 13, 2) := by decide +kernel
theorem d1_42 : decode prog_12_method_2_code 42 = .ok (.if_icmp .lt 13, 3) := by decide +kernel
theorem d1_45 : decode prog_12_method_2_code 45 = .ok (.iload_n 0, 1) := by decide +kernel
theorem d1_46 : decode prog_12_method_2_code 46 = .ok (.ldc 14, 2) := by decide +kernel
theorem d1_48 : decode prog_12_method_2_code 48 = .ok (.if_icmp .gt 7, 3) := by decide +kernel
theorem d1_51 : decode prog_12_method_2_code 51 = .ok (.iconst 1, 1) := by decide +kernel
theorem d1_52 : decode prog_12_method_2_code 52 = .ok (.goto 4, 3) := by decide +kernel
theorem d1_55 : decode prog_12_method_2_code 55 = .ok (.iconst 0, 1) := by decide +kernel
theorem d1_56 : decode prog_12_method_2_code 56 = .ok (.istore_n 3, 1) := by decide +kernel
theorem d1_57 : decode prog_12_method_2_code 57 = .ok (.goto 54, 3) := by decide +kernel
theorem d1_60 : decode prog_12_method_2_code 60 = .ok (.iload_n 1, 1) := by decide +kernel
theorem d1_61 : decode prog_12_method_2_code 61 = .ok (.bipush 13, 2) := by decide +kernel
theorem d1_63 : decode prog_12_method_2_code 63 = .ok (.if_icmp .gt 18, 3) := by decide +kernel
theorem d1_66 : decode prog_12_method_2_code 66 = .ok (.iload_n 2, 1) := by decide +kernel
theorem d1_67 : decode prog_12_method_2_code 67 = .ok (.ldc 15, 2) := by decide +kernel
theorem d1_69 : decode prog_12_method_2_code 69 = .ok (.if_icmp .gt 7, 3) := by decide +kernel
theorem d1_72 : decode prog_12_method_2_code 72 = .ok (.iconst 1, 1) := by decide +kernel
theorem d1_73 : decode prog_12_method_2_code 73 = .ok (.goto 4, 3) := by decide +kernel
theorem d1_76 : decode prog_12_method_2_code 76 = .ok (.iconst 0, 1) := by decide +kernel
theorem d1_77 : decode prog_12_method_2_code 77 = .ok (.istore_n 3, 1) := by decide +kernel
theorem d1_78 : decode prog_12_method_2_code 78 = .ok (.goto 33, 3) := by decide +kernel
theorem d1_81 : decode prog_12_method_2_code 81 = .ok (.iload_n 1, 1) := by decide +kernel
theorem d1_82 : decode prog_12_method_2_code 82 = .ok (.bipush 14, 2) := by decide +kernel
theorem d1_84 : decode prog_12_method_2_code 84 = .ok (.if_icmp .ne 25, 3) := by decide +kernel
theorem d1_87 : decode prog_12_method_2_code 87 = .ok (.iload_n 2, 1) := by decide +kernel
theorem d1_88 : decode prog_12_method_2_code 88 = .ok (.sipush 4096, 3) := by decide +kernel
theorem d1_91 : decode prog_12_method_2_code 91 = .ok (.if_icmp .lt 13, 3) := by decide +kernel
theorem d1_94 : decode prog_12_method_2_code 94 = .ok (.iload_n 2, 1) := by decide +kernel
theorem d1_95 : decode prog_12_method_2_code 95 = .ok (.ldc 15, 2) := by decide +kernel
theorem d1_97 : decode prog_12_method_2_code 97 = .ok (.if_icmp .gt 7, 3) := by decide +kernel
theorem d1_100 : decode prog_12_method_2_code 100 = .ok (.iconst 1, 1) := by decide +kernel
theorem d1_101 : decode prog_12_method_2_code 101 = .ok (.goto 4, 3) := by decide +kernel
theorem d1_104 : decode prog_12_method_2_code 104 = .ok (.iconst 0, 1) := by decide +kernel
theorem d1_105 : decode prog_12_method_2_code 105 = .ok (.istore_n 3, 1) := by decide +kernel
theorem d1_106 : decode prog_12_method_2_code 106 = .ok (.goto 5, 3) := by decide +kernel
theorem d1_109 : decode prog_12_method_2_code 109 = .ok (.iconst 0, 1) := by decide +kernel
theorem d1_110 : decode prog_12_method_2_code 110 = .ok (.istore_n 3, 1) := by decide +kernel
theorem d1_111 : decode prog_12_method_2_code 111 = .ok (.iload_n 3, 1) := by decide +kernel
theorem d1_112 : decode prog_12_method_2_code 112 = .ok (.ireturn, 1) := by decide +kernel
theorem pn_1 : plainName "com/example/lofu/lofu/text/IriCharacters" = true := by first | (simp [plainName, overriddenIn]; done) | decide +kernel
theorem ef_1 (m : MethodId) (p1 : Int32) : entryFrame m #[(.int p1)] 4 = mkF m 0 #[.val (.int p1), .unset, .unset, .unset] [] := by first | (simp [entryFrame, mkF, argsToLocals, Value.category]; done) | rfl
def F1 (p1 : Int32) : Int32 := (if (p1 / (65536 : Int32)) = (0 : Int32) then (if p1 < (160 : Int32) then (if p1 < (63744 : Int32) then (if p1 < (65008 : Int32) then (0 : Int32) else (if (65519 : Int32) < p1 then (0 : Int32) else (1 : Int32))) else (if (64975 : Int32) < p1 then (if p1 < (65008 : Int32) then (0 : Int32) else (if (65519 : Int32) < p1 then (0 : Int32) else (1 : Int32))) else (1 : Int32))) else (if (55295 : Int32) < p1 then (if p1 < (63744 : Int32) then (if p1 < (65008 : Int32) then (0 : Int32) else (if (65519 : Int32) < p1 then (0 : Int32) else (1 : Int32))) else (if (64975 : Int32) < p1 then (if p1 < (65008 : Int32) then (0 : Int32) else (if (65519 : Int32) < p1 then (0 : Int32) else (1 : Int32))) else (1 : Int32))) else (1 : Int32))) else (if (13 : Int32) < (p1 / (65536 : Int32)) then (if (p1 / (65536 : Int32)) = (14 : Int32) then (if (p1 % (65536 : Int32)) < (4096 : Int32) then (0 : Int32) else (if (65533 : Int32) < (p1 % (65536 : Int32)) then (0 : Int32) else (1 : Int32))) else (0 : Int32)) else (if (65533 : Int32) < (p1 % (65536 : Int32)) then (0 : Int32) else (1 : Int32))))
def Q1 (Z : State) (p1 : Int32) (h0 : Heap) (n0 : Nat) (v : Option Value) (h : Heap) (L : List Loc) : Prop := v = some (.int (F1 p1)) ∧ Fr n0 L ∧ h = h0
set_option maxRecDepth 65536 in
set_option maxHeartbeats 40000000 in
theorem rm1 (l : Launch) (Z : State) (a0 : Array Value) (hw : ∀ d ∈ tables_1, d.before a0 Z = true) (ws : List Jvm.Cond) (p1 : Int32) (h0 : Heap) (n0 : Nat) (Z0 : n0 ≤ h0.size) :
    MetFree l (⟨"com/example/lofu/lofu/text/IriCharacters", "isUcsChar", "(I)Z"⟩ : MethodName) (head1 (Jvm.Cond.code (⟨"com/example/lofu/lofu/text/IriCharacters", "isUcsChar", "(I)Z"⟩ : MethodName) prog_12_method_2_code 4 (some .boolean) :: ws) ({ frames := 0, cells := 0, slots := 0, locals := 0 } : Room)) (fun a U => a = #[(.int p1)] ∧ Z.Warmed39 U.vm ∧ U.heap = h0) (fun _ _ _ _ _ => True) (fun _ U o U' => ∃ v L, o = .returned v ∧ Q1 Z p1 h0 n0 v U'.heap L ∧ FrameEnd U o U' L ({ frames := 0, cells := 0, slots := 0, locals := 0 } : Room).cells ({ frames := 0, cells := 0, slots := 0, locals := 0 } : Room).slots) := by
  refine MetFree.of_bodySF (plainFor_of_name pn_1) hisR ?_
  intro p e s m args below meth c s₁ Bd hml0 hP hK
  obtain ⟨rfl, hZ, hh⟩ := hP
  have hx := Bd.exec
  have hby := Bd.bytes
  have hml : c.maxLocals = 4 := hml0
  have hown : s.vm.findClass "com/example/lofu/lofu/text/IriCharacters" = some m.cls := findClass_of_methodNamed Bd.named
  have hnm := (name_of_methodNamed Bd.named Bd.method).1
  have X0 : Stand p l e ({ frames := 0, cells := 0, slots := 0, locals := 0 } : Room) s m #[(.int p1)] below meth c s₁ [] 0 0 := Stand.of_body Bd
  have e0 : s₁.heap = h0 := by rw [← hh, Bd.state]; rfl
  have N0 := Fr.nil n0
  have pre0 : ∀ t, Steps p.tables e below (s₁.setTop (mkF m 0 #[.val (.int p1), .unset, .unset, .unset] [])) t → Steps p.tables e below (s₁.setTop (entryFrame m #[(.int p1)] 4)) t := fun t k => castTop (ef_1 m p1) k
  have pre1 : ∀ t, Steps p.tables e below (s₁.setTop (mkF m 11 #[.val (.int p1), .val (.int (p1 / (65536 : Int32))), .val (.int (p1 % (65536 : Int32))), .unset] [(.int (p1 / (65536 : Int32)))])) t → Steps p.tables e below (s₁.setTop (entryFrame m #[(.int p1)] 4)) t := fun t kt => by
    refine pre0 t ?_
    show Steps p.tables e below (s₁.setTop (mkF m 0 #[.val (.int p1), .unset, .unset, .unset] [])) _
    refine XS.iloadN X0.here hx rfl (hb hby d1_0) rfl ?_
    show Steps p.tables e below (s₁.setTop (mkF m 1 #[.val (.int p1), .unset, .unset, .unset] [(.int p1)])) _
    refine X0.ldcInt hx hown (mvT hZ (hw _ (List.mem_of_getElem? (i := 5) rfl))) (g := (mkF m 1 #[.val (.int p1), .unset, .unset, .unset] [(.int p1)])) rfl (hb hby d1_1) _ ?_
    show Steps p.tables e below (s₁.setTop (mkF m 3 #[.val (.int p1), .unset, .unset, .unset] [(.int (65536 : Int32)), (.int p1)])) _
    refine XS.idiv X0.here hx rfl (hb hby d1_3) rfl (by decide) ?_
    show Steps p.tables e below (s₁.setTop (mkF m 4 #[.val (.int p1), .unset, .unset, .unset] [(.int (p1 / (65536 : Int32)))])) _
    refine XS.istoreN X0.here hx rfl (hb hby d1_4) rfl (l' := #[.val (.int p1), .val (.int (p1 / (65536 : Int32))), .unset, .unset]) rfl ?_
    show Steps p.tables e below (s₁.setTop (mkF m 5 #[.val (.int p1), .val (.int (p1 / (65536 : Int32))), .unset, .unset] [])) _
    refine XS.iloadN X0.here hx rfl (hb hby d1_5) rfl ?_
    show Steps p.tables e below (s₁.setTop (mkF m 6 #[.val (.int p1), .val (.int (p1 / (65536 : Int32))), .unset, .unset] [(.int p1)])) _
    refine X0.ldcInt hx hown (mvT hZ (hw _ (List.mem_of_getElem? (i := 5) rfl))) (g := (mkF m 6 #[.val (.int p1), .val (.int (p1 / (65536 : Int32))), .unset, .unset] [(.int p1)])) rfl (hb hby d1_6) _ ?_
    show Steps p.tables e below (s₁.setTop (mkF m 8 #[.val (.int p1), .val (.int (p1 / (65536 : Int32))), .unset, .unset] [(.int (65536 : Int32)), (.int p1)])) _
    refine iremM X0 hx rfl (hb hby d1_8) rfl (by decide) ?_
    show Steps p.tables e below (s₁.setTop (mkF m 9 #[.val (.int p1), .val (.int (p1 / (65536 : Int32))), .unset, .unset] [(.int (p1 % (65536 : Int32)))])) _
    refine XS.istoreN X0.here hx rfl (hb hby d1_9) rfl (l' := #[.val (.int p1), .val (.int (p1 / (65536 : Int32))), .val (.int (p1 % (65536 : Int32))), .unset]) rfl ?_
    show Steps p.tables e below (s₁.setTop (mkF m 10 #[.val (.int p1), .val (.int (p1 / (65536 : Int32))), .val (.int (p1 % (65536 : Int32))), .unset] [])) _
    refine XS.iloadN X0.here hx rfl (hb hby d1_10) rfl ?_
    exact kt
  by_cases hc2 : (p1 / (65536 : Int32)) = (0 : Int32)
  · have pre3 : ∀ t, Steps p.tables e below (s₁.setTop (mkF m 18 #[.val (.int p1), .val (.int (p1 / (65536 : Int32))), .val (.int (p1 % (65536 : Int32))), .unset] [(.int (160 : Int32)), (.int p1)])) t → Steps p.tables e below (s₁.setTop (entryFrame m #[(.int p1)] 4)) t := fun t kt => by
      refine pre1 t ?_
      show Steps p.tables e below (s₁.setTop (mkF m 11 #[.val (.int p1), .val (.int (p1 / (65536 : Int32))), .val (.int (p1 % (65536 : Int32))), .unset] [(.int (p1 / (65536 : Int32)))])) _
      refine XS.ifNo X0.here hx rfl (hb hby d1_11) rfl ((if0 _ _).trans (teq hc2).2) ?_
      show Steps p.tables e below (s₁.setTop (mkF m 14 #[.val (.int p1), .val (.int (p1 / (65536 : Int32))), .val (.int (p1 % (65536 : Int32))), .unset] [])) _
      refine XS.iloadN X0.here hx rfl (hb hby d1_14) rfl ?_
      show Steps p.tables e below (s₁.setTop (mkF m 15 #[.val (.int p1), .val (.int (p1 / (65536 : Int32))), .val (.int (p1 % (65536 : Int32))), .unset] [(.int p1)])) _
      refine XS.sipush X0.here hx rfl (hb hby d1_15) ?_
      exact kt
    by_cases hc4 : p1 < (160 : Int32)
    · have pre5 : ∀ t, Steps p.tables e below (s₁.setTop (mkF m 30 #[.val (.int p1), .val (.int (p1 / (65536 : Int32))), .val (.int (p1 % (65536 : Int32))), .unset] [(.int (63744 : Int32)), (.int p1)])) t → Steps p.tables e below (s₁.setTop (entryFrame m #[(.int p1)] 4)) t := fun t kt => by
        refine pre3 t ?_
        show Steps p.tables e below (s₁.setTop (mkF m 18 #[.val (.int p1), .val (.int (p1 / (65536 : Int32))), .val (.int (p1 % (65536 : Int32))), .unset] [(.int (160 : Int32)), (.int p1)])) _
        refine XS.icmpYes X0.here hx rfl (pc0 := 18) (pc' := 27) rfl (hb hby d1_18) rfl (tlt hc4).1 (by decide) (by decide) ?_
        show Steps p.tables e below (s₁.setTop (mkF m 27 #[.val (.int p1), .val (.int (p1 / (65536 : Int32))), .val (.int (p1 % (65536 : Int32))), .unset] [])) _
        refine XS.iloadN X0.here hx rfl (hb hby d1_27) rfl ?_
        show Steps p.tables e below (s₁.setTop (mkF m 28 #[.val (.int p1), .val (.int (p1 / (65536 : Int32))), .val (.int (p1 % (65536 : Int32))), .unset] [(.int p1)])) _
        refine X0.ldcInt hx hown (mvT hZ (hw _ (List.mem_of_getElem? (i := 6) rfl))) (g := (mkF m 28 #[.val (.int p1), .val (.int (p1 / (65536 : Int32))), .val (.int (p1 % (65536 : Int32))), .unset] [(.int p1)])) rfl (hb hby d1_28) _ ?_
        exact kt
      by_cases hc6 : p1 < (63744 : Int32)
      · have pre7 : ∀ t, Steps p.tables e below (s₁.setTop (mkF m 42 #[.val (.int p1), .val (.int (p1 / (65536 : Int32))), .val (.int (p1 % (65536 : Int32))), .unset] [(.int (65008 : Int32)), (.int p1)])) t → Steps p.tables e below (s₁.setTop (entryFrame m #[(.int p1)] 4)) t := fun t kt => by
          refine pre5 t ?_
          show Steps p.tables e below (s₁.setTop (mkF m 30 #[.val (.int p1), .val (.int (p1 / (65536 : Int32))), .val (.int (p1 % (65536 : Int32))), .unset] [(.int (63744 : Int32)), (.int p1)])) _
          refine XS.icmpYes X0.here hx rfl (pc0 := 30) (pc' := 39) rfl (hb hby d1_30) rfl (tlt hc6).1 (by decide) (by decide) ?_
          show Steps p.tables e below (s₁.setTop (mkF m 39 #[.val (.int p1), .val (.int (p1 / (65536 : Int32))), .val (.int (p1 % (65536 : Int32))), .unset] [])) _
          refine XS.iloadN X0.here hx rfl (hb hby d1_39) rfl ?_
          show Steps p.tables e below (s₁.setTop (mkF m 40 #[.val (.int p1), .val (.int (p1 / (65536 : Int32))), .val (.int (p1 % (65536 : Int32))), .unset] [(.int p1)])) _
          refine X0.ldcInt hx hown (mvT hZ (hw _ (List.mem_of_getElem? (i := 7) rfl))) (g := (mkF m 40 #[.val (.int p1), .val (.int (p1 / (65536 : Int32))), .val (.int (p1 % (65536 : Int32))), .unset] [(.int p1)])) rfl (hb hby d1_40) _ ?_
          exact kt
        by_cases hc8 : p1 < (65008 : Int32)
        · obtain ⟨fs, hr, hrun, hended, hW, hsame⟩ := X0.leave (v := some (.int (0 : Int32))) (fun h => by rw [Bd.returns] at h; cases h)
          refine ⟨_, _, pre7 _ ?_, hrun, hended, _, _, rfl, ?_, ⟨_, rfl⟩, hW, hsame.mono (by decide) (by decide)⟩
          · show Steps p.tables e below (s₁.setTop (mkF m 42 #[.val (.int p1), .val (.int (p1 / (65536 : Int32))), .val (.int (p1 % (65536 : Int32))), .unset] [(.int (65008 : Int32)), (.int p1)])) _
            refine XS.icmpYes X0.here hx rfl (pc0 := 42) (pc' := 55) rfl (hb hby d1_42) rfl (tlt hc8).1 (by decide) (by decide) ?_
            show Steps p.tables e below (s₁.setTop (mkF m 55 #[.val (.int p1), .val (.int (p1 / (65536 : Int32))), .val (.int (p1 % (65536 : Int32))), .unset] [])) _
            refine XS.iconst X0.here hx rfl (hb hby d1_55) ?_
            show Steps p.tables e below (s₁.setTop (mkF m 56 #[.val (.int p1), .val (.int (p1 / (65536 : Int32))), .val (.int (p1 % (65536 : Int32))), .unset] [(.int (0 : Int32))])) _
            refine XS.istoreN X0.here hx rfl (hb hby d1_56) rfl (l' := #[.val (.int p1), .val (.int (p1 / (65536 : Int32))), .val (.int (p1 % (65536 : Int32))), .val (.int (0 : Int32))]) rfl ?_
            show Steps p.tables e below (s₁.setTop (mkF m 57 #[.val (.int p1), .val (.int (p1 / (65536 : Int32))), .val (.int (p1 % (65536 : Int32))), .val (.int (0 : Int32))] [])) _
            refine XS.goto X0.here hx rfl (pc0 := 57) (pc' := 111) rfl (hb hby d1_57) (by decide) (by decide) ?_
            show Steps p.tables e below (s₁.setTop (mkF m 111 #[.val (.int p1), .val (.int (p1 / (65536 : Int32))), .val (.int (p1 % (65536 : Int32))), .val (.int (0 : Int32))] [])) _
            refine XS.iloadN X0.here hx rfl (hb hby d1_111) rfl ?_
            show Steps p.tables e below (s₁.setTop (mkF m 112 #[.val (.int p1), .val (.int (p1 / (65536 : Int32))), .val (.int (p1 % (65536 : Int32))), .val (.int (0 : Int32))] [(.int (0 : Int32))])) _
            exact retN X0 hx (t := .boolean) Bd.returns (by simp) (hb hby d1_112) hr
          · show Q1 Z p1 h0 n0 _ s₁.heap _
            rw [e0]
            refine ⟨?_, N0, rfl⟩
            show (some (.int (0 : Int32)) : Option Value) = some (.int (F1 p1))
            rw [F1, if_pos hc2, if_pos hc4, if_pos hc6, if_pos hc8]
        · have pre9 : ∀ t, Steps p.tables e below (s₁.setTop (mkF m 48 #[.val (.int p1), .val (.int (p1 / (65536 : Int32))), .val (.int (p1 % (65536 : Int32))), .unset] [(.int (65519 : Int32)), (.int p1)])) t → Steps p.tables e below (s₁.setTop (entryFrame m #[(.int p1)] 4)) t := fun t kt => by
            refine pre7 t ?_
            show Steps p.tables e below (s₁.setTop (mkF m 42 #[.val (.int p1), .val (.int (p1 / (65536 : Int32))), .val (.int (p1 % (65536 : Int32))), .unset] [(.int (65008 : Int32)), (.int p1)])) _
            refine XS.icmpNo X0.here hx rfl (hb hby d1_42) rfl (flt hc8).1 ?_
            show Steps p.tables e below (s₁.setTop (mkF m 45 #[.val (.int p1), .val (.int (p1 / (65536 : Int32))), .val (.int (p1 % (65536 : Int32))), .unset] [])) _
            refine XS.iloadN X0.here hx rfl (hb hby d1_45) rfl ?_
            show Steps p.tables e below (s₁.setTop (mkF m 46 #[.val (.int p1), .val (.int (p1 / (65536 : Int32))), .val (.int (p1 % (65536 : Int32))), .unset] [(.int p1)])) _
            refine X0.ldcInt hx hown (mvT hZ (hw _ (List.mem_of_getElem? (i := 27) rfl))) (g := (mkF m 46 #[.val (.int p1), .val (.int (p1 / (65536 : Int32))), .val (.int (p1 % (65536 : Int32))), .unset] [(.int p1)])) rfl (hb hby d1_46) _ ?_
            exact kt
          by_cases hc10 : (65519 : Int32) < p1
          · obtain ⟨fs, hr, hrun, hended, hW, hsame⟩ := X0.leave (v := some (.int (0 : Int32))) (fun h => by rw [Bd.returns] at h; cases h)
            refine ⟨_, _, pre9 _ ?_, hrun, hended, _, _, rfl, ?_, ⟨_, rfl⟩, hW, hsame.mono (by decide) (by decide)⟩
            · show Steps p.tables e below (s₁.setTop (mkF m 48 #[.val (.int p1), .val (.int (p1 / (65536 : Int32))), .val (.int (p1 % (65536 : Int32))), .unset] [(.int (65519 : Int32)), (.int p1)])) _
              refine XS.icmpYes X0.here hx rfl (pc0 := 48) (pc' := 55) rfl (hb hby d1_48) rfl (tlt hc10).2.2.1 (by decide) (by decide) ?_
              show Steps p.tables e below (s₁.setTop (mkF m 55 #[.val (.int p1), .val (.int (p1 / (65536 : Int32))), .val (.int (p1 % (65536 : Int32))), .unset] [])) _
              refine XS.iconst X0.here hx rfl (hb hby d1_55) ?_
              show Steps p.tables e below (s₁.setTop (mkF m 56 #[.val (.int p1), .val (.int (p1 / (65536 : Int32))), .val (.int (p1 % (65536 : Int32))), .unset] [(.int (0 : Int32))])) _
              refine XS.istoreN X0.here hx rfl (hb hby d1_56) rfl (l' := #[.val (.int p1), .val (.int (p1 / (65536 : Int32))), .val (.int (p1 % (65536 : Int32))), .val (.int (0 : Int32))]) rfl ?_
              show Steps p.tables e below (s₁.setTop (mkF m 57 #[.val (.int p1), .val (.int (p1 / (65536 : Int32))), .val (.int (p1 % (65536 : Int32))), .val (.int (0 : Int32))] [])) _
              refine XS.goto X0.here hx rfl (pc0 := 57) (pc' := 111) rfl (hb hby d1_57) (by decide) (by decide) ?_
              show Steps p.tables e below (s₁.setTop (mkF m 111 #[.val (.int p1), .val (.int (p1 / (65536 : Int32))), .val (.int (p1 % (65536 : Int32))), .val (.int (0 : Int32))] [])) _
              refine XS.iloadN X0.here hx rfl (hb hby d1_111) rfl ?_
              show Steps p.tables e below (s₁.setTop (mkF m 112 #[.val (.int p1), .val (.int (p1 / (65536 : Int32))), .val (.int (p1 % (65536 : Int32))), .val (.int (0 : Int32))] [(.int (0 : Int32))])) _
              exact retN X0 hx (t := .boolean) Bd.returns (by simp) (hb hby d1_112) hr
            · show Q1 Z p1 h0 n0 _ s₁.heap _
              rw [e0]
              refine ⟨?_, N0, rfl⟩
              show (some (.int (0 : Int32)) : Option Value) = some (.int (F1 p1))
              rw [F1, if_pos hc2, if_pos hc4, if_pos hc6, if_neg hc8, if_pos hc10]
          · obtain ⟨fs, hr, hrun, hended, hW, hsame⟩ := X0.leave (v := some (.int (1 : Int32))) (fun h => by rw [Bd.returns] at h; cases h)
            refine ⟨_, _, pre9 _ ?_, hrun, hended, _, _, rfl, ?_, ⟨_, rfl⟩, hW, hsame.mono (by decide) (by decide)⟩
            · show Steps p.tables e below (s₁.setTop (mkF m 48 #[.val (.int p1), .val (.int (p1 / (65536 : Int32))), .val (.int (p1 % (65536 : Int32))), .unset] [(.int (65519 : Int32)), (.int p1)])) _
              refine XS.icmpNo X0.here hx rfl (hb hby d1_48) rfl (flt hc10).2.2.1 ?_
              show Steps p.tables e below (s₁.setTop (mkF m 51 #[.val (.int p1), .val (.int (p1 / (65536 : Int32))), .val (.int (p1 % (65536 : Int32))), .unset] [])) _
              refine XS.iconst X0.here hx rfl (hb hby d1_51) ?_
              show Steps p.tables e below (s₁.setTop (mkF m 52 #[.val (.int p1), .val (.int (p1 / (65536 : Int32))), .val (.int (p1 % (65536 : Int32))), .unset] [(.int (1 : Int32))])) _
              refine XS.goto X0.here hx rfl (pc0 := 52) (pc' := 56) rfl (hb hby d1_52) (by decide) (by decide) ?_
              show Steps p.tables e below (s₁.setTop (mkF m 56 #[.val (.int p1), .val (.int (p1 / (65536 : Int32))), .val (.int (p1 % (65536 : Int32))), .unset] [(.int (1 : Int32))])) _
              refine XS.istoreN X0.here hx rfl (hb hby d1_56) rfl (l' := #[.val (.int p1), .val (.int (p1 / (65536 : Int32))), .val (.int (p1 % (65536 : Int32))), .val (.int (1 : Int32))]) rfl ?_
              show Steps p.tables e below (s₁.setTop (mkF m 57 #[.val (.int p1), .val (.int (p1 / (65536 : Int32))), .val (.int (p1 % (65536 : Int32))), .val (.int (1 : Int32))] [])) _
              refine XS.goto X0.here hx rfl (pc0 := 57) (pc' := 111) rfl (hb hby d1_57) (by decide) (by decide) ?_
              show Steps p.tables e below (s₁.setTop (mkF m 111 #[.val (.int p1), .val (.int (p1 / (65536 : Int32))), .val (.int (p1 % (65536 : Int32))), .val (.int (1 : Int32))] [])) _
              refine XS.iloadN X0.here hx rfl (hb hby d1_111) rfl ?_
              show Steps p.tables e below (s₁.setTop (mkF m 112 #[.val (.int p1), .val (.int (p1 / (65536 : Int32))), .val (.int (p1 % (65536 : Int32))), .val (.int (1 : Int32))] [(.int (1 : Int32))])) _
              exact retN X0 hx (t := .boolean) Bd.returns (by simp) (hb hby d1_112) hr
            · show Q1 Z p1 h0 n0 _ s₁.heap _
              rw [e0]
              refine ⟨?_, N0, rfl⟩
              show (some (.int (1 : Int32)) : Option Value) = some (.int (F1 p1))
              rw [F1, if_pos hc2, if_pos hc4, if_pos hc6, if_neg hc8, if_neg hc10]
      · have pre11 : ∀ t, Steps p.tables e below (s₁.setTop (mkF m 36 #[.val (.int p1), .val (.int (p1 / (65536 : Int32))), .val (.int (p1 % (65536 : Int32))), .unset] [(.int (64975 : Int32)), (.int p1)])) t → Steps p.tables e below (s₁.setTop (entryFrame m #[(.int p1)] 4)) t := fun t kt => by
          refine pre5 t ?_
          show Steps p.tables e below (s₁.setTop (mkF m 30 #[.val (.int p1), .val (.int (p1 / (65536 : Int32))), .val (.int (p1 % (65536 : Int32))), .unset] [(.int (63744 : Int32)), (.int p1)])) _
          refine XS.icmpNo X0.here hx rfl (hb hby d1_30) rfl (flt hc6).1 ?_
          show Steps p.tables e below (s₁.setTop (mkF m 33 #[.val (.int p1), .val (.int (p1 / (65536 : Int32))), .val (.int (p1 % (65536 : Int32))), .unset] [])) _
          refine XS.iloadN X0.here hx rfl (hb hby d1_33) rfl ?_
          show Steps p.tables e below (s₁.setTop (mkF m 34 #[.val (.int p1), .val (.int (p1 / (65536 : Int32))), .val (.int (p1 % (65536 : Int32))), .unset] [(.int p1)])) _
          refine X0.ldcInt hx hown (mvT hZ (hw _ (List.mem_of_getElem? (i := 26) rfl))) (g := (mkF m 34 #[.val (.int p1), .val (.int (p1 / (65536 : Int32))), .val (.int (p1 % (65536 : Int32))), .unset] [(.int p1)])) rfl (hb hby d1_34) _ ?_
          exact kt
        by_cases hc12 : (64975 : Int32) < p1
        · have pre13 : ∀ t, Steps p.tables e below (s₁.setTop (mkF m 42 #[.val (.int p1), .val (.int (p1 / (65536 : Int32))), .val (.int (p1 % (65536 : Int32))), .unset] [(.int (65008 : Int32)), (.int p1)])) t → Steps p.tables e below (s₁.setTop (entryFrame m #[(.int p1)] 4)) t := fun t kt => by
            refine pre11 t ?_
            show Steps p.tables e below (s₁.setTop (mkF m 36 #[.val (.int p1), .val (.int (p1 / (65536 : Int32))), .val (.int (p1 % (65536 : Int32))), .unset] [(.int (64975 : Int32)), (.int p1)])) _
            refine XS.icmpNo X0.here hx rfl (hb hby d1_36) rfl (tlt hc12).2.2.2 ?_
            show Steps p.tables e below (s₁.setTop (mkF m 39 #[.val (.int p1), .val (.int (p1 / (65536 : Int32))), .val (.int (p1 % (65536 : Int32))), .unset] [])) _
            refine XS.iloadN X0.here hx rfl (hb hby d1_39) rfl ?_
            show Steps p.tables e below (s₁.setTop (mkF m 40 #[.val (.int p1), .val (.int (p1 / (65536 : Int32))), .val (.int (p1 % (65536 : Int32))), .unset] [(.int p1)])) _
            refine X0.ldcInt hx hown (mvT hZ (hw _ (List.mem_of_getElem? (i := 7) rfl))) (g := (mkF m 40 #[.val (.int p1), .val (.int (p1 / (65536 : Int32))), .val (.int (p1 % (65536 : Int32))), .unset] [(.int p1)])) rfl (hb hby d1_40) _ ?_
            exact kt
          by_cases hc14 : p1 < (65008 : Int32)
          · obtain ⟨fs, hr, hrun, hended, hW, hsame⟩ := X0.leave (v := some (.int (0 : Int32))) (fun h => by rw [Bd.returns] at h; cases h)
            refine ⟨_, _, pre13 _ ?_, hrun, hended, _, _, rfl, ?_, ⟨_, rfl⟩, hW, hsame.mono (by decide) (by decide)⟩
            · show Steps p.tables e below (s₁.setTop (mkF m 42 #[.val (.int p1), .val (.int (p1 / (65536 : Int32))), .val (.int (p1 % (65536 : Int32))), .unset] [(.int (65008 : Int32)), (.int p1)])) _
              refine XS.icmpYes X0.here hx rfl (pc0 := 42) (pc' := 55) rfl (hb hby d1_42) rfl (tlt hc14).1 (by decide) (by decide) ?_
              show Steps p.tables e below (s₁.setTop (mkF m 55 #[.val (.int p1), .val (.int (p1 / (65536 : Int32))), .val (.int (p1 % (65536 : Int32))), .unset] [])) _
              refine XS.iconst X0.here hx rfl (hb hby d1_55) ?_
              show Steps p.tables e below (s₁.setTop (mkF m 56 #[.val (.int p1), .val (.int (p1 / (65536 : Int32))), .val (.int (p1 % (65536 : Int32))), .unset] [(.int (0 : Int32))])) _
              refine XS.istoreN X0.here hx rfl (hb hby d1_56) rfl (l' := #[.val (.int p1), .val (.int (p1 / (65536 : Int32))), .val (.int (p1 % (65536 : Int32))), .val (.int (0 : Int32))]) rfl ?_
              show Steps p.tables e below (s₁.setTop (mkF m 57 #[.val (.int p1), .val (.int (p1 / (65536 : Int32))), .val (.int (p1 % (65536 : Int32))), .val (.int (0 : Int32))] [])) _
              refine XS.goto X0.here hx rfl (pc0 := 57) (pc' := 111) rfl (hb hby d1_57) (by decide) (by decide) ?_
              show Steps p.tables e below (s₁.setTop (mkF m 111 #[.val (.int p1), .val (.int (p1 / (65536 : Int32))), .val (.int (p1 % (65536 : Int32))), .val (.int (0 : Int32))] [])) _
              refine XS.iloadN X0.here hx rfl (hb hby d1_111) rfl ?_
              show Steps p.tables e below (s₁.setTop (mkF m 112 #[.val (.int p1), .val (.int (p1 / (65536 : Int32))), .val (.int (p1 % (65536 : Int32))), .val (.int (0 : Int32))] [(.int (0 : Int32))])) _
              exact retN X0 hx (t := .boolean) Bd.returns (by simp) (hb hby d1_112) hr
            · show Q1 Z p1 h0 n0 _ s₁.heap _
              rw [e0]
              refine ⟨?_, N0, rfl⟩
              show (some (.int (0 : Int32)) : Option Value) = some (.int (F1 p1))
              rw [F1, if_pos hc2, if_pos hc4, if_neg hc6, if_pos hc12, if_pos hc14]
          · have pre15 : ∀ t, Steps p.tables e below (s₁.setTop (mkF m 48 #[.val (.int p1), .val (.int (p1 / (65536 : Int32))), .val (.int (p1 % (65536 : Int32))), .unset] [(.int (65519 : Int32)), (.int p1)])) t → Steps p.tables e below (s₁.setTop (entryFrame m #[(.int p1)] 4)) t := fun t kt => by
              refine pre13 t ?_
              show Steps p.tables e below (s₁.setTop (mkF m 42 #[.val (.int p1), .val (.int (p1 / (65536 : Int32))), .val (.int (p1 % (65536 : Int32))), .unset] [(.int (65008 : Int32)), (.int p1)])) _
              refine XS.icmpNo X0.here hx rfl (hb hby d1_42) rfl (flt hc14).1 ?_
              show Steps p.tables e below (s₁.setTop (mkF m 45 #[.val (.int p1), .val (.int (p1 / (65536 : Int32))), .val (.int (p1 % (65536 : Int32))), .unset] [])) _
              refine XS.iloadN X0.here hx rfl (hb hby d1_45) rfl ?_
              show Steps p.tables e below (s₁.setTop (mkF m 46 #[.val (.int p1), .val (.int (p1 / (65536 : Int32))), .val (.int (p1 % (65536 : Int32))), .unset] [(.int p1)])) _
              refine X0.ldcInt hx hown (mvT hZ (hw _ (List.mem_of_getElem? (i := 27) rfl))) (g := (mkF m 46 #[.val (.int p1), .val (.int (p1 / (65536 : Int32))), .val (.int (p1 % (65536 : Int32))), .unset] [(.int p1)])) rfl (hb hby d1_46) _ ?_
              exact kt
            by_cases hc16 : (65519 : Int32) < p1
            · obtain ⟨fs, hr, hrun, hended, hW, hsame⟩ := X0.leave (v := some (.int (0 : Int32))) (fun h => by rw [Bd.returns] at h; cases h)
              refine ⟨_, _, pre15 _ ?_, hrun, hended, _, _, rfl, ?_, ⟨_, rfl⟩, hW, hsame.mono (by decide) (by decide)⟩
              · show Steps p.tables e below (s₁.setTop (mkF m 48 #[.val (.int p1), .val (.int (p1 / (65536 : Int32))), .val (.int (p1 % (65536 : Int32))), .unset] [(.int (65519 : Int32)), (.int p1)])) _
                refine XS.icmpYes X0.here hx rfl (pc0 := 48) (pc' := 55) rfl (hb hby d1_48) rfl (tlt hc16).2.2.1 (by decide) (by decide) ?_
                show Steps p.tables e below (s₁.setTop (mkF m 55 #[.val (.int p1), .val (.int (p1 / (65536 : Int32))), .val (.int (p1 % (65536 : Int32))), .unset] [])) _
                refine XS.iconst X0.here hx rfl (hb hby d1_55) ?_
                show Steps p.tables e below (s₁.setTop (mkF m 56 #[.val (.int p1), .val (.int (p1 / (65536 : Int32))), .val (.int (p1 % (65536 : Int32))), .unset] [(.int (0 : Int32))])) _
                refine XS.istoreN X0.here hx rfl (hb hby d1_56) rfl (l' := #[.val (.int p1), .val (.int (p1 / (65536 : Int32))), .val (.int (p1 % (65536 : Int32))), .val (.int (0 : Int32))]) rfl ?_
                show Steps p.tables e below (s₁.setTop (mkF m 57 #[.val (.int p1), .val (.int (p1 / (65536 : Int32))), .val (.int (p1 % (65536 : Int32))), .val (.int (0 : Int32))] [])) _
                refine XS.goto X0.here hx rfl (pc0 := 57) (pc' := 111) rfl (hb hby d1_57) (by decide) (by decide) ?_
                show Steps p.tables e below (s₁.setTop (mkF m 111 #[.val (.int p1), .val (.int (p1 / (65536 : Int32))), .val (.int (p1 % (65536 : Int32))), .val (.int (0 : Int32))] [])) _
                refine XS.iloadN X0.here hx rfl (hb hby d1_111) rfl ?_
                show Steps p.tables e below (s₁.setTop (mkF m 112 #[.val (.int p1), .val (.int (p1 / (65536 : Int32))), .val (.int (p1 % (65536 : Int32))), .val (.int (0 : Int32))] [(.int (0 : Int32))])) _
                exact retN X0 hx (t := .boolean) Bd.returns (by simp) (hb hby d1_112) hr
              · show Q1 Z p1 h0 n0 _ s₁.heap _
                rw [e0]
                refine ⟨?_, N0, rfl⟩
                show (some (.int (0 : Int32)) : Option Value) = some (.int (F1 p1))
                rw [F1, if_pos hc2, if_pos hc4, if_neg hc6, if_pos hc12, if_neg hc14, if_pos hc16]
            · obtain ⟨fs, hr, hrun, hended, hW, hsame⟩ := X0.leave (v := some (.int (1 : Int32))) (fun h => by rw [Bd.returns] at h; cases h)
              refine ⟨_, _, pre15 _ ?_, hrun, hended, _, _, rfl, ?_, ⟨_, rfl⟩, hW, hsame.mono (by decide) (by decide)⟩
              · show Steps p.tables e below (s₁.setTop (mkF m 48 #[.val (.int p1), .val (.int (p1 / (65536 : Int32))), .val (.int (p1 % (65536 : Int32))), .unset] [(.int (65519 : Int32)), (.int p1)])) _
                refine XS.icmpNo X0.here hx rfl (hb hby d1_48) rfl (flt hc16).2.2.1 ?_
                show Steps p.tables e below (s₁.setTop (mkF m 51 #[.val (.int p1), .val (.int (p1 / (65536 : Int32))), .val (.int (p1 % (65536 : Int32))), .unset] [])) _
                refine XS.iconst X0.here hx rfl (hb hby d1_51) ?_
                show Steps p.tables e below (s₁.setTop (mkF m 52 #[.val (.int p1), .val (.int (p1 / (65536 : Int32))), .val (.int (p1 % (65536 : Int32))), .unset] [(.int (1 : Int32))])) _
                refine XS.goto X0.here hx rfl (pc0 := 52) (pc' := 56) rfl (hb hby d1_52) (by decide) (by decide) ?_
                show Steps p.tables e below (s₁.setTop (mkF m 56 #[.val (.int p1), .val (.int (p1 / (65536 : Int32))), .val (.int (p1 % (65536 : Int32))), .unset] [(.int (1 : Int32))])) _
                refine XS.istoreN X0.here hx rfl (hb hby d1_56) rfl (l' := #[.val (.int p1), .val (.int (p1 / (65536 : Int32))), .val (.int (p1 % (65536 : Int32))), .val (.int (1 : Int32))]) rfl ?_
                show Steps p.tables e below (s₁.setTop (mkF m 57 #[.val (.int p1), .val (.int (p1 / (65536 : Int32))), .val (.int (p1 % (65536 : Int32))), .val (.int (1 : Int32))] [])) _
                refine XS.goto X0.here hx rfl (pc0 := 57) (pc' := 111) rfl (hb hby d1_57) (by decide) (by decide) ?_
                show Steps p.tables e below (s₁.setTop (mkF m 111 #[.val (.int p1), .val (.int (p1 / (65536 : Int32))), .val (.int (p1 % (65536 : Int32))), .val (.int (1 : Int32))] [])) _
                refine XS.iloadN X0.here hx rfl (hb hby d1_111) rfl ?_
                show Steps p.tables e below (s₁.setTop (mkF m 112 #[.val (.int p1), .val (.int (p1 / (65536 : Int32))), .val (.int (p1 % (65536 : Int32))), .val (.int (1 : Int32))] [(.int (1 : Int32))])) _
                exact retN X0 hx (t := .boolean) Bd.returns (by simp) (hb hby d1_112) hr
              · show Q1 Z p1 h0 n0 _ s₁.heap _
                rw [e0]
                refine ⟨?_, N0, rfl⟩
                show (some (.int (1 : Int32)) : Option Value) = some (.int (F1 p1))
                rw [F1, if_pos hc2, if_pos hc4, if_neg hc6, if_pos hc12, if_neg hc14, if_neg hc16]
        · obtain ⟨fs, hr, hrun, hended, hW, hsame⟩ := X0.leave (v := some (.int (1 : Int32))) (fun h => by rw [Bd.returns] at h; cases h)
          refine ⟨_, _, pre11 _ ?_, hrun, hended, _, _, rfl, ?_, ⟨_, rfl⟩, hW, hsame.mono (by decide) (by decide)⟩
          · show Steps p.tables e below (s₁.setTop (mkF m 36 #[.val (.int p1), .val (.int (p1 / (65536 : Int32))), .val (.int (p1 % (65536 : Int32))), .unset] [(.int (64975 : Int32)), (.int p1)])) _
            refine XS.icmpYes X0.here hx rfl (pc0 := 36) (pc' := 51) rfl (hb hby d1_36) rfl (flt hc12).2.2.2 (by decide) (by decide) ?_
            show Steps p.tables e below (s₁.setTop (mkF m 51 #[.val (.int p1), .val (.int (p1 / (65536 : Int32))), .val (.int (p1 % (65536 : Int32))), .unset] [])) _
            refine XS.iconst X0.here hx rfl (hb hby d1_51) ?_
            show Steps p.tables e below (s₁.setTop (mkF m 52 #[.val (.int p1), .val (.int (p1 / (65536 : Int32))), .val (.int (p1 % (65536 : Int32))), .unset] [(.int (1 : Int32))])) _
            refine XS.goto X0.here hx rfl (pc0 := 52) (pc' := 56) rfl (hb hby d1_52) (by decide) (by decide) ?_
            show Steps p.tables e below (s₁.setTop (mkF m 56 #[.val (.int p1), .val (.int (p1 / (65536 : Int32))), .val (.int (p1 % (65536 : Int32))), .unset] [(.int (1 : Int32))])) _
            refine XS.istoreN X0.here hx rfl (hb hby d1_56) rfl (l' := #[.val (.int p1), .val (.int (p1 / (65536 : Int32))), .val (.int (p1 % (65536 : Int32))), .val (.int (1 : Int32))]) rfl ?_
            show Steps p.tables e below (s₁.setTop (mkF m 57 #[.val (.int p1), .val (.int (p1 / (65536 : Int32))), .val (.int (p1 % (65536 : Int32))), .val (.int (1 : Int32))] [])) _
            refine XS.goto X0.here hx rfl (pc0 := 57) (pc' := 111) rfl (hb hby d1_57) (by decide) (by decide) ?_
            show Steps p.tables e below (s₁.setTop (mkF m 111 #[.val (.int p1), .val (.int (p1 / (65536 : Int32))), .val (.int (p1 % (65536 : Int32))), .val (.int (1 : Int32))] [])) _
            refine XS.iloadN X0.here hx rfl (hb hby d1_111) rfl ?_
            show Steps p.tables e below (s₁.setTop (mkF m 112 #[.val (.int p1), .val (.int (p1 / (65536 : Int32))), .val (.int (p1 % (65536 : Int32))), .val (.int (1 : Int32))] [(.int (1 : Int32))])) _
            exact retN X0 hx (t := .boolean) Bd.returns (by simp) (hb hby d1_112) hr
          · show Q1 Z p1 h0 n0 _ s₁.heap _
            rw [e0]
            refine ⟨?_, N0, rfl⟩
            show (some (.int (1 : Int32)) : Option Value) = some (.int (F1 p1))
            rw [F1, if_pos hc2, if_pos hc4, if_neg hc6, if_neg hc12]
    · have pre17 : ∀ t, Steps p.tables e below (s₁.setTop (mkF m 24 #[.val (.int p1), .val (.int (p1 / (65536 : Int32))), .val (.int (p1 % (65536 : Int32))), .unset] [(.int (55295 : Int32)), (.int p1)])) t → Steps p.tables e below (s₁.setTop (entryFrame m #[(.int p1)] 4)) t := fun t kt => by
        refine pre3 t ?_
        show Steps p.tables e below (s₁.setTop (mkF m 18 #[.val (.int p1), .val (.int (p1 / (65536 : Int32))), .val (.int (p1 % (65536 : Int32))), .unset] [(.int (160 : Int32)), (.int p1)])) _
        refine XS.icmpNo X0.here hx rfl (hb hby d1_18) rfl (flt hc4).1 ?_
        show Steps p.tables e below (s₁.setTop (mkF m 21 #[.val (.int p1), .val (.int (p1 / (65536 : Int32))), .val (.int (p1 % (65536 : Int32))), .unset] [])) _
        refine XS.iloadN X0.here hx rfl (hb hby d1_21) rfl ?_
        show Steps p.tables e below (s₁.setTop (mkF m 22 #[.val (.int p1), .val (.int (p1 / (65536 : Int32))), .val (.int (p1 % (65536 : Int32))), .unset] [(.int p1)])) _
        refine X0.ldcInt hx hown (mvT hZ (hw _ (List.mem_of_getElem? (i := 24) rfl))) (g := (mkF m 22 #[.val (.int p1), .val (.int (p1 / (65536 : Int32))), .val (.int (p1 % (65536 : Int32))), .unset] [(.int p1)])) rfl (hb hby d1_22) _ ?_
        exact kt
      by_cases hc18 : (55295 : Int32) < p1
      · have pre19 : ∀ t, Steps p.tables e below (s₁.setTop (mkF m 30 #[.val (.int p1), .val (.int (p1 / (65536 : Int32))), .val (.int (p1 % (65536 : Int32))), .unset] [(.int (63744 : Int32)), (.int p1)])) t → Steps p.tables e below (s₁.setTop (entryFrame m #[(.int p1)] 4)) t := fun t kt => by
          refine pre17 t ?_
          show Steps p.tables e below (s₁.setTop (mkF m 24 #[.val (.int p1), .val (.int (p1 / (65536 : Int32))), .val (.int (p1 % (65536 : Int32))), .unset] [(.int (55295 : Int32)), (.int p1)])) _
          refine XS.icmpNo X0.here hx rfl (hb hby d1_24) rfl (tlt hc18).2.2.2 ?_
          show Steps p.tables e below (s₁.setTop (mkF m 27 #[.val (.int p1), .val (.int (p1 / (65536 : Int32))), .val (.int (p1 % (65536 : Int32))), .unset] [])) _
          refine XS.iloadN X0.here hx rfl (hb hby d1_27) rfl ?_
          show Steps p.tables e below (s₁.setTop (mkF m 28 #[.val (.int p1), .val (.int (p1 / (65536 : Int32))), .val (.int (p1 % (65536 : Int32))), .unset] [(.int p1)])) _
          refine X0.ldcInt hx hown (mvT hZ (hw _ (List.mem_of_getElem? (i := 6) rfl))) (g := (mkF m 28 #[.val (.int p1), .val (.int (p1 / (65536 : Int32))), .val (.int (p1 % (65536 : Int32))), .unset] [(.int p1)])) rfl (hb hby d1_28) _ ?_
          exact kt
        by_cases hc20 : p1 < (63744 : Int32)
        · have pre21 : ∀ t, Steps p.tables e below (s₁.setTop (mkF m 42 #[.val (.int p1), .val (.int (p1 / (65536 : Int32))), .val (.int (p1 % (65536 : Int32))), .unset] [(.int (65008 : Int32)), (.int p1)])) t → Steps p.tables e below (s₁.setTop (entryFrame m #[(.int p1)] 4)) t := fun t kt => by
            refine pre19 t ?_
            show Steps p.tables e below (s₁.setTop (mkF m 30 #[.val (.int p1), .val (.int (p1 / (65536 : Int32))), .val (.int (p1 % (65536 : Int32))), .unset] [(.int (63744 : Int32)), (.int p1)])) _
            refine XS.icmpYes X0.here hx rfl (pc0 := 30) (pc' := 39) rfl (hb hby d1_30) rfl (tlt hc20).1 (by decide) (by decide) ?_
            show Steps p.tables e below (s₁.setTop (mkF m 39 #[.val (.int p1), .val (.int (p1 / (65536 : Int32))), .val (.int (p1 % (65536 : Int32))), .unset] [])) _
            refine XS.iloadN X0.here hx rfl (hb hby d1_39) rfl ?_
            show Steps p.tables e below (s₁.setTop (mkF m 40 #[.val (.int p1), .val (.int (p1 / (65536 : Int32))), .val (.int (p1 % (65536 : Int32))), .unset] [(.int p1)])) _
            refine X0.ldcInt hx hown (mvT hZ (hw _ (List.mem_of_getElem? (i := 7) rfl))) (g := (mkF m 40 #[.val (.int p1), .val (.int (p1 / (65536 : Int32))), .val (.int (p1 % (65536 : Int32))), .unset] [(.int p1)])) rfl (hb hby d1_40) _ ?_
            exact kt
          by_cases hc22 : p1 < (65008 : Int32)
          · obtain ⟨fs, hr, hrun, hended, hW, hsame⟩ := X0.leave (v := some (.int (0 : Int32))) (fun h => by rw [Bd.returns] at h; cases h)
            refine ⟨_, _, pre21 _ ?_, hrun, hended, _, _, rfl, ?_, ⟨_, rfl⟩, hW, hsame.mono (by decide) (by decide)⟩
            · show Steps p.tables e below (s₁.setTop (mkF m 42 #[.val (.int p1), .val (.int (p1 / (65536 : Int32))), .val (.int (p1 % (65536 : Int32))), .unset] [(.int (65008 : Int32)), (.int p1)])) _
              refine XS.icmpYes X0.here hx rfl (pc0 := 42) (pc' := 55) rfl (hb hby d1_42) rfl (tlt hc22).1 (by decide) (by decide) ?_
              show Steps p.tables e below (s₁.setTop (mkF m 55 #[.val (.int p1), .val (.int (p1 / (65536 : Int32))), .val (.int (p1 % (65536 : Int32))), .unset] [])) _
              refine XS.iconst X0.here hx rfl (hb hby d1_55) ?_
              show Steps p.tables e below (s₁.setTop (mkF m 56 #[.val (.int p1), .val (.int (p1 / (65536 : Int32))), .val (.int (p1 % (65536 : Int32))), .unset] [(.int (0 : Int32))])) _
              refine XS.istoreN X0.here hx rfl (hb hby d1_56) rfl (l' := #[.val (.int p1), .val (.int (p1 / (65536 : Int32))), .val (.int (p1 % (65536 : Int32))), .val (.int (0 : Int32))]) rfl ?_
              show Steps p.tables e below (s₁.setTop (mkF m 57 #[.val (.int p1), .val (.int (p1 / (65536 : Int32))), .val (.int (p1 % (65536 : Int32))), .val (.int (0 : Int32))] [])) _
              refine XS.goto X0.here hx rfl (pc0 := 57) (pc' := 111) rfl (hb hby d1_57) (by decide) (by decide) ?_
              show Steps p.tables e below (s₁.setTop (mkF m 111 #[.val (.int p1), .val (.int (p1 / (65536 : Int32))), .val (.int (p1 % (65536 : Int32))), .val (.int (0 : Int32))] [])) _
              refine XS.iloadN X0.here hx rfl (hb hby d1_111) rfl ?_
              show Steps p.tables e below (s₁.setTop (mkF m 112 #[.val (.int p1), .val (.int (p1 / (65536 : Int32))), .val (.int (p1 % (65536 : Int32))), .val (.int (0 : Int32))] [(.int (0 : Int32))])) _
              exact retN X0 hx (t := .boolean) Bd.returns (by simp) (hb hby d1_112) hr
            · show Q1 Z p1 h0 n0 _ s₁.heap _
              rw [e0]
              refine ⟨?_, N0, rfl⟩
              show (some (.int (0 : Int32)) : Option Value) = some (.int (F1 p1))
              rw [F1, if_pos hc2, if_neg hc4, if_pos hc18, if_pos hc20, if_pos hc22]
          · have pre23 : ∀ t, Steps p.tables e below (s₁.setTop (mkF m 48 #[.val (.int p1), .val (.int (p1 / (65536 : Int32))), .val (.int (p1 % (65536 : Int32))), .unset] [(.int (65519 : Int32)), (.int p1)])) t → Steps p.tables e below (s₁.setTop (entryFrame m #[(.int p1)] 4)) t := fun t kt => by
              refine pre21 t ?_
              show Steps p.tables e below (s₁.setTop (mkF m 42 #[.val (.int p1), .val (.int (p1 / (65536 : Int32))), .val (.int (p1 % (65536 : Int32))), .unset] [(.int (65008 : Int32)), (.int p1)])) _
              refine XS.icmpNo X0.here hx rfl (hb hby d1_42) rfl (flt hc22).1 ?_
              show Steps p.tables e below (s₁.setTop (mkF m 45 #[.val (.int p1), .val (.int (p1 / (65536 : Int32))), .val (.int (p1 % (65536 : Int32))), .unset] [])) _
              refine XS.iloadN X0.here hx rfl (hb hby d1_45) rfl ?_
              show Steps p.tables e below (s₁.setTop (mkF m 46 #[.val (.int p1), .val (.int (p1 / (65536 : Int32))), .val (.int (p1 % (65536 : Int32))), .unset] [(.int p1)])) _
              refine X0.ldcInt hx hown (mvT hZ (hw _ (List.mem_of_getElem? (i := 27) rfl))) (g := (mkF m 46 #[.val (.int p1), .val (.int (p1 / (65536 : Int32))), .val (.int (p1 % (65536 : Int32))), .unset] [(.int p1)])) rfl (hb hby d1_46) _ ?_
              exact kt
            by_cases hc24 : (65519 : Int32) < p1
            · obtain ⟨fs, hr, hrun, hended, hW, hsame⟩ := X0.leave (v := some (.int (0 : Int32))) (fun h => by rw [Bd.returns] at h; cases h)
              refine ⟨_, _, pre23 _ ?_, hrun, hended, _, _, rfl, ?_, ⟨_, rfl⟩, hW, hsame.mono (by decide) (by decide)⟩
              · show Steps p.tables e below (s₁.setTop (mkF m 48 #[.val (.int p1), .val (.int (p1 / (65536 : Int32))), .val (.int (p1 % (65536 : Int32))), .unset] [(.int (65519 : Int32)), (.int p1)])) _
                refine XS.icmpYes X0.here hx rfl (pc0 := 48) (pc' := 55) rfl (hb hby d1_48) rfl (tlt hc24).2.2.1 (by decide) (by decide) ?_
                show Steps p.tables e below (s₁.setTop (mkF m 55 #[.val (.int p1), .val (.int (p1 / (65536 : Int32))), .val (.int (p1 % (65536 : Int32))), .unset] [])) _
                refine XS.iconst X0.here hx rfl (hb hby d1_55) ?_
                show Steps p.tables e below (s₁.setTop (mkF m 56 #[.val (.int p1), .val (.int (p1 / (65536 : Int32))), .val (.int (p1 % (65536 : Int32))), .unset] [(.int (0 : Int32))])) _
                refine XS.istoreN X0.here hx rfl (hb hby d1_56) rfl (l' := #[.val (.int p1), .val (.int (p1 / (65536 : Int32))), .val (.int (p1 % (65536 : Int32))), .val (.int (0 : Int32))]) rfl ?_
                show Steps p.tables e below (s₁.setTop (mkF m 57 #[.val (.int p1), .val (.int (p1 / (65536 : Int32))), .val (.int (p1 % (65536 : Int32))), .val (.int (0 : Int32))] [])) _
                refine XS.goto X0.here hx rfl (pc0 := 57) (pc' := 111) rfl (hb hby d1_57) (by decide) (by decide) ?_
                show Steps p.tables e below (s₁.setTop (mkF m 111 #[.val (.int p1), .val (.int (p1 / (65536 : Int32))), .val (.int (p1 % (65536 : Int32))), .val (.int (0 : Int32))] [])) _
                refine XS.iloadN X0.here hx rfl (hb hby d1_111) rfl ?_
                show Steps p.tables e below (s₁.setTop (mkF m 112 #[.val (.int p1), .val (.int (p1 / (65536 : Int32))), .val (.int (p1 % (65536 : Int32))), .val (.int (0 : Int32))] [(.int (0 : Int32))])) _
                exact retN X0 hx (t := .boolean) Bd.returns (by simp) (hb hby d1_112) hr
              · show Q1 Z p1 h0 n0 _ s₁.heap _
                rw [e0]
                refine ⟨?_, N0, rfl⟩
                show (some (.int (0 : Int32)) : Option Value) = some (.int (F1 p1))
                rw [F1, if_pos hc2, if_neg hc4, if_pos hc18, if_pos hc20, if_neg hc22, if_pos hc24]
            · obtain ⟨fs, hr, hrun, hended, hW, hsame⟩ := X0.leave (v := some (.int (1 : Int32))) (fun h => by rw [Bd.returns] at h; cases h)
              refine ⟨_, _, pre23 _ ?_, hrun, hended, _, _, rfl, ?_, ⟨_, rfl⟩, hW, hsame.mono (by decide) (by decide)⟩
              · show Steps p.tables e below (s₁.setTop (mkF m 48 #[.val (.int p1), .val (.int (p1 / (65536 : Int32))), .val (.int (p1 % (65536 : Int32))), .unset] [(.int (65519 : Int32)), (.int p1)])) _
                refine XS.icmpNo X0.here hx rfl (hb hby d1_48) rfl (flt hc24).2.2.1 ?_
                show Steps p.tables e below (s₁.setTop (mkF m 51 #[.val (.int p1), .val (.int (p1 / (65536 : Int32))), .val (.int (p1 % (65536 : Int32))), .unset] [])) _
                refine XS.iconst X0.here hx rfl (hb hby d1_51) ?_
                show Steps p.tables e below (s₁.setTop (mkF m 52 #[.val (.int p1), .val (.int (p1 / (65536 : Int32))), .val (.int (p1 % (65536 : Int32))), .unset] [(.int (1 : Int32))])) _
                refine XS.goto X0.here hx rfl (pc0 := 52) (pc' := 56) rfl (hb hby d1_52) (by decide) (by decide) ?_
                show Steps p.tables e below (s₁.setTop (mkF m 56 #[.val (.int p1), .val (.int (p1 / (65536 : Int32))), .val (.int (p1 % (65536 : Int32))), .unset] [(.int (1 : Int32))])) _
                refine XS.istoreN X0.here hx rfl (hb hby d1_56) rfl (l' := #[.val (.int p1), .val (.int (p1 / (65536 : Int32))), .val (.int (p1 % (65536 : Int32))), .val (.int (1 : Int32))]) rfl ?_
                show Steps p.tables e below (s₁.setTop (mkF m 57 #[.val (.int p1), .val (.int (p1 / (65536 : Int32))), .val (.int (p1 % (65536 : Int32))), .val (.int (1 : Int32))] [])) _
                refine XS.goto X0.here hx rfl (pc0 := 57) (pc' := 111) rfl (hb hby d1_57) (by decide) (by decide) ?_
                show Steps p.tables e below (s₁.setTop (mkF m 111 #[.val (.int p1), .val (.int (p1 / (65536 : Int32))), .val (.int (p1 % (65536 : Int32))), .val (.int (1 : Int32))] [])) _
                refine XS.iloadN X0.here hx rfl (hb hby d1_111) rfl ?_
                show Steps p.tables e below (s₁.setTop (mkF m 112 #[.val (.int p1), .val (.int (p1 / (65536 : Int32))), .val (.int (p1 % (65536 : Int32))), .val (.int (1 : Int32))] [(.int (1 : Int32))])) _
                exact retN X0 hx (t := .boolean) Bd.returns (by simp) (hb hby d1_112) hr
              · show Q1 Z p1 h0 n0 _ s₁.heap _
                rw [e0]
                refine ⟨?_, N0, rfl⟩
                show (some (.int (1 : Int32)) : Option Value) = some (.int (F1 p1))
                rw [F1, if_pos hc2, if_neg hc4, if_pos hc18, if_pos hc20, if_neg hc22, if_neg hc24]
        · have pre25 : ∀ t, Steps p.tables e below (s₁.setTop (mkF m 36 #[.val (.int p1), .val (.int (p1 / (65536 : Int32))), .val (.int (p1 % (65536 : Int32))), .unset] [(.int (64975 : Int32)), (.int p1)])) t → Steps p.tables e below (s₁.setTop (entryFrame m #[(.int p1)] 4)) t := fun t kt => by
            refine pre19 t ?_
            show Steps p.tables e below (s₁.setTop (mkF m 30 #[.val (.int p1), .val (.int (p1 / (65536 : Int32))), .val (.int (p1 % (65536 : Int32))), .unset] [(.int (63744 : Int32)), (.int p1)])) _
            refine XS.icmpNo X0.here hx rfl (hb hby d1_30) rfl (flt hc20).1 ?_
            show Steps p.tables e below (s₁.setTop (mkF m 33 #[.val (.int p1), .val (.int (p1 / (65536 : Int32))), .val (.int (p1 % (65536 : Int32))), .unset] [])) _
            refine XS.iloadN X0.here hx rfl (hb hby d1_33) rfl ?_
            show Steps p.tables e below (s₁.setTop (mkF m 34 #[.val (.int p1), .val (.int (p1 / (65536 : Int32))), .val (.int (p1 % (65536 : Int32))), .unset] [(.int p1)])) _
            refine X0.ldcInt hx hown (mvT hZ (hw _ (List.mem_of_getElem? (i := 26) rfl))) (g := (mkF m 34 #[.val (.int p1), .val (.int (p1 / (65536 : Int32))), .val (.int (p1 % (65536 : Int32))), .unset] [(.int p1)])) rfl (hb hby d1_34) _ ?_
            exact kt
          by_cases hc26 : (64975 : Int32) < p1
          · have pre27 : ∀ t, Steps p.tables e below (s₁.setTop (mkF m 42 #[.val (.int p1), .val (.int (p1 / (65536 : Int32))), .val (.int (p1 % (65536 : Int32))), .unset] [(.int (65008 : Int32)), (.int p1)])) t → Steps p.tables e below (s₁.setTop (entryFrame m #[(.int p1)] 4)) t := fun t kt => by
              refine pre25 t ?_
              show Steps p.tables e below (s₁.setTop (mkF m 36 #[.val (.int p1), .val (.int (p1 / (65536 : Int32))), .val (.int (p1 % (65536 : Int32))), .unset] [(.int (64975 : Int32)), (.int p1)])) _
              refine XS.icmpNo X0.here hx rfl (hb hby d1_36) rfl (tlt hc26).2.2.2 ?_
              show Steps p.tables e below (s₁.setTop (mkF m 39 #[.val (.int p1), .val (.int (p1 / (65536 : Int32))), .val (.int (p1 % (65536 : Int32))), .unset] [])) _
              refine XS.iloadN X0.here hx rfl (hb hby d1_39) rfl ?_
              show Steps p.tables e below (s₁.setTop (mkF m 40 #[.val (.int p1), .val (.int (p1 / (65536 : Int32))), .val (.int (p1 % (65536 : Int32))), .unset] [(.int p1)])) _
              refine X0.ldcInt hx hown (mvT hZ (hw _ (List.mem_of_getElem? (i := 7) rfl))) (g := (mkF m 40 #[.val (.int p1), .val (.int (p1 / (65536 : Int32))), .val (.int (p1 % (65536 : Int32))), .unset] [(.int p1)])) rfl (hb hby d1_40) _ ?_
              exact kt
            by_cases hc28 : p1 < (65008 : Int32)
            · obtain ⟨fs, hr, hrun, hended, hW, hsame⟩ := X0.leave (v := some (.int (0 : Int32))) (fun h => by rw [Bd.returns] at h; cases h)
              refine ⟨_, _, pre27 _ ?_, hrun, hended, _, _, rfl, ?_, ⟨_, rfl⟩, hW, hsame.mono (by decide) (by decide)⟩
              · show Steps p.tables e below (s₁.setTop (mkF m 42 #[.val (.int p1), .val (.int (p1 / (65536 : Int32))), .val (.int (p1 % (65536 : Int32))), .unset] [(.int (65008 : Int32)), (.int p1)])) _
                refine XS.icmpYes X0.here hx rfl (pc0 := 42) (pc' := 55) rfl (hb hby d1_42) rfl (tlt hc28).1 (by decide) (by decide) ?_
                show Steps p.tables e below (s₁.setTop (mkF m 55 #[.val (.int p1), .val (.int (p1 / (65536 : Int32))), .val (.int (p1 % (65536 : Int32))), .unset] [])) _
                refine XS.iconst X0.here hx rfl (hb hby d1_55) ?_
                show Steps p.tables e below (s₁.setTop (mkF m 56 #[.val (.int p1), .val (.int (p1 / (65536 : Int32))), .val (.int (p1 % (65536 : Int32))), .unset] [(.int (0 : Int32))])) _
                refine XS.istoreN X0.here hx rfl (hb hby d1_56) rfl (l' := #[.val (.int p1), .val (.int (p1 / (65536 : Int32))), .val (.int (p1 % (65536 : Int32))), .val (.int (0 : Int32))]) rfl ?_
                show Steps p.tables e below (s₁.setTop (mkF m 57 #[.val (.int p1), .val (.int (p1 / (65536 : Int32))), .val (.int (p1 % (65536 : Int32))), .val (.int (0 : Int32))] [])) _
                refine XS.goto X0.here hx rfl (pc0 := 57) (pc' := 111) rfl (hb hby d1_57) (by decide) (by decide) ?_
                show Steps p.tables e below (s₁.setTop (mkF m 111 #[.val (.int p1), .val (.int (p1 / (65536 : Int32))), .val (.int (p1 % (65536 : Int32))), .val (.int (0 : Int32))] [])) _
                refine XS.iloadN X0.here hx rfl (hb hby d1_111) rfl ?_
                show Steps p.tables e below (s₁.setTop (mkF m 112 #[.val (.int p1), .val (.int (p1 / (65536 : Int32))), .val (.int (p1 % (65536 : Int32))), .val (.int (0 : Int32))] [(.int (0 : Int32))])) _
                exact retN X0 hx (t := .boolean) Bd.returns (by simp) (hb hby d1_112) hr
              · show Q1 Z p1 h0 n0 _ s₁.heap _
                rw [e0]
                refine ⟨?_, N0, rfl⟩
                show (some (.int (0 : Int32)) : Option Value) = some (.int (F1 p1))
                rw [F1, if_pos hc2, if_neg hc4, if_pos hc18, if_neg hc20, if_pos hc26, if_pos hc28]
            · have pre29 : ∀ t, Steps p.tables e below (s₁.setTop (mkF m 48 #[.val (.int p1), .val (.int (p1 / (65536 : Int32))), .val (.int (p1 % (65536 : Int32))), .unset] [(.int (65519 : Int32)), (.int p1)])) t → Steps p.tables e below (s₁.setTop (entryFrame m #[(.int p1)] 4)) t := fun t kt => by
                refine pre27 t ?_
                show Steps p.tables e below (s₁.setTop (mkF m 42 #[.val (.int p1), .val (.int (p1 / (65536 : Int32))), .val (.int (p1 % (65536 : Int32))), .unset] [(.int (65008 : Int32)), (.int p1)])) _
                refine XS.icmpNo X0.here hx rfl (hb hby d1_42) rfl (flt hc28).1 ?_
                show Steps p.tables e below (s₁.setTop (mkF m 45 #[.val (.int p1), .val (.int (p1 / (65536 : Int32))), .val (.int (p1 % (65536 : Int32))), .unset] [])) _
                refine XS.iloadN X0.here hx rfl (hb hby d1_45) rfl ?_
                show Steps p.tables e below (s₁.setTop (mkF m 46 #[.val (.int p1), .val (.int (p1 / (65536 : Int32))), .val (.int (p1 % (65536 : Int32))), .unset] [(.int p1)])) _
                refine X0.ldcInt hx hown (mvT hZ (hw _ (List.mem_of_getElem? (i := 27) rfl))) (g := (mkF m 46 #[.val (.int p1), .val (.int (p1 / (65536 : Int32))), .val (.int (p1 % (65536 : Int32))), .unset] [(.int p1)])) rfl (hb hby d1_46) _ ?_
                exact kt
              by_cases hc30 : (65519 : Int32) < p1
              · obtain ⟨fs, hr, hrun, hended, hW, hsame⟩ := X0.leave (v := some (.int (0 : Int32))) (fun h => by rw [Bd.returns] at h; cases h)
                refine ⟨_, _, pre29 _ ?_, hrun, hended, _, _, rfl, ?_, ⟨_, rfl⟩, hW, hsame.mono (by decide) (by decide)⟩
                · show Steps p.tables e below (s₁.setTop (mkF m 48 #[.val (.int p1), .val (.int (p1 / (65536 : Int32))), .val (.int (p1 % (65536 : Int32))), .unset] [(.int (65519 : Int32)), (.int p1)])) _
                  refine XS.icmpYes X0.here hx rfl (pc0 := 48) (pc' := 55) rfl (hb hby d1_48) rfl (tlt hc30).2.2.1 (by decide) (by decide) ?_
                  show Steps p.tables e below (s₁.setTop (mkF m 55 #[.val (.int p1), .val (.int (p1 / (65536 : Int32))), .val (.int (p1 % (65536 : Int32))), .unset] [])) _
                  refine XS.iconst X0.here hx rfl (hb hby d1_55) ?_
                  show Steps p.tables e below (s₁.setTop (mkF m 56 #[.val (.int p1), .val (.int (p1 / (65536 : Int32))), .val (.int (p1 % (65536 : Int32))), .unset] [(.int (0 : Int32))])) _
                  refine XS.istoreN X0.here hx rfl (hb hby d1_56) rfl (l' := #[.val (.int p1), .val (.int (p1 / (65536 : Int32))), .val (.int (p1 % (65536 : Int32))), .val (.int (0 : Int32))]) rfl ?_
                  show Steps p.tables e below (s₁.setTop (mkF m 57 #[.val (.int p1), .val (.int (p1 / (65536 : Int32))), .val (.int (p1 % (65536 : Int32))), .val (.int (0 : Int32))] [])) _
                  refine XS.goto X0.here hx rfl (pc0 := 57) (pc' := 111) rfl (hb hby d1_57) (by decide) (by decide) ?_
                  show Steps p.tables e below (s₁.setTop (mkF m 111 #[.val (.int p1), .val (.int (p1 / (65536 : Int32))), .val (.int (p1 % (65536 : Int32))), .val (.int (0 : Int32))] [])) _
                  refine XS.iloadN X0.here hx rfl (hb hby d1_111) rfl ?_
                  show Steps p.tables e below (s₁.setTop (mkF m 112 #[.val (.int p1), .val (.int (p1 / (65536 : Int32))), .val (.int (p1 % (65536 : Int32))), .val (.int (0 : Int32))] [(.int (0 : Int32))])) _
                  exact retN X0 hx (t := .boolean) Bd.returns (by simp) (hb hby d1_112) hr
                · show Q1 Z p1 h0 n0 _ s₁.heap _
                  rw [e0]
                  refine ⟨?_, N0, rfl⟩
                  show (some (.int (0 : Int32)) : Option Value) = some (.int (F1 p1))
                  rw [F1, if_pos hc2, if_neg hc4, if_pos hc18, if_neg hc20, if_pos hc26, if_neg hc28, if_pos hc30]
              · obtain ⟨fs, hr, hrun, hended, hW, hsame⟩ := X0.leave (v := some (.int (1 : Int32))) (fun h => by rw [Bd.returns] at h; cases h)
                refine ⟨_, _, pre29 _ ?_, hrun, hended, _, _, rfl, ?_, ⟨_, rfl⟩, hW, hsame.mono (by decide) (by decide)⟩
                · show Steps p.tables e below (s₁.setTop (mkF m 48 #[.val (.int p1), .val (.int (p1 / (65536 : Int32))), .val (.int (p1 % (65536 : Int32))), .unset] [(.int (65519 : Int32)), (.int p1)])) _
                  refine XS.icmpNo X0.here hx rfl (hb hby d1_48) rfl (flt hc30).2.2.1 ?_
                  show Steps p.tables e below (s₁.setTop (mkF m 51 #[.val (.int p1), .val (.int (p1 / (65536 : Int32))), .val (.int (p1 % (65536 : Int32))), .unset] [])) _
                  refine XS.iconst X0.here hx rfl (hb hby d1_51) ?_
                  show Steps p.tables e below (s₁.setTop (mkF m 52 #[.val (.int p1), .val (.int (p1 / (65536 : Int32))), .val (.int (p1 % (65536 : Int32))), .unset] [(.int (1 : Int32))])) _
                  refine XS.goto X0.here hx rfl (pc0 := 52) (pc' := 56) rfl (hb hby d1_52) (by decide) (by decide) ?_
                  show Steps p.tables e below (s₁.setTop (mkF m 56 #[.val (.int p1), .val (.int (p1 / (65536 : Int32))), .val (.int (p1 % (65536 : Int32))), .unset] [(.int (1 : Int32))])) _
                  refine XS.istoreN X0.here hx rfl (hb hby d1_56) rfl (l' := #[.val (.int p1), .val (.int (p1 / (65536 : Int32))), .val (.int (p1 % (65536 : Int32))), .val (.int (1 : Int32))]) rfl ?_
                  show Steps p.tables e below (s₁.setTop (mkF m 57 #[.val (.int p1), .val (.int (p1 / (65536 : Int32))), .val (.int (p1 % (65536 : Int32))), .val (.int (1 : Int32))] [])) _
                  refine XS.goto X0.here hx rfl (pc0 := 57) (pc' := 111) rfl (hb hby d1_57) (by decide) (by decide) ?_
                  show Steps p.tables e below (s₁.setTop (mkF m 111 #[.val (.int p1), .val (.int (p1 / (65536 : Int32))), .val (.int (p1 % (65536 : Int32))), .val (.int (1 : Int32))] [])) _
                  refine XS.iloadN X0.here hx rfl (hb hby d1_111) rfl ?_
                  show Steps p.tables e below (s₁.setTop (mkF m 112 #[.val (.int p1), .val (.int (p1 / (65536 : Int32))), .val (.int (p1 % (65536 : Int32))), .val (.int (1 : Int32))] [(.int (1 : Int32))])) _
                  exact retN X0 hx (t := .boolean) Bd.returns (by simp) (hb hby d1_112) hr
                · show Q1 Z p1 h0 n0 _ s₁.heap _
                  rw [e0]
                  refine ⟨?_, N0, rfl⟩
                  show (some (.int (1 : Int32)) : Option Value) = some (.int (F1 p1))
                  rw [F1, if_pos hc2, if_neg hc4, if_pos hc18, if_neg hc20, if_pos hc26, if_neg hc28, if_neg hc30]
          · obtain ⟨fs, hr, hrun, hended, hW, hsame⟩ := X0.leave (v := some (.int (1 : Int32))) (fun h => by rw [Bd.returns] at h; cases h)
            refine ⟨_, _, pre25 _ ?_, hrun, hended, _, _, rfl, ?_, ⟨_, rfl⟩, hW, hsame.mono (by decide) (by decide)⟩
            · show Steps p.tables e below (s₁.setTop (mkF m 36 #[.val (.int p1), .val (.int (p1 / (65536 : Int32))), .val (.int (p1 % (65536 : Int32))), .unset] [(.int (64975 : Int32)), (.int p1)])) _
              refine XS.icmpYes X0.here hx rfl (pc0 := 36) (pc' := 51) rfl (hb hby d1_36) rfl (flt hc26).2.2.2 (by decide) (by decide) ?_
              show Steps p.tables e below (s₁.setTop (mkF m 51 #[.val (.int p1), .val (.int (p1 / (65536 : Int32))), .val (.int (p1 % (65536 : Int32))), .unset] [])) _
              refine XS.iconst X0.here hx rfl (hb hby d1_51) ?_
              show Steps p.tables e below (s₁.setTop (mkF m 52 #[.val (.int p1), .val (.int (p1 / (65536 : Int32))), .val (.int (p1 % (65536 : Int32))), .unset] [(.int (1 : Int32))])) _
              refine XS.goto X0.here hx rfl (pc0 := 52) (pc' := 56) rfl (hb hby d1_52) (by decide) (by decide) ?_
              show Steps p.tables e below (s₁.setTop (mkF m 56 #[.val (.int p1), .val (.int (p1 / (65536 : Int32))), .val (.int (p1 % (65536 : Int32))), .unset] [(.int (1 : Int32))])) _
              refine XS.istoreN X0.here hx rfl (hb hby d1_56) rfl (l' := #[.val (.int p1), .val (.int (p1 / (65536 : Int32))), .val (.int (p1 % (65536 : Int32))), .val (.int (1 : Int32))]) rfl ?_
              show Steps p.tables e below (s₁.setTop (mkF m 57 #[.val (.int p1), .val (.int (p1 / (65536 : Int32))), .val (.int (p1 % (65536 : Int32))), .val (.int (1 : Int32))] [])) _
              refine XS.goto X0.here hx rfl (pc0 := 57) (pc' := 111) rfl (hb hby d1_57) (by decide) (by decide) ?_
              show Steps p.tables e below (s₁.setTop (mkF m 111 #[.val (.int p1), .val (.int (p1 / (65536 : Int32))), .val (.int (p1 % (65536 : Int32))), .val (.int (1 : Int32))] [])) _
              refine XS.iloadN X0.here hx rfl (hb hby d1_111) rfl ?_
              show Steps p.tables e below (s₁.setTop (mkF m 112 #[.val (.int p1), .val (.int (p1 / (65536 : Int32))), .val (.int (p1 % (65536 : Int32))), .val (.int (1 : Int32))] [(.int (1 : Int32))])) _
              exact retN X0 hx (t := .boolean) Bd.returns (by simp) (hb hby d1_112) hr
            · show Q1 Z p1 h0 n0 _ s₁.heap _
              rw [e0]
              refine ⟨?_, N0, rfl⟩
              show (some (.int (1 : Int32)) : Option Value) = some (.int (F1 p1))
              rw [F1, if_pos hc2, if_neg hc4, if_pos hc18, if_neg hc20, if_neg hc26]
      · obtain ⟨fs, hr, hrun, hended, hW, hsame⟩ := X0.leave (v := some (.int (1 : Int32))) (fun h => by rw [Bd.returns] at h; cases h)
        refine ⟨_, _, pre17 _ ?_, hrun, hended, _, _, rfl, ?_, ⟨_, rfl⟩, hW, hsame.mono (by decide) (by decide)⟩
        · show Steps p.tables e below (s₁.setTop (mkF m 24 #[.val (.int p1), .val (.int (p1 / (65536 : Int32))), .val (.int (p1 % (65536 : Int32))), .unset] [(.int (55295 : Int32)), (.int p1)])) _
          refine XS.icmpYes X0.here hx rfl (pc0 := 24) (pc' := 51) rfl (hb hby d1_24) rfl (flt hc18).2.2.2 (by decide) (by decide) ?_
          show Steps p.tables e below (s₁.setTop (mkF m 51 #[.val (.int p1), .val (.int (p1 / (65536 : Int32))), .val (.int (p1 % (65536 : Int32))), .unset] [])) _
          refine XS.iconst X0.here hx rfl (hb hby d1_51) ?_
          show Steps p.tables e below (s₁.setTop (mkF m 52 #[.val (.int p1), .val (.int (p1 / (65536 : Int32))), .val (.int (p1 % (65536 : Int32))), .unset] [(.int (1 : Int32))])) _
          refine XS.goto X0.here hx rfl (pc0 := 52) (pc' := 56) rfl (hb hby d1_52) (by decide) (by decide) ?_
          show Steps p.tables e below (s₁.setTop (mkF m 56 #[.val (.int p1), .val (.int (p1 / (65536 : Int32))), .val (.int (p1 % (65536 : Int32))), .unset] [(.int (1 : Int32))])) _
          refine XS.istoreN X0.here hx rfl (hb hby d1_56) rfl (l' := #[.val (.int p1), .val (.int (p1 / (65536 : Int32))), .val (.int (p1 % (65536 : Int32))), .val (.int (1 : Int32))]) rfl ?_
          show Steps p.tables e below (s₁.setTop (mkF m 57 #[.val (.int p1), .val (.int (p1 / (65536 : Int32))), .val (.int (p1 % (65536 : Int32))), .val (.int (1 : Int32))] [])) _
          refine XS.goto X0.here hx rfl (pc0 := 57) (pc' := 111) rfl (hb hby d1_57) (by decide) (by decide) ?_
          show Steps p.tables e below (s₁.setTop (mkF m 111 #[.val (.int p1), .val (.int (p1 / (65536 : Int32))), .val (.int (p1 % (65536 : Int32))), .val (.int (1 : Int32))] [])) _
          refine XS.iloadN X0.here hx rfl (hb hby d1_111) rfl ?_
          show Steps p.tables e below (s₁.setTop (mkF m 112 #[.val (.int p1), .val (.int (p1 / (65536 : Int32))), .val (.int (p1 % (65536 : Int32))), .val (.int (1 : Int32))] [(.int (1 : Int32))])) _
          exact retN X0 hx (t := .boolean) Bd.returns (by simp) (hb hby d1_112) hr
        · show Q1 Z p1 h0 n0 _ s₁.heap _
          rw [e0]
          refine ⟨?_, N0, rfl⟩
          show (some (.int (1 : Int32)) : Option Value) = some (.int (F1 p1))
          rw [F1, if_pos hc2, if_neg hc4, if_neg hc18]
  · have pre31 : ∀ t, Steps p.tables e below (s₁.setTop (mkF m 63 #[.val (.int p1), .val (.int (p1 / (65536 : Int32))), .val (.int (p1 % (65536 : Int32))), .unset] [(.int (13 : Int32)), (.int (p1 / (65536 : Int32)))])) t → Steps p.tables e below (s₁.setTop (entryFrame m #[(.int p1)] 4)) t := fun t kt => by
      refine pre1 t ?_
      show Steps p.tables e below (s₁.setTop (mkF m 11 #[.val (.int p1), .val (.int (p1 / (65536 : Int32))), .val (.int (p1 % (65536 : Int32))), .unset] [(.int (p1 / (65536 : Int32)))])) _
      refine XS.ifYes X0.here hx rfl (pc0 := 11) (pc' := 60) rfl (hb hby d1_11) rfl ((if0 _ _).trans (feq hc2).2) (by decide) (by decide) ?_
      show Steps p.tables e below (s₁.setTop (mkF m 60 #[.val (.int p1), .val (.int (p1 / (65536 : Int32))), .val (.int (p1 % (65536 : Int32))), .unset] [])) _
      refine XS.iloadN X0.here hx rfl (hb hby d1_60) rfl ?_
      show Steps p.tables e below (s₁.setTop (mkF m 61 #[.val (.int p1), .val (.int (p1 / (65536 : Int32))), .val (.int (p1 % (65536 : Int32))), .unset] [(.int (p1 / (65536 : Int32)))])) _
      refine XS.bipush X0.here hx rfl (hb hby d1_61) ?_
      exact kt
    by_cases hc32 : (13 : Int32) < (p1 / (65536 : Int32))
    · have pre33 : ∀ t, Steps p.tables e below (s₁.setTop (mkF m 84 #[.val (.int p1), .val (.int (p1 / (65536 : Int32))), .val (.int (p1 % (65536 : Int32))), .unset] [(.int (14 : Int32)), (.int (p1 / (65536 : Int32)))])) t → Steps p.tables e below (s₁.setTop (entryFrame m #[(.int p1)] 4)) t := fun t kt => by
        refine pre31 t ?_
        show Steps p.tables e below (s₁.setTop (mkF m 63 #[.val (.int p1), .val (.int (p1 / (65536 : Int32))), .val (.int (p1 % (65536 : Int32))), .unset] [(.int (13 : Int32)), (.int (p1 / (65536 : Int32)))])) _
        refine XS.icmpYes X0.here hx rfl (pc0 := 63) (pc' := 81) rfl (hb hby d1_63) rfl (tlt hc32).2.2.1 (by decide) (by decide) ?_
        show Steps p.tables e below (s₁.setTop (mkF m 81 #[.val (.int p1), .val (.int (p1 / (65536 : Int32))), .val (.int (p1 % (65536 : Int32))), .unset] [])) _
        refine XS.iloadN X0.here hx rfl (hb hby d1_81) rfl ?_
        show Steps p.tables e below (s₁.setTop (mkF m 82 #[.val (.int p1), .val (.int (p1 / (65536 : Int32))), .val (.int (p1 % (65536 : Int32))), .unset] [(.int (p1 / (65536 : Int32)))])) _
        refine XS.bipush X0.here hx rfl (hb hby d1_82) ?_
        exact kt
      by_cases hc34 : (p1 / (65536 : Int32)) = (14 : Int32)
      · have pre35 : ∀ t, Steps p.tables e below (s₁.setTop (mkF m 91 #[.val (.int p1), .val (.int (p1 / (65536 : Int32))), .val (.int (p1 % (65536 : Int32))), .unset] [(.int (4096 : Int32)), (.int (p1 % (65536 : Int32)))])) t → Steps p.tables e below (s₁.setTop (entryFrame m #[(.int p1)] 4)) t := fun t kt => by
          refine pre33 t ?_
          show Steps p.tables e below (s₁.setTop (mkF m 84 #[.val (.int p1), .val (.int (p1 / (65536 : Int32))), .val (.int (p1 % (65536 : Int32))), .unset] [(.int (14 : Int32)), (.int (p1 / (65536 : Int32)))])) _
          refine XS.icmpNo X0.here hx rfl (hb hby d1_84) rfl (teq hc34).2 ?_
          show Steps p.tables e below (s₁.setTop (mkF m 87 #[.val (.int p1), .val (.int (p1 / (65536 : Int32))), .val (.int (p1 % (65536 : Int32))), .unset] [])) _
          refine XS.iloadN X0.here hx rfl (hb hby d1_87) rfl ?_
          show Steps p.tables e below (s₁.setTop (mkF m 88 #[.val (.int p1), .val (.int (p1 / (65536 : Int32))), .val (.int (p1 % (65536 : Int32))), .unset] [(.int (p1 % (65536 : Int32)))])) _
          refine XS.sipush X0.here hx rfl (hb hby d1_88) ?_
          exact kt
        by_cases hc36 : (p1 % (65536 : Int32)) < (4096 : Int32)
        · obtain ⟨fs, hr, hrun, hended, hW, hsame⟩ := X0.leave (v := some (.int (0 : Int32))) (fun h => by rw [Bd.returns] at h; cases h)
          refine ⟨_, _, pre35 _ ?_, hrun, hended, _, _, rfl, ?_, ⟨_, rfl⟩, hW, hsame.mono (by decide) (by decide)⟩
          · show Steps p.tables e below (s₁.setTop (mkF m 91 #[.val (.int p1), .val (.int (p1 / (65536 : Int32))), .val (.int (p1 % (65536 : Int32))), .unset] [(.int (4096 : Int32)), (.int (p1 % (65536 : Int32)))])) _
            refine XS.icmpYes X0.here hx rfl (pc0 := 91) (pc' := 104) rfl (hb hby d1_91) rfl (tlt hc36).1 (by decide) (by decide) ?_
            show Steps p.tables e below (s₁.setTop (mkF m 104 #[.val (.int p1), .val (.int (p1 / (65536 : Int32))), .val (.int (p1 % (65536 : Int32))), .unset] [])) _
            refine XS.iconst X0.here hx rfl (hb hby d1_104) ?_
            show Steps p.tables e below (s₁.setTop (mkF m 105 #[.val (.int p1), .val (.int (p1 / (65536 : Int32))), .val (.int (p1 % (65536 : Int32))), .unset] [(.int (0 : Int32))])) _
            refine XS.istoreN X0.here hx rfl (hb hby d1_105) rfl (l' := #[.val (.int p1), .val (.int (p1 / (65536 : Int32))), .val (.int (p1 % (65536 : Int32))), .val (.int (0 : Int32))]) rfl ?_
            show Steps p.tables e below (s₁.setTop (mkF m 106 #[.val (.int p1), .val (.int (p1 / (65536 : Int32))), .val (.int (p1 % (65536 : Int32))), .val (.int (0 : Int32))] [])) _
            refine XS.goto X0.here hx rfl (pc0 := 106) (pc' := 111) rfl (hb hby d1_106) (by decide) (by decide) ?_
            show Steps p.tables e below (s₁.setTop (mkF m 111 #[.val (.int p1), .val (.int (p1 / (65536 : Int32))), .val (.int (p1 % (65536 : Int32))), .val (.int (0 : Int32))] [])) _
            refine XS.iloadN X0.here hx rfl (hb hby d1_111) rfl ?_
            show Steps p.tables e below (s₁.setTop (mkF m 112 #[.val (.int p1), .val (.int (p1 / (65536 : Int32))), .val (.int (p1 % (65536 : Int32))), .val (.int (0 : Int32))] [(.int (0 : Int32))])) _
            exact retN X0 hx (t := .boolean) Bd.returns (by simp) (hb hby d1_112) hr
          · show Q1 Z p1 h0 n0 _ s₁.heap _
            rw [e0]
            refine ⟨?_, N0, rfl⟩
            show (some (.int (0 : Int32)) : Option Value) = some (.int (F1 p1))
            rw [F1, if_neg hc2, if_pos hc32, if_pos hc34, if_pos hc36]
        · have pre37 : ∀ t, Steps p.tables e below (s₁.setTop (mkF m 97 #[.val (.int p1), .val (.int (p1 / (65536 : Int32))), .val (.int (p1 % (65536 : Int32))), .unset] [(.int (65533 : Int32)), (.int (p1 % (65536 : Int32)))])) t → Steps p.tables e below (s₁.setTop (entryFrame m #[(.int p1)] 4)) t := fun t kt => by
            refine pre35 t ?_
            show Steps p.tables e below (s₁.setTop (mkF m 91 #[.val (.int p1), .val (.int (p1 / (65536 : Int32))), .val (.int (p1 % (65536 : Int32))), .unset] [(.int (4096 : Int32)), (.int (p1 % (65536 : Int32)))])) _
            refine XS.icmpNo X0.here hx rfl (hb hby d1_91) rfl (flt hc36).1 ?_
            show Steps p.tables e below (s₁.setTop (mkF m 94 #[.val (.int p1), .val (.int (p1 / (65536 : Int32))), .val (.int (p1 % (65536 : Int32))), .unset] [])) _
            refine XS.iloadN X0.here hx rfl (hb hby d1_94) rfl ?_
            show Steps p.tables e below (s₁.setTop (mkF m 95 #[.val (.int p1), .val (.int (p1 / (65536 : Int32))), .val (.int (p1 % (65536 : Int32))), .unset] [(.int (p1 % (65536 : Int32)))])) _
            refine X0.ldcInt hx hown (mvT hZ (hw _ (List.mem_of_getElem? (i := 17) rfl))) (g := (mkF m 95 #[.val (.int p1), .val (.int (p1 / (65536 : Int32))), .val (.int (p1 % (65536 : Int32))), .unset] [(.int (p1 % (65536 : Int32)))])) rfl (hb hby d1_95) _ ?_
            exact kt
          by_cases hc38 : (65533 : Int32) < (p1 % (65536 : Int32))
          · obtain ⟨fs, hr, hrun, hended, hW, hsame⟩ := X0.leave (v := some (.int (0 : Int32))) (fun h => by rw [Bd.returns] at h; cases h)
            refine ⟨_, _, pre37 _ ?_, hrun, hended, _, _, rfl, ?_, ⟨_, rfl⟩, hW, hsame.mono (by decide) (by decide)⟩
            · show Steps p.tables e below (s₁.setTop (mkF m 97 #[.val (.int p1), .val (.int (p1 / (65536 : Int32))), .val (.int (p1 % (65536 : Int32))), .unset] [(.int (65533 : Int32)), (.int (p1 % (65536 : Int32)))])) _
              refine XS.icmpYes X0.here hx rfl (pc0 := 97) (pc' := 104) rfl (hb hby d1_97) rfl (tlt hc38).2.2.1 (by decide) (by decide) ?_
              show Steps p.tables e below (s₁.setTop (mkF m 104 #[.val (.int p1), .val (.int (p1 / (65536 : Int32))), .val (.int (p1 % (65536 : Int32))), .unset] [])) _
              refine XS.iconst X0.here hx rfl (hb hby d1_104) ?_
              show Steps p.tables e below (s₁.setTop (mkF m 105 #[.val (.int p1), .val (.int (p1 / (65536 : Int32))), .val (.int (p1 % (65536 : Int32))), .unset] [(.int (0 : Int32))])) _
              refine XS.istoreN X0.here hx rfl (hb hby d1_105) rfl (l' := #[.val (.int p1), .val (.int (p1 / (65536 : Int32))), .val (.int (p1 % (65536 : Int32))), .val (.int (0 : Int32))]) rfl ?_
              show Steps p.tables e below (s₁.setTop (mkF m 106 #[.val (.int p1), .val (.int (p1 / (65536 : Int32))), .val (.int (p1 % (65536 : Int32))), .val (.int (0 : Int32))] [])) _
              refine XS.goto X0.here hx rfl (pc0 := 106) (pc' := 111) rfl (hb hby d1_106) (by decide) (by decide) ?_
              show Steps p.tables e below (s₁.setTop (mkF m 111 #[.val (.int p1), .val (.int (p1 / (65536 : Int32))), .val (.int (p1 % (65536 : Int32))), .val (.int (0 : Int32))] [])) _
              refine XS.iloadN X0.here hx rfl (hb hby d1_111) rfl ?_
              show Steps p.tables e below (s₁.setTop (mkF m 112 #[.val (.int p1), .val (.int (p1 / (65536 : Int32))), .val (.int (p1 % (65536 : Int32))), .val (.int (0 : Int32))] [(.int (0 : Int32))])) _
              exact retN X0 hx (t := .boolean) Bd.returns (by simp) (hb hby d1_112) hr
            · show Q1 Z p1 h0 n0 _ s₁.heap _
              rw [e0]
              refine ⟨?_, N0, rfl⟩
              show (some (.int (0 : Int32)) : Option Value) = some (.int (F1 p1))
              rw [F1, if_neg hc2, if_pos hc32, if_pos hc34, if_neg hc36, if_pos hc38]
          · obtain ⟨fs, hr, hrun, hended, hW, hsame⟩ := X0.leave (v := some (.int (1 : Int32))) (fun h => by rw [Bd.returns] at h; cases h)
            refine ⟨_, _, pre37 _ ?_, hrun, hended, _, _, rfl, ?_, ⟨_, rfl⟩, hW, hsame.mono (by decide) (by decide)⟩
            · show Steps p.tables e below (s₁.setTop (mkF m 97 #[.val (.int p1), .val (.int (p1 / (65536 : Int32))), .val (.int (p1 % (65536 : Int32))), .unset] [(.int (65533 : Int32)), (.int (p1 % (65536 : Int32)))])) _
              refine XS.icmpNo X0.here hx rfl (hb hby d1_97) rfl (flt hc38).2.2.1 ?_
              show Steps p.tables e below (s₁.setTop (mkF m 100 #[.val (.int p1), .val (.int (p1 / (65536 : Int32))), .val (.int (p1 % (65536 : Int32))), .unset] [])) _
              refine XS.iconst X0.here hx rfl (hb hby d1_100) ?_
              show Steps p.tables e below (s₁.setTop (mkF m 101 #[.val (.int p1), .val (.int (p1 / (65536 : Int32))), .val (.int (p1 % (65536 : Int32))), .unset] [(.int (1 : Int32))])) _
              refine XS.goto X0.here hx rfl (pc0 := 101) (pc' := 105) rfl (hb hby d1_101) (by decide) (by decide) ?_
              show Steps p.tables e below (s₁.setTop (mkF m 105 #[.val (.int p1), .val (.int (p1 / (65536 : Int32))), .val (.int (p1 % (65536 : Int32))), .unset] [(.int (1 : Int32))])) _
              refine XS.istoreN X0.here hx rfl (hb hby d1_105) rfl (l' := #[.val (.int p1), .val (.int (p1 / (65536 : Int32))), .val (.int (p1 % (65536 : Int32))), .val (.int (1 : Int32))]) rfl ?_
              show Steps p.tables e below (s₁.setTop (mkF m 106 #[.val (.int p1), .val (.int (p1 / (65536 : Int32))), .val (.int (p1 % (65536 : Int32))), .val (.int (1 : Int32))] [])) _
              refine XS.goto X0.here hx rfl (pc0 := 106) (pc' := 111) rfl (hb hby d1_106) (by decide) (by decide) ?_
              show Steps p.tables e below (s₁.setTop (mkF m 111 #[.val (.int p1), .val (.int (p1 / (65536 : Int32))), .val (.int (p1 % (65536 : Int32))), .val (.int (1 : Int32))] [])) _
              refine XS.iloadN X0.here hx rfl (hb hby d1_111) rfl ?_
              show Steps p.tables e below (s₁.setTop (mkF m 112 #[.val (.int p1), .val (.int (p1 / (65536 : Int32))), .val (.int (p1 % (65536 : Int32))), .val (.int (1 : Int32))] [(.int (1 : Int32))])) _
              exact retN X0 hx (t := .boolean) Bd.returns (by simp) (hb hby d1_112) hr
            · show Q1 Z p1 h0 n0 _ s₁.heap _
              rw [e0]
              refine ⟨?_, N0, rfl⟩
              show (some (.int (1 : Int32)) : Option Value) = some (.int (F1 p1))
              rw [F1, if_neg hc2, if_pos hc32, if_pos hc34, if_neg hc36, if_neg hc38]
      · obtain ⟨fs, hr, hrun, hended, hW, hsame⟩ := X0.leave (v := some (.int (0 : Int32))) (fun h => by rw [Bd.returns] at h; cases h)
        refine ⟨_, _, pre33 _ ?_, hrun, hended, _, _, rfl, ?_, ⟨_, rfl⟩, hW, hsame.mono (by decide) (by decide)⟩
        · show Steps p.tables e below (s₁.setTop (mkF m 84 #[.val (.int p1), .val (.int (p1 / (65536 : Int32))), .val (.int (p1 % (65536 : Int32))), .unset] [(.int (14 : Int32)), (.int (p1 / (65536 : Int32)))])) _
          refine XS.icmpYes X0.here hx rfl (pc0 := 84) (pc' := 109) rfl (hb hby d1_84) rfl (feq hc34).2 (by decide) (by decide) ?_
          show Steps p.tables e below (s₁.setTop (mkF m 109 #[.val (.int p1), .val (.int (p1 / (65536 : Int32))), .val (.int (p1 % (65536 : Int32))), .unset] [])) _
          refine XS.iconst X0.here hx rfl (hb hby d1_109) ?_
          show Steps p.tables e below (s₁.setTop (mkF m 110 #[.val (.int p1), .val (.int (p1 / (65536 : Int32))), .val (.int (p1 % (65536 : Int32))), .unset] [(.int (0 : Int32))])) _
          refine XS.istoreN X0.here hx rfl (hb hby d1_110) rfl (l' := #[.val (.int p1), .val (.int (p1 / (65536 : Int32))), .val (.int (p1 % (65536 : Int32))), .val (.int (0 : Int32))]) rfl ?_
          show Steps p.tables e below (s₁.setTop (mkF m 111 #[.val (.int p1), .val (.int (p1 / (65536 : Int32))), .val (.int (p1 % (65536 : Int32))), .val (.int (0 : Int32))] [])) _
          refine XS.iloadN X0.here hx rfl (hb hby d1_111) rfl ?_
          show Steps p.tables e below (s₁.setTop (mkF m 112 #[.val (.int p1), .val (.int (p1 / (65536 : Int32))), .val (.int (p1 % (65536 : Int32))), .val (.int (0 : Int32))] [(.int (0 : Int32))])) _
          exact retN X0 hx (t := .boolean) Bd.returns (by simp) (hb hby d1_112) hr
        · show Q1 Z p1 h0 n0 _ s₁.heap _
          rw [e0]
          refine ⟨?_, N0, rfl⟩
          show (some (.int (0 : Int32)) : Option Value) = some (.int (F1 p1))
          rw [F1, if_neg hc2, if_pos hc32, if_neg hc34]
    · have pre39 : ∀ t, Steps p.tables e below (s₁.setTop (mkF m 69 #[.val (.int p1), .val (.int (p1 / (65536 : Int32))), .val (.int (p1 % (65536 : Int32))), .unset] [(.int (65533 : Int32)), (.int (p1 % (65536 : Int32)))])) t → Steps p.tables e below (s₁.setTop (entryFrame m #[(.int p1)] 4)) t := fun t kt => by
        refine pre31 t ?_
        show Steps p.tables e below (s₁.setTop (mkF m 63 #[.val (.int p1), .val (.int (p1 / (65536 : Int32))), .val (.int (p1 % (65536 : Int32))), .unset] [(.int (13 : Int32)), (.int (p1 / (65536 : Int32)))])) _
        refine XS.icmpNo X0.here hx rfl (hb hby d1_63) rfl (flt hc32).2.2.1 ?_
        show Steps p.tables e below (s₁.setTop (mkF m 66 #[.val (.int p1), .val (.int (p1 / (65536 : Int32))), .val (.int (p1 % (65536 : Int32))), .unset] [])) _
        refine XS.iloadN X0.here hx rfl (hb hby d1_66) rfl ?_
        show Steps p.tables e below (s₁.setTop (mkF m 67 #[.val (.int p1), .val (.int (p1 / (65536 : Int32))), .val (.int (p1 % (65536 : Int32))), .unset] [(.int (p1 % (65536 : Int32)))])) _
        refine X0.ldcInt hx hown (mvT hZ (hw _ (List.mem_of_getElem? (i := 17) rfl))) (g := (mkF m 67 #[.val (.int p1), .val (.int (p1 / (65536 : Int32))), .val (.int (p1 % (65536 : Int32))), .unset] [(.int (p1 % (65536 : Int32)))])) rfl (hb hby d1_67) _ ?_
        exact kt
      by_cases hc40 : (65533 : Int32) < (p1 % (65536 : Int32))
      · obtain ⟨fs, hr, hrun, hended, hW, hsame⟩ := X0.leave (v := some (.int (0 : Int32))) (fun h => by rw [Bd.returns] at h; cases h)
        refine ⟨_, _, pre39 _ ?_, hrun, hended, _, _, rfl, ?_, ⟨_, rfl⟩, hW, hsame.mono (by decide) (by decide)⟩
        · show Steps p.tables e below (s₁.setTop (mkF m 69 #[.val (.int p1), .val (.int (p1 / (65536 : Int32))), .val (.int (p1 % (65536 : Int32))), .unset] [(.int (65533 : Int32)), (.int (p1 % (65536 : Int32)))])) _
          refine XS.icmpYes X0.here hx rfl (pc0 := 69) (pc' := 76) rfl (hb hby d1_69) rfl (tlt hc40).2.2.1 (by decide) (by decide) ?_
          show Steps p.tables e below (s₁.setTop (mkF m 76 #[.val (.int p1), .val (.int (p1 / (65536 : Int32))), .val (.int (p1 % (65536 : Int32))), .unset] [])) _
          refine XS.iconst X0.here hx rfl (hb hby d1_76) ?_
          show Steps p.tables e below (s₁.setTop (mkF m 77 #[.val (.int p1), .val (.int (p1 / (65536 : Int32))), .val (.int (p1 % (65536 : Int32))), .unset] [(.int (0 : Int32))])) _
          refine XS.istoreN X0.here hx rfl (hb hby d1_77) rfl (l' := #[.val (.int p1), .val (.int (p1 / (65536 : Int32))), .val (.int (p1 % (65536 : Int32))), .val (.int (0 : Int32))]) rfl ?_
          show Steps p.tables e below (s₁.setTop (mkF m 78 #[.val (.int p1), .val (.int (p1 / (65536 : Int32))), .val (.int (p1 % (65536 : Int32))), .val (.int (0 : Int32))] [])) _
          refine XS.goto X0.here hx rfl (pc0 := 78) (pc' := 111) rfl (hb hby d1_78) (by decide) (by decide) ?_
          show Steps p.tables e below (s₁.setTop (mkF m 111 #[.val (.int p1), .val (.int (p1 / (65536 : Int32))), .val (.int (p1 % (65536 : Int32))), .val (.int (0 : Int32))] [])) _
          refine XS.iloadN X0.here hx rfl (hb hby d1_111) rfl ?_
          show Steps p.tables e below (s₁.setTop (mkF m 112 #[.val (.int p1), .val (.int (p1 / (65536 : Int32))), .val (.int (p1 % (65536 : Int32))), .val (.int (0 : Int32))] [(.int (0 : Int32))])) _
          exact retN X0 hx (t := .boolean) Bd.returns (by simp) (hb hby d1_112) hr
        · show Q1 Z p1 h0 n0 _ s₁.heap _
          rw [e0]
          refine ⟨?_, N0, rfl⟩
          show (some (.int (0 : Int32)) : Option Value) = some (.int (F1 p1))
          rw [F1, if_neg hc2, if_neg hc32, if_pos hc40]
      · obtain ⟨fs, hr, hrun, hended, hW, hsame⟩ := X0.leave (v := some (.int (1 : Int32))) (fun h => by rw [Bd.returns] at h; cases h)
        refine ⟨_, _, pre39 _ ?_, hrun, hended, _, _, rfl, ?_, ⟨_, rfl⟩, hW, hsame.mono (by decide) (by decide)⟩
        · show Steps p.tables e below (s₁.setTop (mkF m 69 #[.val (.int p1), .val (.int (p1 / (65536 : Int32))), .val (.int (p1 % (65536 : Int32))), .unset] [(.int (65533 : Int32)), (.int (p1 % (65536 : Int32)))])) _
          refine XS.icmpNo X0.here hx rfl (hb hby d1_69) rfl (flt hc40).2.2.1 ?_
          show Steps p.tables e below (s₁.setTop (mkF m 72 #[.val (.int p1), .val (.int (p1 / (65536 : Int32))), .val (.int (p1 % (65536 : Int32))), .unset] [])) _
          refine XS.iconst X0.here hx rfl (hb hby d1_72) ?_
          show Steps p.tables e below (s₁.setTop (mkF m 73 #[.val (.int p1), .val (.int (p1 / (65536 : Int32))), .val (.int (p1 % (65536 : Int32))), .unset] [(.int (1 : Int32))])) _
          refine XS.goto X0.here hx rfl (pc0 := 73) (pc' := 77) rfl (hb hby d1_73) (by decide) (by decide) ?_
          show Steps p.tables e below (s₁.setTop (mkF m 77 #[.val (.int p1), .val (.int (p1 / (65536 : Int32))), .val (.int (p1 % (65536 : Int32))), .unset] [(.int (1 : Int32))])) _
          refine XS.istoreN X0.here hx rfl (hb hby d1_77) rfl (l' := #[.val (.int p1), .val (.int (p1 / (65536 : Int32))), .val (.int (p1 % (65536 : Int32))), .val (.int (1 : Int32))]) rfl ?_
          show Steps p.tables e below (s₁.setTop (mkF m 78 #[.val (.int p1), .val (.int (p1 / (65536 : Int32))), .val (.int (p1 % (65536 : Int32))), .val (.int (1 : Int32))] [])) _
          refine XS.goto X0.here hx rfl (pc0 := 78) (pc' := 111) rfl (hb hby d1_78) (by decide) (by decide) ?_
          show Steps p.tables e below (s₁.setTop (mkF m 111 #[.val (.int p1), .val (.int (p1 / (65536 : Int32))), .val (.int (p1 % (65536 : Int32))), .val (.int (1 : Int32))] [])) _
          refine XS.iloadN X0.here hx rfl (hb hby d1_111) rfl ?_
          show Steps p.tables e below (s₁.setTop (mkF m 112 #[.val (.int p1), .val (.int (p1 / (65536 : Int32))), .val (.int (p1 % (65536 : Int32))), .val (.int (1 : Int32))] [(.int (1 : Int32))])) _
          exact retN X0 hx (t := .boolean) Bd.returns (by simp) (hb hby d1_112) hr
        · show Q1 Z p1 h0 n0 _ s₁.heap _
          rw [e0]
          refine ⟨?_, N0, rfl⟩
          show (some (.int (1 : Int32)) : Option Value) = some (.int (F1 p1))
          rw [F1, if_neg hc2, if_neg hc32, if_neg hc40]
theorem d2_0 : decode method_3_code 0 = .ok (.iload_n 0, 1) := by decide +kernel
theorem d2_1 : decode method_3_code 1 = .ok (.sipush 160, 3) := by decide +kernel
theorem d2_4 : decode method_3_code 4 = .ok (.if_icmp .lt 11, 3) := by decide +kernel
theorem d2_7 : decode method_3_code 7 = .ok (.iload_n 0, 1) := by decide +kernel
theorem d2_8 : decode method_3_code 8 = .ok (.ldc 20, 2) := by decide +kernel
theorem d2_10 : decode method_3_code 10 = .ok (.if_icmp .gt 5, 3) := by decide +kernel
theorem d2_13 : decode method_3_code 13 = .ok (.iconst 1, 1) := by decide +kernel
theorem d2_14 : decode method_3_code 14 = .ok (.ireturn, 1) := by decide +kernel
theorem d2_15 : decode method_3_code 15 = .ok (.iload_n 0, 1) := by decide +kernel
theorem d2_16 : decode method_3_code 16 = .ok (.ldc 21, 2) := by decide +kernel
theorem d2_18 : decode method_3_code 18 = .ok (.if_icmp .lt 11, 3) := by decide +kernel
theorem d2_21 : decode method_3_code 21 = .ok (.iload_n 0, 1) := by decide +kernel
theorem d2_22 : decode method_3_code 22 = .ok (.ldc 22, 2) := by decide +kernel
theorem d2_24 : decode method_3_code 24 = .ok (.if_icmp .gt 5, 3) := by decide +kernel
theorem d2_27 : decode method_3_code 27 = .ok (.iconst 1, 1) := by decide +kernel
theorem d2_28 : decode method_3_code 28 = .ok (.ireturn, 1) := by decide +kernel
theorem d2_29 : decode method_3_code 29 = .ok (.iload_n 0, 1) := by decide +kernel
theorem d2_30 : decode method_3_code 30 = .ok (.ldc 23, 2) := by decide +kernel
theorem d2_32 : decode method_3_code 32 = .ok (.if_icmp .lt 11, 3) := by decide +kernel
theorem d2_35 : decode method_3_code 35 = .ok (.iload_n 0, 1) := by decide +kernel
theorem d2_36 : decode method_3_code 36 = .ok (.ldc 24, 2) := by decide +kernel
theorem d2_38 : decode method_3_code 38 = .ok (.if_icmp .gt 5, 3) := by decide +kernel
theorem d2_41 : decode method_3_code 41 = .ok (.iconst 1, 1) := by decide +kernel
theorem d2_42 : decode method_3_code 42 = .ok (.ireturn, 1) := by decide +kernel
theorem d2_43 : decode method_3_code 43 = .ok (.iload_n 0, 1) := by decide +kernel
theorem d2_44 : decode method_3_code 44 = .ok (.ldc 25, 2) := by decide +kernel
theorem d2_46 : decode method_3_code 46 = .ok (.if_icmp .lt 24, 3) := by decide +kernel
theorem d2_49 : decode method_3_code 49 = .ok (.iload_n 0, 1) := by decide +kernel
theorem d2_50 : decode method_3_code 50 = .ok (.ldc 26, 2) := by decide +kernel
theorem d2_52 : decode method_3_code 52 = .ok (.if_icmp .gt 18, 3) := by decide +kernel
theorem d2_55 : decode method_3_code 55 = .ok (.iload_n 0, 1) := by decide +kernel
theorem d2_56 : decode method_3_code 56 = .ok (.ldc 27, 2) := by decide +kernel
theorem d2_58 : decode method_3_code 58 = .ok (.iand, 1) := by decide +kernel
theorem d2_59 : decode method_3_code 59 = .ok (.ldc 28, 2) := by decide +kernel
theorem d2_61 : decode method_3_code 61 = .ok (.if_icmp .gt 7, 3) := by decide +kernel
theorem d2_64 : decode method_3_code 64 = .ok (.iconst 1, 1) := by decide +kernel
theorem d2_65 : decode method_3_code 65 = .ok (.goto 4, 3) := by decide +kernel
theorem d2_68 : decode method_3_code 68 = .ok (.iconst 0, 1) := by decide +kernel
theorem d2_69 : decode method_3_code 69 = .ok (.ireturn, 1) := by decide +kernel
theorem d2_70 : decode method_3_code 70 = .ok (.iload_n 0, 1) := by decide +kernel
theorem d2_71 : decode method_3_code 71 = .ok (.ldc 29, 2) := by decide +kernel
theorem d2_73 : decode method_3_code 73 = .ok (.if_icmp .lt 11, 3) := by decide +kernel
theorem d2_76 : decode method_3_code 76 = .ok (.iload_n 0, 1) := by decide +kernel
theorem d2_77 : decode method_3_code 77 = .ok (.ldc 30, 2) := by decide +kernel
theorem d2_79 : decode method_3_code 79 = .ok (.if_icmp .gt 5, 3) := by decide +kernel
theorem d2_82 : decode method_3_code 82 = .ok (.iconst 1, 1) := by decide +kernel
theorem d2_83 : decode method_3_code 83 = .ok (.ireturn, 1) := by decide +kernel
theorem d2_84 : decode method_3_code 84 = .ok (.iconst 0, 1) := by decide +kernel
theorem d2_85 : decode method_3_code 85 = .ok (.ireturn, 1) := by decide +kernel
theorem pn_2 : plainName "com/example/lofu/lofu/text/IriCharactersIsUcsCharPinLaw" = true := by first | (simp [plainName, overriddenIn]; done) | decide +kernel
theorem ef_2 (m : MethodId) (p1 : Int32) : entryFrame m #[(.int p1)] 1 = mkF m 0 #[.val (.int p1)] [] := by first | (simp [entryFrame, mkF, argsToLocals, Value.category]; done) | rfl
def F2 (p1 : Int32) : Int32 := (if p1 < (160 : Int32) then (if p1 < (63744 : Int32) then (if p1 < (65008 : Int32) then (if p1 < (65536 : Int32) then (if p1 < (921600 : Int32) then (0 : Int32) else (if (983037 : Int32) < p1 then (0 : Int32) else (1 : Int32))) else (if (917503 : Int32) < p1 then (if p1 < (921600 : Int32) then (0 : Int32) else (if (983037 : Int32) < p1 then (0 : Int32) else (1 : Int32))) else (if (65533 : Int32) < (p1 &&& (65535 : Int32)) then (0 : Int32) else (1 : Int32)))) else (if (65519 : Int32) < p1 then (if p1 < (65536 : Int32) then (if p1 < (921600 : Int32) then (0 : Int32) else (if (983037 : Int32) < p1 then (0 : Int32) else (1 : Int32))) else (if (917503 : Int32) < p1 then (if p1 < (921600 : Int32) then (0 : Int32) else (if (983037 : Int32) < p1 then (0 : Int32) else (1 : Int32))) else (if (65533 : Int32) < (p1 &&& (65535 : Int32)) then (0 : Int32) else (1 : Int32)))) else (1 : Int32))) else (if (64975 : Int32) < p1 then (if p1 < (65008 : Int32) then (if p1 < (65536 : Int32) then (if p1 < (921600 : Int32) then (0 : Int32) else (if (983037 : Int32) < p1 then (0 : Int32) else (1 : Int32))) else (if (917503 : Int32) < p1 then (if p1 < (921600 : Int32) then (0 : Int32) else (if (983037 : Int32) < p1 then (0 : Int32) else (1 : Int32))) else (if (65533 : Int32) < (p1 &&& (65535 : Int32)) then (0 : Int32) else (1 : Int32)))) else (if (65519 : Int32) < p1 then (if p1 < (65536 : Int32) then (if p1 < (921600 : Int32) then (0 : Int32) else (if (983037 : Int32) < p1 then (0 : Int32) else (1 : Int32))) else (if (917503 : Int32) < p1 then (if p1 < (921600 : Int32) then (0 : Int32) else (if (983037 : Int32) < p1 then (0 : Int32) else (1 : Int32))) else (if (65533 : Int32) < (p1 &&& (65535 : Int32)) then (0 : Int32) else (1 : Int32)))) else (1 : Int32))) else (1 : Int32))) else (if (55295 : Int32) < p1 then (if p1 < (63744 : Int32) then (if p1 < (65008 : Int32) then (if p1 < (65536 : Int32) then (if p1 < (921600 : Int32) then (0 : Int32) else (if (983037 : Int32) < p1 then (0 : Int32) else (1 : Int32))) else (if (917503 : Int32) < p1 then (if p1 < (921600 : Int32) then (0 : Int32) else (if (983037 : Int32) < p1 then (0 : Int32) else (1 : Int32))) else (if (65533 : Int32) < (p1 &&& (65535 : Int32)) then (0 : Int32) else (1 : Int32)))) else (if (65519 : Int32) < p1 then (if p1 < (65536 : Int32) then (if p1 < (921600 : Int32) then (0 : Int32) else (if (983037 : Int32) < p1 then (0 : Int32) else (1 : Int32))) else (if (917503 : Int32) < p1 then (if p1 < (921600 : Int32) then (0 : Int32) else (if (983037 : Int32) < p1 then (0 : Int32) else (1 : Int32))) else (if (65533 : Int32) < (p1 &&& (65535 : Int32)) then (0 : Int32) else (1 : Int32)))) else (1 : Int32))) else (if (64975 : Int32) < p1 then (if p1 < (65008 : Int32) then (if p1 < (65536 : Int32) then (if p1 < (921600 : Int32) then (0 : Int32) else (if (983037 : Int32) < p1 then (0 : Int32) else (1 : Int32))) else (if (917503 : Int32) < p1 then (if p1 < (921600 : Int32) then (0 : Int32) else (if (983037 : Int32) < p1 then (0 : Int32) else (1 : Int32))) else (if (65533 : Int32) < (p1 &&& (65535 : Int32)) then (0 : Int32) else (1 : Int32)))) else (if (65519 : Int32) < p1 then (if p1 < (65536 : Int32) then (if p1 < (921600 : Int32) then (0 : Int32) else (if (983037 : Int32) < p1 then (0 : Int32) else (1 : Int32))) else (if (917503 : Int32) < p1 then (if p1 < (921600 : Int32) then (0 : Int32) else (if (983037 : Int32) < p1 then (0 : Int32) else (1 : Int32))) else (if (65533 : Int32) < (p1 &&& (65535 : Int32)) then (0 : Int32) else (1 : Int32)))) else (1 : Int32))) else (1 : Int32))) else (1 : Int32)))
def Q2 (Z : State) (p1 : Int32) (h0 : Heap) (n0 : Nat) (v : Option Value) (h : Heap) (L : List Loc) : Prop := v = some (.int (F2 p1)) ∧ Fr n0 L ∧ h = h0
set_option maxRecDepth 65536 in
set_option maxHeartbeats 40000000 in
theorem rm2 (l : Launch) (Z : State) (a0 : Array Value) (hw : ∀ d ∈ tables_1, d.before a0 Z = true) (ws : List Jvm.Cond) (p1 : Int32) (h0 : Heap) (n0 : Nat) (Z0 : n0 ≤ h0.size) :
    MetFree l (⟨"com/example/lofu/lofu/text/IriCharactersIsUcsCharPinLaw", "expected", "(I)Z"⟩ : MethodName) (head1 (Jvm.Cond.code (⟨"com/example/lofu/lofu/text/IriCharactersIsUcsCharPinLaw", "expected", "(I)Z"⟩ : MethodName) method_3_code 1 (some .boolean) :: ws) ({ frames := 0, cells := 0, slots := 0, locals := 0 } : Room)) (fun a U => a = #[(.int p1)] ∧ Z.Warmed39 U.vm ∧ U.heap = h0) (fun _ _ _ _ _ => True) (fun _ U o U' => ∃ v L, o = .returned v ∧ Q2 Z p1 h0 n0 v U'.heap L ∧ FrameEnd U o U' L ({ frames := 0, cells := 0, slots := 0, locals := 0 } : Room).cells ({ frames := 0, cells := 0, slots := 0, locals := 0 } : Room).slots) := by
  refine MetFree.of_bodySF (plainFor_of_name pn_2) hisR ?_
  intro p e s m args below meth c s₁ Bd hml0 hP hK
  obtain ⟨rfl, hZ, hh⟩ := hP
  have hx := Bd.exec
  have hby := Bd.bytes
  have hml : c.maxLocals = 1 := hml0
  have hown : s.vm.findClass "com/example/lofu/lofu/text/IriCharactersIsUcsCharPinLaw" = some m.cls := findClass_of_methodNamed Bd.named
  have hnm := (name_of_methodNamed Bd.named Bd.method).1
  have X0 : Stand p l e ({ frames := 0, cells := 0, slots := 0, locals := 0 } : Room) s m #[(.int p1)] below meth c s₁ [] 0 0 := Stand.of_body Bd
  have e0 : s₁.heap = h0 := by rw [← hh, Bd.state]; rfl
  have N0 := Fr.nil n0
  have pre0 : ∀ t, Steps p.tables e below (s₁.setTop (mkF m 0 #[.val (.int p1)] [])) t → Steps p.tables e below (s₁.setTop (entryFrame m #[(.int p1)] 1)) t := fun t k => castTop (ef_2 m p1) k
  have pre1 : ∀ t, Steps p.tables e below (s₁.setTop (mkF m 4 #[.val (.int p1)] [(.int (160 : Int32)), (.int p1)])) t → Steps p.tables e below (s₁.setTop (entryFrame m #[(.int p1)] 1)) t := fun t kt => by
    refine pre0 t ?_
    show Steps p.tables e below (s₁.setTop (mkF m 0 #[.val (.int p1)] [])) _
    refine XS.iloadN X0.here hx rfl (hb hby d2_0) rfl ?_
    show Steps p.tables e below (s₁.setTop (mkF m 1 #[.val (.int p1)] [(.int p1)])) _
    refine XS.sipush X0.here hx rfl (hb hby d2_1) ?_
    exact kt
  by_cases hc2 : p1 < (160 : Int32)
  · have pre3 : ∀ t, Steps p.tables e below (s₁.setTop (mkF m 18 #[.val (.int p1)] [(.int (63744 : Int32)), (.int p1)])) t → Steps p.tables e below (s₁.setTop (entryFrame m #[(.int p1)] 1)) t := fun t kt => by
      refine pre1 t ?_
      show Steps p.tables e below (s₁.setTop (mkF m 4 #[.val (.int p1)] [(.int (160 : Int32)), (.int p1)])) _
      refine XS.icmpYes X0.here hx rfl (pc0 := 4) (pc' := 15) rfl (hb hby d2_4) rfl (tlt hc2).1 (by decide) (by decide) ?_
      show Steps p.tables e below (s₁.setTop (mkF m 15 #[.val (.int p1)] [])) _
      refine XS.iloadN X0.here hx rfl (hb hby d2_15) rfl ?_
      show Steps p.tables e below (s₁.setTop (mkF m 16 #[.val (.int p1)] [(.int p1)])) _
      refine X0.ldcInt hx hown (mvT hZ (hw _ (List.mem_of_getElem? (i := 12) rfl))) (g := (mkF m 16 #[.val (.int p1)] [(.int p1)])) rfl (hb hby d2_16) _ ?_
      exact kt
    by_cases hc4 : p1 < (63744 : Int32)
    · have pre5 : ∀ t, Steps p.tables e below (s₁.setTop (mkF m 32 #[.val (.int p1)] [(.int (65008 : Int32)), (.int p1)])) t → Steps p.tables e below (s₁.setTop (entryFrame m #[(.int p1)] 1)) t := fun t kt => by
        refine pre3 t ?_
        show Steps p.tables e below (s₁.setTop (mkF m 18 #[.val (.int p1)] [(.int (63744 : Int32)), (.int p1)])) _
        refine XS.icmpYes X0.here hx rfl (pc0 := 18) (pc' := 29) rfl (hb hby d2_18) rfl (tlt hc4).1 (by decide) (by decide) ?_
        show Steps p.tables e below (s₁.setTop (mkF m 29 #[.val (.int p1)] [])) _
        refine XS.iloadN X0.here hx rfl (hb hby d2_29) rfl ?_
        show Steps p.tables e below (s₁.setTop (mkF m 30 #[.val (.int p1)] [(.int p1)])) _
        refine X0.ldcInt hx hown (mvT hZ (hw _ (List.mem_of_getElem? (i := 13) rfl))) (g := (mkF m 30 #[.val (.int p1)] [(.int p1)])) rfl (hb hby d2_30) _ ?_
        exact kt
      by_cases hc6 : p1 < (65008 : Int32)
      · have pre7 : ∀ t, Steps p.tables e below (s₁.setTop (mkF m 46 #[.val (.int p1)] [(.int (65536 : Int32)), (.int p1)])) t → Steps p.tables e below (s₁.setTop (entryFrame m #[(.int p1)] 1)) t := fun t kt => by
          refine pre5 t ?_
          show Steps p.tables e below (s₁.setTop (mkF m 32 #[.val (.int p1)] [(.int (65008 : Int32)), (.int p1)])) _
          refine XS.icmpYes X0.here hx rfl (pc0 := 32) (pc' := 43) rfl (hb hby d2_32) rfl (tlt hc6).1 (by decide) (by decide) ?_
          show Steps p.tables e below (s₁.setTop (mkF m 43 #[.val (.int p1)] [])) _
          refine XS.iloadN X0.here hx rfl (hb hby d2_43) rfl ?_
          show Steps p.tables e below (s₁.setTop (mkF m 44 #[.val (.int p1)] [(.int p1)])) _
          refine X0.ldcInt hx hown (mvT hZ (hw _ (List.mem_of_getElem? (i := 14) rfl))) (g := (mkF m 44 #[.val (.int p1)] [(.int p1)])) rfl (hb hby d2_44) _ ?_
          exact kt
        by_cases hc8 : p1 < (65536 : Int32)
        · have pre9 : ∀ t, Steps p.tables e below (s₁.setTop (mkF m 73 #[.val (.int p1)] [(.int (921600 : Int32)), (.int p1)])) t → Steps p.tables e below (s₁.setTop (entryFrame m #[(.int p1)] 1)) t := fun t kt => by
            refine pre7 t ?_
            show Steps p.tables e below (s₁.setTop (mkF m 46 #[.val (.int p1)] [(.int (65536 : Int32)), (.int p1)])) _
            refine XS.icmpYes X0.here hx rfl (pc0 := 46) (pc' := 70) rfl (hb hby d2_46) rfl (tlt hc8).1 (by decide) (by decide) ?_
            show Steps p.tables e below (s₁.setTop (mkF m 70 #[.val (.int p1)] [])) _
            refine XS.iloadN X0.here hx rfl (hb hby d2_70) rfl ?_
            show Steps p.tables e below (s₁.setTop (mkF m 71 #[.val (.int p1)] [(.int p1)])) _
            refine X0.ldcInt hx hown (mvT hZ (hw _ (List.mem_of_getElem? (i := 15) rfl))) (g := (mkF m 71 #[.val (.int p1)] [(.int p1)])) rfl (hb hby d2_71) _ ?_
            exact kt
          by_cases hc10 : p1 < (921600 : Int32)
          · obtain ⟨fs, hr, hrun, hended, hW, hsame⟩ := X0.leave (v := some (.int (0 : Int32))) (fun h => by rw [Bd.returns] at h; cases h)
            refine ⟨_, _, pre9 _ ?_, hrun, hended, _, _, rfl, ?_, ⟨_, rfl⟩, hW, hsame.mono (by decide) (by decide)⟩
            · show Steps p.tables e below (s₁.setTop (mkF m 73 #[.val (.int p1)] [(.int (921600 : Int32)), (.int p1)])) _
              refine XS.icmpYes X0.here hx rfl (pc0 := 73) (pc' := 84) rfl (hb hby d2_73) rfl (tlt hc10).1 (by decide) (by decide) ?_
              show Steps p.tables e below (s₁.setTop (mkF m 84 #[.val (.int p1)] [])) _
              refine XS.iconst X0.here hx rfl (hb hby d2_84) ?_
              show Steps p.tables e below (s₁.setTop (mkF m 85 #[.val (.int p1)] [(.int (0 : Int32))])) _
              exact retN X0 hx (t := .boolean) Bd.returns (by simp) (hb hby d2_85) hr
            · show Q2 Z p1 h0 n0 _ s₁.heap _
              rw [e0]
              refine ⟨?_, N0, rfl⟩
              show (some (.int (0 : Int32)) : Option Value) = some (.int (F2 p1))
              rw [F2, if_pos hc2, if_pos hc4, if_pos hc6, if_pos hc8, if_pos hc10]
          · have pre11 : ∀ t, Steps p.tables e below (s₁.setTop (mkF m 79 #[.val (.int p1)] [(.int (983037 : Int32)), (.int p1)])) t → Steps p.tables e below (s₁.setTop (entryFrame m #[(.int p1)] 1)) t := fun t kt => by
              refine pre9 t ?_
              show Steps p.tables e below (s₁.setTop (mkF m 73 #[.val (.int p1)] [(.int (921600 : Int32)), (.int p1)])) _
              refine XS.icmpNo X0.here hx rfl (hb hby d2_73) rfl (flt hc10).1 ?_
              show Steps p.tables e below (s₁.setTop (mkF m 76 #[.val (.int p1)] [])) _
              refine XS.iloadN X0.here hx rfl (hb hby d2_76) rfl ?_
              show Steps p.tables e below (s₁.setTop (mkF m 77 #[.val (.int p1)] [(.int p1)])) _
              refine X0.ldcInt hx hown (mvT hZ (hw _ (List.mem_of_getElem? (i := 25) rfl))) (g := (mkF m 77 #[.val (.int p1)] [(.int p1)])) rfl (hb hby d2_77) _ ?_
              exact kt
            by_cases hc12 : (983037 : Int32) < p1
            · obtain ⟨fs, hr, hrun, hended, hW, hsame⟩ := X0.leave (v := some (.int (0 : Int32))) (fun h => by rw [Bd.returns] at h; cases h)
              refine ⟨_, _, pre11 _ ?_, hrun, hended, _, _, rfl, ?_, ⟨_, rfl⟩, hW, hsame.mono (by decide) (by decide)⟩
              · show Steps p.tables e below (s₁.setTop (mkF m 79 #[.val (.int p1)] [(.int (983037 : Int32)), (.int p1)])) _
                refine XS.icmpYes X0.here hx rfl (pc0 := 79) (pc' := 84) rfl (hb hby d2_79) rfl (tlt hc12).2.2.1 (by decide) (by decide) ?_
                show Steps p.tables e below (s₁.setTop (mkF m 84 #[.val (.int p1)] [])) _
                refine XS.iconst X0.here hx rfl (hb hby d2_84) ?_
                show Steps p.tables e below (s₁.setTop (mkF m 85 #[.val (.int p1)] [(.int (0 : Int32))])) _
                exact retN X0 hx (t := .boolean) Bd.returns (by simp) (hb hby d2_85) hr
              · show Q2 Z p1 h0 n0 _ s₁.heap _
                rw [e0]
                refine ⟨?_, N0, rfl⟩
                show (some (.int (0 : Int32)) : Option Value) = some (.int (F2 p1))
                rw [F2, if_pos hc2, if_pos hc4, if_pos hc6, if_pos hc8, if_neg hc10, if_pos hc12]
            · obtain ⟨fs, hr, hrun, hended, hW, hsame⟩ := X0.leave (v := some (.int (1 : Int32))) (fun h => by rw [Bd.returns] at h; cases h)
              refine ⟨_, _, pre11 _ ?_, hrun, hended, _, _, rfl, ?_, ⟨_, rfl⟩, hW, hsame.mono (by decide) (by decide)⟩
              · show Steps p.tables e below (s₁.setTop (mkF m 79 #[.val (.int p1)] [(.int (983037 : Int32)), (.int p1)])) _
                refine XS.icmpNo X0.here hx rfl (hb hby d2_79) rfl (flt hc12).2.2.1 ?_
                show Steps p.tables e below (s₁.setTop (mkF m 82 #[.val (.int p1)] [])) _
                refine XS.iconst X0.here hx rfl (hb hby d2_82) ?_
                show Steps p.tables e below (s₁.setTop (mkF m 83 #[.val (.int p1)] [(.int (1 : Int32))])) _
                exact retN X0 hx (t := .boolean) Bd.returns (by simp) (hb hby d2_83) hr
              · show Q2 Z p1 h0 n0 _ s₁.heap _
                rw [e0]
                refine ⟨?_, N0, rfl⟩
                show (some (.int (1 : Int32)) : Option Value) = some (.int (F2 p1))
                rw [F2, if_pos hc2, if_pos hc4, if_pos hc6, if_pos hc8, if_neg hc10, if_neg hc12]
        · have pre13 : ∀ t, Steps p.tables e below (s₁.setTop (mkF m 52 #[.val (.int p1)] [(.int (917503 : Int32)), (.int p1)])) t → Steps p.tables e below (s₁.setTop (entryFrame m #[(.int p1)] 1)) t := fun t kt => by
            refine pre7 t ?_
            show Steps p.tables e below (s₁.setTop (mkF m 46 #[.val (.int p1)] [(.int (65536 : Int32)), (.int p1)])) _
            refine XS.icmpNo X0.here hx rfl (hb hby d2_46) rfl (flt hc8).1 ?_
            show Steps p.tables e below (s₁.setTop (mkF m 49 #[.val (.int p1)] [])) _
            refine XS.iloadN X0.here hx rfl (hb hby d2_49) rfl ?_
            show Steps p.tables e below (s₁.setTop (mkF m 50 #[.val (.int p1)] [(.int p1)])) _
            refine X0.ldcInt hx hown (mvT hZ (hw _ (List.mem_of_getElem? (i := 21) rfl))) (g := (mkF m 50 #[.val (.int p1)] [(.int p1)])) rfl (hb hby d2_50) _ ?_
            exact kt
          by_cases hc14 : (917503 : Int32) < p1
          · have pre15 : ∀ t, Steps p.tables e below (s₁.setTop (mkF m 73 #[.val (.int p1)] [(.int (921600 : Int32)), (.int p1)])) t → Steps p.tables e below (s₁.setTop (entryFrame m #[(.int p1)] 1)) t := fun t kt => by
              refine pre13 t ?_
              show Steps p.tables e below (s₁.setTop (mkF m 52 #[.val (.int p1)] [(.int (917503 : Int32)), (.int p1)])) _
              refine XS.icmpYes X0.here hx rfl (pc0 := 52) (pc' := 70) rfl (hb hby d2_52) rfl (tlt hc14).2.2.1 (by decide) (by decide) ?_
              show Steps p.tables e below (s₁.setTop (mkF m 70 #[.val (.int p1)] [])) _
              refine XS.iloadN X0.here hx rfl (hb hby d2_70) rfl ?_
              show Steps p.tables e below (s₁.setTop (mkF m 71 #[.val (.int p1)] [(.int p1)])) _
              refine X0.ldcInt hx hown (mvT hZ (hw _ (List.mem_of_getElem? (i := 15) rfl))) (g := (mkF m 71 #[.val (.int p1)] [(.int p1)])) rfl (hb hby d2_71) _ ?_
              exact kt
            by_cases hc16 : p1 < (921600 : Int32)
            · obtain ⟨fs, hr, hrun, hended, hW, hsame⟩ := X0.leave (v := some (.int (0 : Int32))) (fun h => by rw [Bd.returns] at h; cases h)
              refine ⟨_, _, pre15 _ ?_, hrun, hended, _, _, rfl, ?_, ⟨_, rfl⟩, hW, hsame.mono (by decide) (by decide)⟩
              · show Steps p.tables e below (s₁.setTop (mkF m 73 #[.val (.int p1)] [(.int (921600 : Int32)), (.int p1)])) _
                refine XS.icmpYes X0.here hx rfl (pc0 := 73) (pc' := 84) rfl (hb hby d2_73) rfl (tlt hc16).1 (by decide) (by decide) ?_
                show Steps p.tables e below (s₁.setTop (mkF m 84 #[.val (.int p1)] [])) _
                refine XS.iconst X0.here hx rfl (hb hby d2_84) ?_
                show Steps p.tables e below (s₁.setTop (mkF m 85 #[.val (.int p1)] [(.int (0 : Int32))])) _
                exact retN X0 hx (t := .boolean) Bd.returns (by simp) (hb hby d2_85) hr
              · show Q2 Z p1 h0 n0 _ s₁.heap _
                rw [e0]
                refine ⟨?_, N0, rfl⟩
                show (some (.int (0 : Int32)) : Option Value) = some (.int (F2 p1))
                rw [F2, if_pos hc2, if_pos hc4, if_pos hc6, if_neg hc8, if_pos hc14, if_pos hc16]
            · have pre17 : ∀ t, Steps p.tables e below (s₁.setTop (mkF m 79 #[.val (.int p1)] [(.int (983037 : Int32)), (.int p1)])) t → Steps p.tables e below (s₁.setTop (entryFrame m #[(.int p1)] 1)) t := fun t kt => by
                refine pre15 t ?_
                show Steps p.tables e below (s₁.setTop (mkF m 73 #[.val (.int p1)] [(.int (921600 : Int32)), (.int p1)])) _
                refine XS.icmpNo X0.here hx rfl (hb hby d2_73) rfl (flt hc16).1 ?_
                show Steps p.tables e below (s₁.setTop (mkF m 76 #[.val (.int p1)] [])) _
                refine XS.iloadN X0.here hx rfl (hb hby d2_76) rfl ?_
                show Steps p.tables e below (s₁.setTop (mkF m 77 #[.val (.int p1)] [(.int p1)])) _
                refine X0.ldcInt hx hown (mvT hZ (hw _ (List.mem_of_getElem? (i := 25) rfl))) (g := (mkF m 77 #[.val (.int p1)] [(.int p1)])) rfl (hb hby d2_77) _ ?_
                exact kt
              by_cases hc18 : (983037 : Int32) < p1
              · obtain ⟨fs, hr, hrun, hended, hW, hsame⟩ := X0.leave (v := some (.int (0 : Int32))) (fun h => by rw [Bd.returns] at h; cases h)
                refine ⟨_, _, pre17 _ ?_, hrun, hended, _, _, rfl, ?_, ⟨_, rfl⟩, hW, hsame.mono (by decide) (by decide)⟩
                · show Steps p.tables e below (s₁.setTop (mkF m 79 #[.val (.int p1)] [(.int (983037 : Int32)), (.int p1)])) _
                  refine XS.icmpYes X0.here hx rfl (pc0 := 79) (pc' := 84) rfl (hb hby d2_79) rfl (tlt hc18).2.2.1 (by decide) (by decide) ?_
                  show Steps p.tables e below (s₁.setTop (mkF m 84 #[.val (.int p1)] [])) _
                  refine XS.iconst X0.here hx rfl (hb hby d2_84) ?_
                  show Steps p.tables e below (s₁.setTop (mkF m 85 #[.val (.int p1)] [(.int (0 : Int32))])) _
                  exact retN X0 hx (t := .boolean) Bd.returns (by simp) (hb hby d2_85) hr
                · show Q2 Z p1 h0 n0 _ s₁.heap _
                  rw [e0]
                  refine ⟨?_, N0, rfl⟩
                  show (some (.int (0 : Int32)) : Option Value) = some (.int (F2 p1))
                  rw [F2, if_pos hc2, if_pos hc4, if_pos hc6, if_neg hc8, if_pos hc14, if_neg hc16, if_pos hc18]
              · obtain ⟨fs, hr, hrun, hended, hW, hsame⟩ := X0.leave (v := some (.int (1 : Int32))) (fun h => by rw [Bd.returns] at h; cases h)
                refine ⟨_, _, pre17 _ ?_, hrun, hended, _, _, rfl, ?_, ⟨_, rfl⟩, hW, hsame.mono (by decide) (by decide)⟩
                · show Steps p.tables e below (s₁.setTop (mkF m 79 #[.val (.int p1)] [(.int (983037 : Int32)), (.int p1)])) _
                  refine XS.icmpNo X0.here hx rfl (hb hby d2_79) rfl (flt hc18).2.2.1 ?_
                  show Steps p.tables e below (s₁.setTop (mkF m 82 #[.val (.int p1)] [])) _
                  refine XS.iconst X0.here hx rfl (hb hby d2_82) ?_
                  show Steps p.tables e below (s₁.setTop (mkF m 83 #[.val (.int p1)] [(.int (1 : Int32))])) _
                  exact retN X0 hx (t := .boolean) Bd.returns (by simp) (hb hby d2_83) hr
                · show Q2 Z p1 h0 n0 _ s₁.heap _
                  rw [e0]
                  refine ⟨?_, N0, rfl⟩
                  show (some (.int (1 : Int32)) : Option Value) = some (.int (F2 p1))
                  rw [F2, if_pos hc2, if_pos hc4, if_pos hc6, if_neg hc8, if_pos hc14, if_neg hc16, if_neg hc18]
          · have pre19 : ∀ t, Steps p.tables e below (s₁.setTop (mkF m 61 #[.val (.int p1)] [(.int (65533 : Int32)), (.int (p1 &&& (65535 : Int32)))])) t → Steps p.tables e below (s₁.setTop (entryFrame m #[(.int p1)] 1)) t := fun t kt => by
              refine pre13 t ?_
              show Steps p.tables e below (s₁.setTop (mkF m 52 #[.val (.int p1)] [(.int (917503 : Int32)), (.int p1)])) _
              refine XS.icmpNo X0.here hx rfl (hb hby d2_52) rfl (flt hc14).2.2.1 ?_
              show Steps p.tables e below (s₁.setTop (mkF m 55 #[.val (.int p1)] [])) _
              refine XS.iloadN X0.here hx rfl (hb hby d2_55) rfl ?_
              show Steps p.tables e below (s₁.setTop (mkF m 56 #[.val (.int p1)] [(.int p1)])) _
              refine X0.ldcInt hx hown (mvT hZ (hw _ (List.mem_of_getElem? (i := 22) rfl))) (g := (mkF m 56 #[.val (.int p1)] [(.int p1)])) rfl (hb hby d2_56) _ ?_
              show Steps p.tables e below (s₁.setTop (mkF m 58 #[.val (.int p1)] [(.int (65535 : Int32)), (.int p1)])) _
              refine XS.iand X0.here hx rfl (hb hby d2_58) rfl ?_
              show Steps p.tables e below (s₁.setTop (mkF m 59 #[.val (.int p1)] [(.int (p1 &&& (65535 : Int32)))])) _
              refine X0.ldcInt hx hown (mvT hZ (hw _ (List.mem_of_getElem? (i := 23) rfl))) (g := (mkF m 59 #[.val (.int p1)] [(.int (p1 &&& (65535 : Int32)))])) rfl (hb hby d2_59) _ ?_
              exact kt
            by_cases hc20 : (65533 : Int32) < (p1 &&& (65535 : Int32))
            · obtain ⟨fs, hr, hrun, hended, hW, hsame⟩ := X0.leave (v := some (.int (0 : Int32))) (fun h => by rw [Bd.returns] at h; cases h)
              refine ⟨_, _, pre19 _ ?_, hrun, hended, _, _, rfl, ?_, ⟨_, rfl⟩, hW, hsame.mono (by decide) (by decide)⟩
              · show Steps p.tables e below (s₁.setTop (mkF m 61 #[.val (.int p1)] [(.int (65533 : Int32)), (.int (p1 &&& (65535 : Int32)))])) _
                refine XS.icmpYes X0.here hx rfl (pc0 := 61) (pc' := 68) rfl (hb hby d2_61) rfl (tlt hc20).2.2.1 (by decide) (by decide) ?_
                show Steps p.tables e below (s₁.setTop (mkF m 68 #[.val (.int p1)] [])) _
                refine XS.iconst X0.here hx rfl (hb hby d2_68) ?_
                show Steps p.tables e below (s₁.setTop (mkF m 69 #[.val (.int p1)] [(.int (0 : Int32))])) _
                exact retN X0 hx (t := .boolean) Bd.returns (by simp) (hb hby d2_69) hr
              · show Q2 Z p1 h0 n0 _ s₁.heap _
                rw [e0]
                refine ⟨?_, N0, rfl⟩
                show (some (.int (0 : Int32)) : Option Value) = some (.int (F2 p1))
                rw [F2, if_pos hc2, if_pos hc4, if_pos hc6, if_neg hc8, if_neg hc14, if_pos hc20]
            · obtain ⟨fs, hr, hrun, hended, hW, hsame⟩ := X0.leave (v := some (.int (1 : Int32))) (fun h => by rw [Bd.returns] at h; cases h)
              refine ⟨_, _, pre19 _ ?_, hrun, hended, _, _, rfl, ?_, ⟨_, rfl⟩, hW, hsame.mono (by decide) (by decide)⟩
              · show Steps p.tables e below (s₁.setTop (mkF m 61 #[.val (.int p1)] [(.int (65533 : Int32)), (.int (p1 &&& (65535 : Int32)))])) _
                refine XS.icmpNo X0.here hx rfl (hb hby d2_61) rfl (flt hc20).2.2.1 ?_
                show Steps p.tables e below (s₁.setTop (mkF m 64 #[.val (.int p1)] [])) _
                refine XS.iconst X0.here hx rfl (hb hby d2_64) ?_
                show Steps p.tables e below (s₁.setTop (mkF m 65 #[.val (.int p1)] [(.int (1 : Int32))])) _
                refine XS.goto X0.here hx rfl (pc0 := 65) (pc' := 69) rfl (hb hby d2_65) (by decide) (by decide) ?_
                show Steps p.tables e below (s₁.setTop (mkF m 69 #[.val (.int p1)] [(.int (1 : Int32))])) _
                exact retN X0 hx (t := .boolean) Bd.returns (by simp) (hb hby d2_69) hr
              · show Q2 Z p1 h0 n0 _ s₁.heap _
                rw [e0]
                refine ⟨?_, N0, rfl⟩
                show (some (.int (1 : Int32)) : Option Value) = some (.int (F2 p1))
                rw [F2, if_pos hc2, if_pos hc4, if_pos hc6, if_neg hc8, if_neg hc14, if_neg hc20]
      · have pre21 : ∀ t, Steps p.tables e below (s₁.setTop (mkF m 38 #[.val (.int p1)] [(.int (65519 : Int32)), (.int p1)])) t → Steps p.tables e below (s₁.setTop (entryFrame m #[(.int p1)] 1)) t := fun t kt => by
          refine pre5 t ?_
          show Steps p.tables e below (s₁.setTop (mkF m 32 #[.val (.int p1)] [(.int (65008 : Int32)), (.int p1)])) _
          refine XS.icmpNo X0.here hx rfl (hb hby d2_32) rfl (flt hc6).1 ?_
          show Steps p.tables e below (s₁.setTop (mkF m 35 #[.val (.int p1)] [])) _
          refine XS.iloadN X0.here hx rfl (hb hby d2_35) rfl ?_
          show Steps p.tables e below (s₁.setTop (mkF m 36 #[.val (.int p1)] [(.int p1)])) _
          refine X0.ldcInt hx hown (mvT hZ (hw _ (List.mem_of_getElem? (i := 20) rfl))) (g := (mkF m 36 #[.val (.int p1)] [(.int p1)])) rfl (hb hby d2_36) _ ?_
          exact kt
        by_cases hc22 : (65519 : Int32) < p1
        · have pre23 : ∀ t, Steps p.tables e below (s₁.setTop (mkF m 46 #[.val (.int p1)] [(.int (65536 : Int32)), (.int p1)])) t → Steps p.tables e below (s₁.setTop (entryFrame m #[(.int p1)] 1)) t := fun t kt => by
            refine pre21 t ?_
            show Steps p.tables e below (s₁.setTop (mkF m 38 #[.val (.int p1)] [(.int (65519 : Int32)), (.int p1)])) _
            refine XS.icmpYes X0.here hx rfl (pc0 := 38) (pc' := 43) rfl (hb hby d2_38) rfl (tlt hc22).2.2.1 (by decide) (by decide) ?_
            show Steps p.tables e below (s₁.setTop (mkF m 43 #[.val (.int p1)] [])) _
            refine XS.iloadN X0.here hx rfl (hb hby d2_43) rfl ?_
            show Steps p.tables e below (s₁.setTop (mkF m 44 #[.val (.int p1)] [(.int p1)])) _
            refine X0.ldcInt hx hown (mvT hZ (hw _ (List.mem_of_getElem? (i := 14) rfl))) (g := (mkF m 44 #[.val (.int p1)] [(.int p1)])) rfl (hb hby d2_44) _ ?_
            exact kt
          by_cases hc24 : p1 < (65536 : Int32)
          · have pre25 : ∀ t, Steps p.tables e below (s₁.setTop (mkF m 73 #[.val (.int p1)] [(.int (921600 : Int32)), (.int p1)])) t → Steps p.tables e below (s₁.setTop (entryFrame m #[(.int p1)] 1)) t := fun t kt => by
              refine pre23 t ?_
              show Steps p.tables e below (s₁.setTop (mkF m 46 #[.val (.int p1)] [(.int (65536 : Int32)), (.int p1)])) _
              refine XS.icmpYes X0.here hx rfl (pc0 := 46) (pc' := 70) rfl (hb hby d2_46) rfl (tlt hc24).1 (by decide) (by decide) ?_
              show Steps p.tables e below (s₁.setTop (mkF m 70 #[.val (.int p1)] [])) _
              refine XS.iloadN X0.here hx rfl (hb hby d2_70) rfl ?_
              show Steps p.tables e below (s₁.setTop (mkF m 71 #[.val (.int p1)] [(.int p1)])) _
              refine X0.ldcInt hx hown (mvT hZ (hw _ (List.mem_of_getElem? (i := 15) rfl))) (g := (mkF m 71 #[.val (.int p1)] [(.int p1)])) rfl (hb hby d2_71) _ ?_
              exact kt
            by_cases hc26 : p1 < (921600 : Int32)
            · obtain ⟨fs, hr, hrun, hended, hW, hsame⟩ := X0.leave (v := some (.int (0 : Int32))) (fun h => by rw [Bd.returns] at h; cases h)
              refine ⟨_, _, pre25 _ ?_, hrun, hended, _, _, rfl, ?_, ⟨_, rfl⟩, hW, hsame.mono (by decide) (by decide)⟩
              · show Steps p.tables e below (s₁.setTop (mkF m 73 #[.val (.int p1)] [(.int (921600 : Int32)), (.int p1)])) _
                refine XS.icmpYes X0.here hx rfl (pc0 := 73) (pc' := 84) rfl (hb hby d2_73) rfl (tlt hc26).1 (by decide) (by decide) ?_
                show Steps p.tables e below (s₁.setTop (mkF m 84 #[.val (.int p1)] [])) _
                refine XS.iconst X0.here hx rfl (hb hby d2_84) ?_
                show Steps p.tables e below (s₁.setTop (mkF m 85 #[.val (.int p1)] [(.int (0 : Int32))])) _
                exact retN X0 hx (t := .boolean) Bd.returns (by simp) (hb hby d2_85) hr
              · show Q2 Z p1 h0 n0 _ s₁.heap _
                rw [e0]
                refine ⟨?_, N0, rfl⟩
                show (some (.int (0 : Int32)) : Option Value) = some (.int (F2 p1))
                rw [F2, if_pos hc2, if_pos hc4, if_neg hc6, if_pos hc22, if_pos hc24, if_pos hc26]
            · have pre27 : ∀ t, Steps p.tables e below (s₁.setTop (mkF m 79 #[.val (.int p1)] [(.int (983037 : Int32)), (.int p1)])) t → Steps p.tables e below (s₁.setTop (entryFrame m #[(.int p1)] 1)) t := fun t kt => by
                refine pre25 t ?_
                show Steps p.tables e below (s₁.setTop (mkF m 73 #[.val (.int p1)] [(.int (921600 : Int32)), (.int p1)])) _
                refine XS.icmpNo X0.here hx rfl (hb hby d2_73) rfl (flt hc26).1 ?_
                show Steps p.tables e below (s₁.setTop (mkF m 76 #[.val (.int p1)] [])) _
                refine XS.iloadN X0.here hx rfl (hb hby d2_76) rfl ?_
                show Steps p.tables e below (s₁.setTop (mkF m 77 #[.val (.int p1)] [(.int p1)])) _
                refine X0.ldcInt hx hown (mvT hZ (hw _ (List.mem_of_getElem? (i := 25) rfl))) (g := (mkF m 77 #[.val (.int p1)] [(.int p1)])) rfl (hb hby d2_77) _ ?_
                exact kt
              by_cases hc28 : (983037 : Int32) < p1
              · obtain ⟨fs, hr, hrun, hended, hW, hsame⟩ := X0.leave (v := some (.int (0 : Int32))) (fun h => by rw [Bd.returns] at h; cases h)
                refine ⟨_, _, pre27 _ ?_, hrun, hended, _, _, rfl, ?_, ⟨_, rfl⟩, hW, hsame.mono (by decide) (by decide)⟩
                · show Steps p.tables e below (s₁.setTop (mkF m 79 #[.val (.int p1)] [(.int (983037 : Int32)), (.int p1)])) _
                  refine XS.icmpYes X0.here hx rfl (pc0 := 79) (pc' := 84) rfl (hb hby d2_79) rfl (tlt hc28).2.2.1 (by decide) (by decide) ?_
                  show Steps p.tables e below (s₁.setTop (mkF m 84 #[.val (.int p1)] [])) _
                  refine XS.iconst X0.here hx rfl (hb hby d2_84) ?_
                  show Steps p.tables e below (s₁.setTop (mkF m 85 #[.val (.int p1)] [(.int (0 : Int32))])) _
                  exact retN X0 hx (t := .boolean) Bd.returns (by simp) (hb hby d2_85) hr
                · show Q2 Z p1 h0 n0 _ s₁.heap _
                  rw [e0]
                  refine ⟨?_, N0, rfl⟩
                  show (some (.int (0 : Int32)) : Option Value) = some (.int (F2 p1))
                  rw [F2, if_pos hc2, if_pos hc4, if_neg hc6, if_pos hc22, if_pos hc24, if_neg hc26, if_pos hc28]
              · obtain ⟨fs, hr, hrun, hended, hW, hsame⟩ := X0.leave (v := some (.int (1 : Int32))) (fun h => by rw [Bd.returns] at h; cases h)
                refine ⟨_, _, pre27 _ ?_, hrun, hended, _, _, rfl, ?_, ⟨_, rfl⟩, hW, hsame.mono (by decide) (by decide)⟩
                · show Steps p.tables e below (s₁.setTop (mkF m 79 #[.val (.int p1)] [(.int (983037 : Int32)), (.int p1)])) _
                  refine XS.icmpNo X0.here hx rfl (hb hby d2_79) rfl (flt hc28).2.2.1 ?_
                  show Steps p.tables e below (s₁.setTop (mkF m 82 #[.val (.int p1)] [])) _
                  refine XS.iconst X0.here hx rfl (hb hby d2_82) ?_
                  show Steps p.tables e below (s₁.setTop (mkF m 83 #[.val (.int p1)] [(.int (1 : Int32))])) _
                  exact retN X0 hx (t := .boolean) Bd.returns (by simp) (hb hby d2_83) hr
                · show Q2 Z p1 h0 n0 _ s₁.heap _
                  rw [e0]
                  refine ⟨?_, N0, rfl⟩
                  show (some (.int (1 : Int32)) : Option Value) = some (.int (F2 p1))
                  rw [F2, if_pos hc2, if_pos hc4, if_neg hc6, if_pos hc22, if_pos hc24, if_neg hc26, if_neg hc28]
          · have pre29 : ∀ t, Steps p.tables e below (s₁.setTop (mkF m 52 #[.val (.int p1)] [(.int (917503 : Int32)), (.int p1)])) t → Steps p.tables e below (s₁.setTop (entryFrame m #[(.int p1)] 1)) t := fun t kt => by
              refine pre23 t ?_
              show Steps p.tables e below (s₁.setTop (mkF m 46 #[.val (.int p1)] [(.int (65536 : Int32)), (.int p1)])) _
              refine XS.icmpNo X0.here hx rfl (hb hby d2_46) rfl (flt hc24).1 ?_
              show Steps p.tables e below (s₁.setTop (mkF m 49 #[.val (.int p1)] [])) _
              refine XS.iloadN X0.here hx rfl (hb hby d2_49) rfl ?_
              show Steps p.tables e below (s₁.setTop (mkF m 50 #[.val (.int p1)] [(.int p1)])) _
              refine X0.ldcInt hx hown (mvT hZ (hw _ (List.mem_of_getElem? (i := 21) rfl))) (g := (mkF m 50 #[.val (.int p1)] [(.int p1)])) rfl (hb hby d2_50) _ ?_
              exact kt
            by_cases hc30 : (917503 : Int32) < p1
            · have pre31 : ∀ t, Steps p.tables e below (s₁.setTop (mkF m 73 #[.val (.int p1)] [(.int (921600 : Int32)), (.int p1)])) t → Steps p.tables e below (s₁.setTop (entryFrame m #[(.int p1)] 1)) t := fun t kt => by
                refine pre29 t ?_
                show Steps p.tables e below (s₁.setTop (mkF m 52 #[.val (.int p1)] [(.int (917503 : Int32)), (.int p1)])) _
                refine XS.icmpYes X0.here hx rfl (pc0 := 52) (pc' := 70) rfl (hb hby d2_52) rfl (tlt hc30).2.2.1 (by decide) (by decide) ?_
                show Steps p.tables e below (s₁.setTop (mkF m 70 #[.val (.int p1)] [])) _
                refine XS.iloadN X0.here hx rfl (hb hby d2_70) rfl ?_
                show Steps p.tables e below (s₁.setTop (mkF m 71 #[.val (.int p1)] [(.int p1)])) _
                refine X0.ldcInt hx hown (mvT hZ (hw _ (List.mem_of_getElem? (i := 15) rfl))) (g := (mkF m 71 #[.val (.int p1)] [(.int p1)])) rfl (hb hby d2_71) _ ?_
                exact kt
              by_cases hc32 : p1 < (921600 : Int32)
              · obtain ⟨fs, hr, hrun, hended, hW, hsame⟩ := X0.leave (v := some (.int (0 : Int32))) (fun h => by rw [Bd.returns] at h; cases h)
                refine ⟨_, _, pre31 _ ?_, hrun, hended, _, _, rfl, ?_, ⟨_, rfl⟩, hW, hsame.mono (by decide) (by decide)⟩
                · show Steps p.tables e below (s₁.setTop (mkF m 73 #[.val (.int p1)] [(.int (921600 : Int32)), (.int p1)])) _
                  refine XS.icmpYes X0.here hx rfl (pc0 := 73) (pc' := 84) rfl (hb hby d2_73) rfl (tlt hc32).1 (by decide) (by decide) ?_
                  show Steps p.tables e below (s₁.setTop (mkF m 84 #[.val (.int p1)] [])) _
                  refine XS.iconst X0.here hx rfl (hb hby d2_84) ?_
                  show Steps p.tables e below (s₁.setTop (mkF m 85 #[.val (.int p1)] [(.int (0 : Int32))])) _
                  exact retN X0 hx (t := .boolean) Bd.returns (by simp) (hb hby d2_85) hr
                · show Q2 Z p1 h0 n0 _ s₁.heap _
                  rw [e0]
                  refine ⟨?_, N0, rfl⟩
                  show (some (.int (0 : Int32)) : Option Value) = some (.int (F2 p1))
                  rw [F2, if_pos hc2, if_pos hc4, if_neg hc6, if_pos hc22, if_neg hc24, if_pos hc30, if_pos hc32]
              · have pre33 : ∀ t, Steps p.tables e below (s₁.setTop (mkF m 79 #[.val (.int p1)] [(.int (983037 : Int32)), (.int p1)])) t → Steps p.tables e below (s₁.setTop (entryFrame m #[(.int p1)] 1)) t := fun t kt => by
                  refine pre31 t ?_
                  show Steps p.tables e below (s₁.setTop (mkF m 73 #[.val (.int p1)] [(.int (921600 : Int32)), (.int p1)])) _
                  refine XS.icmpNo X0.here hx rfl (hb hby d2_73) rfl (flt hc32).1 ?_
                  show Steps p.tables e below (s₁.setTop (mkF m 76 #[.val (.int p1)] [])) _
                  refine XS.iloadN X0.here hx rfl (hb hby d2_76) rfl ?_
                  show Steps p.tables e below (s₁.setTop (mkF m 77 #[.val (.int p1)] [(.int p1)])) _
                  refine X0.ldcInt hx hown (mvT hZ (hw _ (List.mem_of_getElem? (i := 25) rfl))) (g := (mkF m 77 #[.val (.int p1)] [(.int p1)])) rfl (hb hby d2_77) _ ?_
                  exact kt
                by_cases hc34 : (983037 : Int32) < p1
                · obtain ⟨fs, hr, hrun, hended, hW, hsame⟩ := X0.leave (v := some (.int (0 : Int32))) (fun h => by rw [Bd.returns] at h; cases h)
                  refine ⟨_, _, pre33 _ ?_, hrun, hended, _, _, rfl, ?_, ⟨_, rfl⟩, hW, hsame.mono (by decide) (by decide)⟩
                  · show Steps p.tables e below (s₁.setTop (mkF m 79 #[.val (.int p1)] [(.int (983037 : Int32)), (.int p1)])) _
                    refine XS.icmpYes X0.here hx rfl (pc0 := 79) (pc' := 84) rfl (hb hby d2_79) rfl (tlt hc34).2.2.1 (by decide) (by decide) ?_
                    show Steps p.tables e below (s₁.setTop (mkF m 84 #[.val (.int p1)] [])) _
                    refine XS.iconst X0.here hx rfl (hb hby d2_84) ?_
                    show Steps p.tables e below (s₁.setTop (mkF m 85 #[.val (.int p1)] [(.int (0 : Int32))])) _
                    exact retN X0 hx (t := .boolean) Bd.returns (by simp) (hb hby d2_85) hr
                  · show Q2 Z p1 h0 n0 _ s₁.heap _
                    rw [e0]
                    refine ⟨?_, N0, rfl⟩
                    show (some (.int (0 : Int32)) : Option Value) = some (.int (F2 p1))
                    rw [F2, if_pos hc2, if_pos hc4, if_neg hc6, if_pos hc22, if_neg hc24, if_pos hc30, if_neg hc32, if_pos hc34]
                · obtain ⟨fs, hr, hrun, hended, hW, hsame⟩ := X0.leave (v := some (.int (1 : Int32))) (fun h => by rw [Bd.returns] at h; cases h)
                  refine ⟨_, _, pre33 _ ?_, hrun, hended, _, _, rfl, ?_, ⟨_, rfl⟩, hW, hsame.mono (by decide) (by decide)⟩
                  · show Steps p.tables e below (s₁.setTop (mkF m 79 #[.val (.int p1)] [(.int (983037 : Int32)), (.int p1)])) _
                    refine XS.icmpNo X0.here hx rfl (hb hby d2_79) rfl (flt hc34).2.2.1 ?_
                    show Steps p.tables e below (s₁.setTop (mkF m 82 #[.val (.int p1)] [])) _
                    refine XS.iconst X0.here hx rfl (hb hby d2_82) ?_
                    show Steps p.tables e below (s₁.setTop (mkF m 83 #[.val (.int p1)] [(.int (1 : Int32))])) _
                    exact retN X0 hx (t := .boolean) Bd.returns (by simp) (hb hby d2_83) hr
                  · show Q2 Z p1 h0 n0 _ s₁.heap _
                    rw [e0]
                    refine ⟨?_, N0, rfl⟩
                    show (some (.int (1 : Int32)) : Option Value) = some (.int (F2 p1))
                    rw [F2, if_pos hc2, if_pos hc4, if_neg hc6, if_pos hc22, if_neg hc24, if_pos hc30, if_neg hc32, if_neg hc34]
            · have pre35 : ∀ t, Steps p.tables e below (s₁.setTop (mkF m 61 #[.val (.int p1)] [(.int (65533 : Int32)), (.int (p1 &&& (65535 : Int32)))])) t → Steps p.tables e below (s₁.setTop (entryFrame m #[(.int p1)] 1)) t := fun t kt => by
                refine pre29 t ?_
                show Steps p.tables e below (s₁.setTop (mkF m 52 #[.val (.int p1)] [(.int (917503 : Int32)), (.int p1)])) _
                refine XS.icmpNo X0.here hx rfl (hb hby d2_52) rfl (flt hc30).2.2.1 ?_
                show Steps p.tables e below (s₁.setTop (mkF m 55 #[.val (.int p1)] [])) _
                refine XS.iloadN X0.here hx rfl (hb hby d2_55) rfl ?_
                show Steps p.tables e below (s₁.setTop (mkF m 56 #[.val (.int p1)] [(.int p1)])) _
                refine X0.ldcInt hx hown (mvT hZ (hw _ (List.mem_of_getElem? (i := 22) rfl))) (g := (mkF m 56 #[.val (.int p1)] [(.int p1)])) rfl (hb hby d2_56) _ ?_
                show Steps p.tables e below (s₁.setTop (mkF m 58 #[.val (.int p1)] [(.int (65535 : Int32)), (.int p1)])) _
                refine XS.iand X0.here hx rfl (hb hby d2_58) rfl ?_
                show Steps p.tables e below (s₁.setTop (mkF m 59 #[.val (.int p1)] [(.int (p1 &&& (65535 : Int32)))])) _
                refine X0.ldcInt hx hown (mvT hZ (hw _ (List.mem_of_getElem? (i := 23) rfl))) (g := (mkF m 59 #[.val (.int p1)] [(.int (p1 &&& (65535 : Int32)))])) rfl (hb hby d2_59) _ ?_
                exact kt
              by_cases hc36 : (65533 : Int32) < (p1 &&& (65535 : Int32))
              · obtain ⟨fs, hr, hrun, hended, hW, hsame⟩ := X0.leave (v := some (.int (0 : Int32))) (fun h => by rw [Bd.returns] at h; cases h)
                refine ⟨_, _, pre35 _ ?_, hrun, hended, _, _, rfl, ?_, ⟨_, rfl⟩, hW, hsame.mono (by decide) (by decide)⟩
                · show Steps p.tables e below (s₁.setTop (mkF m 61 #[.val (.int p1)] [(.int (65533 : Int32)), (.int (p1 &&& (65535 : Int32)))])) _
                  refine XS.icmpYes X0.here hx rfl (pc0 := 61) (pc' := 68) rfl (hb hby d2_61) rfl (tlt hc36).2.2.1 (by decide) (by decide) ?_
                  show Steps p.tables e below (s₁.setTop (mkF m 68 #[.val (.int p1)] [])) _
                  refine XS.iconst X0.here hx rfl (hb hby d2_68) ?_
                  show Steps p.tables e below (s₁.setTop (mkF m 69 #[.val (.int p1)] [(.int (0 : Int32))])) _
                  exact retN X0 hx (t := .boolean) Bd.returns (by simp) (hb hby d2_69) hr
                · show Q2 Z p1 h0 n0 _ s₁.heap _
                  rw [e0]
                  refine ⟨?_, N0, rfl⟩
                  show (some (.int (0 : Int32)) : Option Value) = some (.int (F2 p1))
                  rw [F2, if_pos hc2, if_pos hc4, if_neg hc6, if_pos hc22, if_neg hc24, if_neg hc30, if_pos hc36]
              · obtain ⟨fs, hr, hrun, hended, hW, hsame⟩ := X0.leave (v := some (.int (1 : Int32))) (fun h => by rw [Bd.returns] at h; cases h)
                refine ⟨_, _, pre35 _ ?_, hrun, hended, _, _, rfl, ?_, ⟨_, rfl⟩, hW, hsame.mono (by decide) (by decide)⟩
                · show Steps p.tables e below (s₁.setTop (mkF m 61 #[.val (.int p1)] [(.int (65533 : Int32)), (.int (p1 &&& (65535 : Int32)))])) _
                  refine XS.icmpNo X0.here hx rfl (hb hby d2_61) rfl (flt hc36).2.2.1 ?_
                  show Steps p.tables e below (s₁.setTop (mkF m 64 #[.val (.int p1)] [])) _
                  refine XS.iconst X0.here hx rfl (hb hby d2_64) ?_
                  show Steps p.tables e below (s₁.setTop (mkF m 65 #[.val (.int p1)] [(.int (1 : Int32))])) _
                  refine XS.goto X0.here hx rfl (pc0 := 65) (pc' := 69) rfl (hb hby d2_65) (by decide) (by decide) ?_
                  show Steps p.tables e below (s₁.setTop (mkF m 69 #[.val (.int p1)] [(.int (1 : Int32))])) _
                  exact retN X0 hx (t := .boolean) Bd.returns (by simp) (hb hby d2_69) hr
                · show Q2 Z p1 h0 n0 _ s₁.heap _
                  rw [e0]
                  refine ⟨?_, N0, rfl⟩
                  show (some (.int (1 : Int32)) : Option Value) = some (.int (F2 p1))
                  rw [F2, if_pos hc2, if_pos hc4, if_neg hc6, if_pos hc22, if_neg hc24, if_neg hc30, if_neg hc36]
        · obtain ⟨fs, hr, hrun, hended, hW, hsame⟩ := X0.leave (v := some (.int (1 : Int32))) (fun h => by rw [Bd.returns] at h; cases h)
          refine ⟨_, _, pre21 _ ?_, hrun, hended, _, _, rfl, ?_, ⟨_, rfl⟩, hW, hsame.mono (by decide) (by decide)⟩
          · show Steps p.tables e below (s₁.setTop (mkF m 38 #[.val (.int p1)] [(.int (65519 : Int32)), (.int p1)])) _
            refine XS.icmpNo X0.here hx rfl (hb hby d2_38) rfl (flt hc22).2.2.1 ?_
            show Steps p.tables e below (s₁.setTop (mkF m 41 #[.val (.int p1)] [])) _
            refine XS.iconst X0.here hx rfl (hb hby d2_41) ?_
            show Steps p.tables e below (s₁.setTop (mkF m 42 #[.val (.int p1)] [(.int (1 : Int32))])) _
            exact retN X0 hx (t := .boolean) Bd.returns (by simp) (hb hby d2_42) hr
          · show Q2 Z p1 h0 n0 _ s₁.heap _
            rw [e0]
            refine ⟨?_, N0, rfl⟩
            show (some (.int (1 : Int32)) : Option Value) = some (.int (F2 p1))
            rw [F2, if_pos hc2, if_pos hc4, if_neg hc6, if_neg hc22]
    · have pre37 : ∀ t, Steps p.tables e below (s₁.setTop (mkF m 24 #[.val (.int p1)] [(.int (64975 : Int32)), (.int p1)])) t → Steps p.tables e below (s₁.setTop (entryFrame m #[(.int p1)] 1)) t := fun t kt => by
        refine pre3 t ?_
        show Steps p.tables e below (s₁.setTop (mkF m 18 #[.val (.int p1)] [(.int (63744 : Int32)), (.int p1)])) _
        refine XS.icmpNo X0.here hx rfl (hb hby d2_18) rfl (flt hc4).1 ?_
        show Steps p.tables e below (s₁.setTop (mkF m 21 #[.val (.int p1)] [])) _
        refine XS.iloadN X0.here hx rfl (hb hby d2_21) rfl ?_
        show Steps p.tables e below (s₁.setTop (mkF m 22 #[.val (.int p1)] [(.int p1)])) _
        refine X0.ldcInt hx hown (mvT hZ (hw _ (List.mem_of_getElem? (i := 19) rfl))) (g := (mkF m 22 #[.val (.int p1)] [(.int p1)])) rfl (hb hby d2_22) _ ?_
        exact kt
      by_cases hc38 : (64975 : Int32) < p1
      · have pre39 : ∀ t, Steps p.tables e below (s₁.setTop (mkF m 32 #[.val (.int p1)] [(.int (65008 : Int32)), (.int p1)])) t → Steps p.tables e below (s₁.setTop (entryFrame m #[(.int p1)] 1)) t := fun t kt => by
          refine pre37 t ?_
          show Steps p.tables e below (s₁.setTop (mkF m 24 #[.val (.int p1)] [(.int (64975 : Int32)), (.int p1)])) _
          refine XS.icmpYes X0.here hx rfl (pc0 := 24) (pc' := 29) rfl (hb hby d2_24) rfl (tlt hc38).2.2.1 (by decide) (by decide) ?_
          show Steps p.tables e below (s₁.setTop (mkF m 29 #[.val (.int p1)] [])) _
          refine XS.iloadN X0.here hx rfl (hb hby d2_29) rfl ?_
          show Steps p.tables e below (s₁.setTop (mkF m 30 #[.val (.int p1)] [(.int p1)])) _
          refine X0.ldcInt hx hown (mvT hZ (hw _ (List.mem_of_getElem? (i := 13) rfl))) (g := (mkF m 30 #[.val (.int p1)] [(.int p1)])) rfl (hb hby d2_30) _ ?_
          exact kt
        by_cases hc40 : p1 < (65008 : Int32)
        · have pre41 : ∀ t, Steps p.tables e below (s₁.setTop (mkF m 46 #[.val (.int p1)] [(.int (65536 : Int32)), (.int p1)])) t → Steps p.tables e below (s₁.setTop (entryFrame m #[(.int p1)] 1)) t := fun t kt => by
            refine pre39 t ?_
            show Steps p.tables e below (s₁.setTop (mkF m 32 #[.val (.int p1)] [(.int (65008 : Int32)), (.int p1)])) _
            refine XS.icmpYes X0.here hx rfl (pc0 := 32) (pc' := 43) rfl (hb hby d2_32) rfl (tlt hc40).1 (by decide) (by decide) ?_
            show Steps p.tables e below (s₁.setTop (mkF m 43 #[.val (.int p1)] [])) _
            refine XS.iloadN X0.here hx rfl (hb hby d2_43) rfl ?_
            show Steps p.tables e below (s₁.setTop (mkF m 44 #[.val (.int p1)] [(.int p1)])) _
            refine X0.ldcInt hx hown (mvT hZ (hw _ (List.mem_of_getElem? (i := 14) rfl))) (g := (mkF m 44 #[.val (.int p1)] [(.int p1)])) rfl (hb hby d2_44) _ ?_
            exact kt
          by_cases hc42 : p1 < (65536 : Int32)
          · have pre43 : ∀ t, Steps p.tables e below (s₁.setTop (mkF m 73 #[.val (.int p1)] [(.int (921600 : Int32)), (.int p1)])) t → Steps p.tables e below (s₁.setTop (entryFrame m #[(.int p1)] 1)) t := fun t kt => by
              refine pre41 t ?_
              show Steps p.tables e below (s₁.setTop (mkF m 46 #[.val (.int p1)] [(.int (65536 : Int32)), (.int p1)])) _
              refine XS.icmpYes X0.here hx rfl (pc0 := 46) (pc' := 70) rfl (hb hby d2_46) rfl (tlt hc42).1 (by decide) (by decide) ?_
              show Steps p.tables e below (s₁.setTop (mkF m 70 #[.val (.int p1)] [])) _
              refine XS.iloadN X0.here hx rfl (hb hby d2_70) rfl ?_
              show Steps p.tables e below (s₁.setTop (mkF m 71 #[.val (.int p1)] [(.int p1)])) _
              refine X0.ldcInt hx hown (mvT hZ (hw _ (List.mem_of_getElem? (i := 15) rfl))) (g := (mkF m 71 #[.val (.int p1)] [(.int p1)])) rfl (hb hby d2_71) _ ?_
              exact kt
            by_cases hc44 : p1 < (921600 : Int32)
            · obtain ⟨fs, hr, hrun, hended, hW, hsame⟩ := X0.leave (v := some (.int (0 : Int32))) (fun h => by rw [Bd.returns] at h; cases h)
              refine ⟨_, _, pre43 _ ?_, hrun, hended, _, _, rfl, ?_, ⟨_, rfl⟩, hW, hsame.mono (by decide) (by decide)⟩
              · show Steps p.tables e below (s₁.setTop (mkF m 73 #[.val (.int p1)] [(.int (921600 : Int32)), (.int p1)])) _
                refine XS.icmpYes X0.here hx rfl (pc0 := 73) (pc' := 84) rfl (hb hby d2_73) rfl (tlt hc44).1 (by decide) (by decide) ?_
                show Steps p.tables e below (s₁.setTop (mkF m 84 #[.val (.int p1)] [])) _
                refine XS.iconst X0.here hx rfl (hb hby d2_84) ?_
                show Steps p.tables e below (s₁.setTop (mkF m 85 #[.val (.int p1)] [(.int (0 : Int32))])) _
                exact retN X0 hx (t := .boolean) Bd.returns (by simp) (hb hby d2_85) hr
              · show Q2 Z p1 h0 n0 _ s₁.heap _
                rw [e0]
                refine ⟨?_, N0, rfl⟩
                show (some (.int (0 : Int32)) : Option Value) = some (.int (F2 p1))
                rw [F2, if_pos hc2, if_neg hc4, if_pos hc38, if_pos hc40, if_pos hc42, if_pos hc44]
            · have pre45 : ∀ t, Steps p.tables e below (s₁.setTop (mkF m 79 #[.val (.int p1)] [(.int (983037 : Int32)), (.int p1)])) t → Steps p.tables e below (s₁.setTop (entryFrame m #[(.int p1)] 1)) t := fun t kt => by
                refine pre43 t ?_
                show Steps p.tables e below (s₁.setTop (mkF m 73 #[.val (.int p1)] [(.int (921600 : Int32)), (.int p1)])) _
                refine XS.icmpNo X0.here hx rfl (hb hby d2_73) rfl (flt hc44).1 ?_
                show Steps p.tables e below (s₁.setTop (mkF m 76 #[.val (.int p1)] [])) _
                refine XS.iloadN X0.here hx rfl (hb hby d2_76) rfl ?_
                show Steps p.tables e below (s₁.setTop (mkF m 77 #[.val (.int p1)] [(.int p1)])) _
                refine X0.ldcInt hx hown (mvT hZ (hw _ (List.mem_of_getElem? (i := 25) rfl))) (g := (mkF m 77 #[.val (.int p1)] [(.int p1)])) rfl (hb hby d2_77) _ ?_
                exact kt
              by_cases hc46 : (983037 : Int32) < p1
              · obtain ⟨fs, hr, hrun, hended, hW, hsame⟩ := X0.leave (v := some (.int (0 : Int32))) (fun h => by rw [Bd.returns] at h; cases h)
                refine ⟨_, _, pre45 _ ?_, hrun, hended, _, _, rfl, ?_, ⟨_, rfl⟩, hW, hsame.mono (by decide) (by decide)⟩
                · show Steps p.tables e below (s₁.setTop (mkF m 79 #[.val (.int p1)] [(.int (983037 : Int32)), (.int p1)])) _
                  refine XS.icmpYes X0.here hx rfl (pc0 := 79) (pc' := 84) rfl (hb hby d2_79) rfl (tlt hc46).2.2.1 (by decide) (by decide) ?_
                  show Steps p.tables e below (s₁.setTop (mkF m 84 #[.val (.int p1)] [])) _
                  refine XS.iconst X0.here hx rfl (hb hby d2_84) ?_
                  show Steps p.tables e below (s₁.setTop (mkF m 85 #[.val (.int p1)] [(.int (0 : Int32))])) _
                  exact retN X0 hx (t := .boolean) Bd.returns (by simp) (hb hby d2_85) hr
                · show Q2 Z p1 h0 n0 _ s₁.heap _
                  rw [e0]
                  refine ⟨?_, N0, rfl⟩
                  show (some (.int (0 : Int32)) : Option Value) = some (.int (F2 p1))
                  rw [F2, if_pos hc2, if_neg hc4, if_pos hc38, if_pos hc40, if_pos hc42, if_neg hc44, if_pos hc46]
              · obtain ⟨fs, hr, hrun, hended, hW, hsame⟩ := X0.leave (v := some (.int (1 : Int32))) (fun h => by rw [Bd.returns] at h; cases h)
                refine ⟨_, _, pre45 _ ?_, hrun, hended, _, _, rfl, ?_, ⟨_, rfl⟩, hW, hsame.mono (by decide) (by decide)⟩
                · show Steps p.tables e below (s₁.setTop (mkF m 79 #[.val (.int p1)] [(.int (983037 : Int32)), (.int p1)])) _
                  refine XS.icmpNo X0.here hx rfl (hb hby d2_79) rfl (flt hc46).2.2.1 ?_
                  show Steps p.tables e below (s₁.setTop (mkF m 82 #[.val (.int p1)] [])) _
                  refine XS.iconst X0.here hx rfl (hb hby d2_82) ?_
                  show Steps p.tables e below (s₁.setTop (mkF m 83 #[.val (.int p1)] [(.int (1 : Int32))])) _
                  exact retN X0 hx (t := .boolean) Bd.returns (by simp) (hb hby d2_83) hr
                · show Q2 Z p1 h0 n0 _ s₁.heap _
                  rw [e0]
                  refine ⟨?_, N0, rfl⟩
                  show (some (.int (1 : Int32)) : Option Value) = some (.int (F2 p1))
                  rw [F2, if_pos hc2, if_neg hc4, if_pos hc38, if_pos hc40, if_pos hc42, if_neg hc44, if_neg hc46]
          · have pre47 : ∀ t, Steps p.tables e below (s₁.setTop (mkF m 52 #[.val (.int p1)] [(.int (917503 : Int32)), (.int p1)])) t → Steps p.tables e below (s₁.setTop (entryFrame m #[(.int p1)] 1)) t := fun t kt => by
              refine pre41 t ?_
              show Steps p.tables e below (s₁.setTop (mkF m 46 #[.val (.int p1)] [(.int (65536 : Int32)), (.int p1)])) _
              refine XS.icmpNo X0.here hx rfl (hb hby d2_46) rfl (flt hc42).1 ?_
              show Steps p.tables e below (s₁.setTop (mkF m 49 #[.val (.int p1)] [])) _
              refine XS.iloadN X0.here hx rfl (hb hby d2_49) rfl ?_
              show Steps p.tables e below (s₁.setTop (mkF m 50 #[.val (.int p1)] [(.int p1)])) _
              refine X0.ldcInt hx hown (mvT hZ (hw _ (List.mem_of_getElem? (i := 21) rfl))) (g := (mkF m 50 #[.val (.int p1)] [(.int p1)])) rfl (hb hby d2_50) _ ?_
              exact kt
            by_cases hc48 : (917503 : Int32) < p1
            · have pre49 : ∀ t, Steps p.tables e below (s₁.setTop (mkF m 73 #[.val (.int p1)] [(.int (921600 : Int32)), (.int p1)])) t → Steps p.tables e below (s₁.setTop (entryFrame m #[(.int p1)] 1)) t := fun t kt => by
                refine pre47 t ?_
                show Steps p.tables e below (s₁.setTop (mkF m 52 #[.val (.int p1)] [(.int (917503 : Int32)), (.int p1)])) _
                refine XS.icmpYes X0.here hx rfl (pc0 := 52) (pc' := 70) rfl (hb hby d2_52) rfl (tlt hc48).2.2.1 (by decide) (by decide) ?_
                show Steps p.tables e below (s₁.setTop (mkF m 70 #[.val (.int p1)] [])) _
                refine XS.iloadN X0.here hx rfl (hb hby d2_70) rfl ?_
                show Steps p.tables e below (s₁.setTop (mkF m 71 #[.val (.int p1)] [(.int p1)])) _
                refine X0.ldcInt hx hown (mvT hZ (hw _ (List.mem_of_getElem? (i := 15) rfl))) (g := (mkF m 71 #[.val (.int p1)] [(.int p1)])) rfl (hb hby d2_71) _ ?_
                exact kt
              by_cases hc50 : p1 < (921600 : Int32)
              · obtain ⟨fs, hr, hrun, hended, hW, hsame⟩ := X0.leave (v := some (.int (0 : Int32))) (fun h => by rw [Bd.returns] at h; cases h)
                refine ⟨_, _, pre49 _ ?_, hrun, hended, _, _, rfl, ?_, ⟨_, rfl⟩, hW, hsame.mono (by decide) (by decide)⟩
                · show Steps p.tables e below (s₁.setTop (mkF m 73 #[.val (.int p1)] [(.int (921600 : Int32)), (.int p1)])) _
                  refine XS.icmpYes X0.here hx rfl (pc0 := 73) (pc' := 84) rfl (hb hby d2_73) rfl (tlt hc50).1 (by decide) (by decide) ?_
                  show Steps p.tables e below (s₁.setTop (mkF m 84 #[.val (.int p1)] [])) _
                  refine XS.iconst X0.here hx rfl (hb hby d2_84) ?_
                  show Steps p.tables e below (s₁.setTop (mkF m 85 #[.val (.int p1)] [(.int (0 : Int32))])) _
                  exact retN X0 hx (t := .boolean) Bd.returns (by simp) (hb hby d2_85) hr
                · show Q2 Z p1 h0 n0 _ s₁.heap _
                  rw [e0]
                  refine ⟨?_, N0, rfl⟩
                  show (some (.int (0 : Int32)) : Option Value) = some (.int (F2 p1))
                  rw [F2, if_pos hc2, if_neg hc4, if_pos hc38, if_pos hc40, if_neg hc42, if_pos hc48, if_pos hc50]
              · have pre51 : ∀ t, Steps p.tables e below (s₁.setTop (mkF m 79 #[.val (.int p1)] [(.int (983037 : Int32)), (.int p1)])) t → Steps p.tables e below (s₁.setTop (entryFrame m #[(.int p1)] 1)) t := fun t kt => by
                  refine pre49 t ?_
                  show Steps p.tables e below (s₁.setTop (mkF m 73 #[.val (.int p1)] [(.int (921600 : Int32)), (.int p1)])) _
                  refine XS.icmpNo X0.here hx rfl (hb hby d2_73) rfl (flt hc50).1 ?_
                  show Steps p.tables e below (s₁.setTop (mkF m 76 #[.val (.int p1)] [])) _
                  refine XS.iloadN X0.here hx rfl (hb hby d2_76) rfl ?_
                  show Steps p.tables e below (s₁.setTop (mkF m 77 #[.val (.int p1)] [(.int p1)])) _
                  refine X0.ldcInt hx hown (mvT hZ (hw _ (List.mem_of_getElem? (i := 25) rfl))) (g := (mkF m 77 #[.val (.int p1)] [(.int p1)])) rfl (hb hby d2_77) _ ?_
                  exact kt
                by_cases hc52 : (983037 : Int32) < p1
                · obtain ⟨fs, hr, hrun, hended, hW, hsame⟩ := X0.leave (v := some (.int (0 : Int32))) (fun h => by rw [Bd.returns] at h; cases h)
                  refine ⟨_, _, pre51 _ ?_, hrun, hended, _, _, rfl, ?_, ⟨_, rfl⟩, hW, hsame.mono (by decide) (by decide)⟩
                  · show Steps p.tables e below (s₁.setTop (mkF m 79 #[.val (.int p1)] [(.int (983037 : Int32)), (.int p1)])) _
                    refine XS.icmpYes X0.here hx rfl (pc0 := 79) (pc' := 84) rfl (hb hby d2_79) rfl (tlt hc52).2.2.1 (by decide) (by decide) ?_
                    show Steps p.tables e below (s₁.setTop (mkF m 84 #[.val (.int p1)] [])) _
                    refine XS.iconst X0.here hx rfl (hb hby d2_84) ?_
                    show Steps p.tables e below (s₁.setTop (mkF m 85 #[.val (.int p1)] [(.int (0 : Int32))])) _
                    exact retN X0 hx (t := .boolean) Bd.returns (by simp) (hb hby d2_85) hr
                  · show Q2 Z p1 h0 n0 _ s₁.heap _
                    rw [e0]
                    refine ⟨?_, N0, rfl⟩
                    show (some (.int (0 : Int32)) : Option Value) = some (.int (F2 p1))
                    rw [F2, if_pos hc2, if_neg hc4, if_pos hc38, if_pos hc40, if_neg hc42, if_pos hc48, if_neg hc50, if_pos hc52]
                · obtain ⟨fs, hr, hrun, hended, hW, hsame⟩ := X0.leave (v := some (.int (1 : Int32))) (fun h => by rw [Bd.returns] at h; cases h)
                  refine ⟨_, _, pre51 _ ?_, hrun, hended, _, _, rfl, ?_, ⟨_, rfl⟩, hW, hsame.mono (by decide) (by decide)⟩
                  · show Steps p.tables e below (s₁.setTop (mkF m 79 #[.val (.int p1)] [(.int (983037 : Int32)), (.int p1)])) _
                    refine XS.icmpNo X0.here hx rfl (hb hby d2_79) rfl (flt hc52).2.2.1 ?_
                    show Steps p.tables e below (s₁.setTop (mkF m 82 #[.val (.int p1)] [])) _
                    refine XS.iconst X0.here hx rfl (hb hby d2_82) ?_
                    show Steps p.tables e below (s₁.setTop (mkF m 83 #[.val (.int p1)] [(.int (1 : Int32))])) _
                    exact retN X0 hx (t := .boolean) Bd.returns (by simp) (hb hby d2_83) hr
                  · show Q2 Z p1 h0 n0 _ s₁.heap _
                    rw [e0]
                    refine ⟨?_, N0, rfl⟩
                    show (some (.int (1 : Int32)) : Option Value) = some (.int (F2 p1))
                    rw [F2, if_pos hc2, if_neg hc4, if_pos hc38, if_pos hc40, if_neg hc42, if_pos hc48, if_neg hc50, if_neg hc52]
            · have pre53 : ∀ t, Steps p.tables e below (s₁.setTop (mkF m 61 #[.val (.int p1)] [(.int (65533 : Int32)), (.int (p1 &&& (65535 : Int32)))])) t → Steps p.tables e below (s₁.setTop (entryFrame m #[(.int p1)] 1)) t := fun t kt => by
                refine pre47 t ?_
                show Steps p.tables e below (s₁.setTop (mkF m 52 #[.val (.int p1)] [(.int (917503 : Int32)), (.int p1)])) _
                refine XS.icmpNo X0.here hx rfl (hb hby d2_52) rfl (flt hc48).2.2.1 ?_
                show Steps p.tables e below (s₁.setTop (mkF m 55 #[.val (.int p1)] [])) _
                refine XS.iloadN X0.here hx rfl (hb hby d2_55) rfl ?_
                show Steps p.tables e below (s₁.setTop (mkF m 56 #[.val (.int p1)] [(.int p1)])) _
                refine X0.ldcInt hx hown (mvT hZ (hw _ (List.mem_of_getElem? (i := 22) rfl))) (g := (mkF m 56 #[.val (.int p1)] [(.int p1)])) rfl (hb hby d2_56) _ ?_
                show Steps p.tables e below (s₁.setTop (mkF m 58 #[.val (.int p1)] [(.int (65535 : Int32)), (.int p1)])) _
                refine XS.iand X0.here hx rfl (hb hby d2_58) rfl ?_
                show Steps p.tables e below (s₁.setTop (mkF m 59 #[.val (.int p1)] [(.int (p1 &&& (65535 : Int32)))])) _
                refine X0.ldcInt hx hown (mvT hZ (hw _ (List.mem_of_getElem? (i := 23) rfl))) (g := (mkF m 59 #[.val (.int p1)] [(.int (p1 &&& (65535 : Int32)))])) rfl (hb hby d2_59) _ ?_
                exact kt
              by_cases hc54 : (65533 : Int32) < (p1 &&& (65535 : Int32))
              · obtain ⟨fs, hr, hrun, hended, hW, hsame⟩ := X0.leave (v := some (.int (0 : Int32))) (fun h => by rw [Bd.returns] at h; cases h)
                refine ⟨_, _, pre53 _ ?_, hrun, hended, _, _, rfl, ?_, ⟨_, rfl⟩, hW, hsame.mono (by decide) (by decide)⟩
                · show Steps p.tables e below (s₁.setTop (mkF m 61 #[.val (.int p1)] [(.int (65533 : Int32)), (.int (p1 &&& (65535 : Int32)))])) _
                  refine XS.icmpYes X0.here hx rfl (pc0 := 61) (pc' := 68) rfl (hb hby d2_61) rfl (tlt hc54).2.2.1 (by decide) (by decide) ?_
                  show Steps p.tables e below (s₁.setTop (mkF m 68 #[.val (.int p1)] [])) _
                  refine XS.iconst X0.here hx rfl (hb hby d2_68) ?_
                  show Steps p.tables e below (s₁.setTop (mkF m 69 #[.val (.int p1)] [(.int (0 : Int32))])) _
                  exact retN X0 hx (t := .boolean) Bd.returns (by simp) (hb hby d2_69) hr
                · show Q2 Z p1 h0 n0 _ s₁.heap _
                  rw [e0]
                  refine ⟨?_, N0, rfl⟩
                  show (some (.int (0 : Int32)) : Option Value) = some (.int (F2 p1))
                  rw [F2, if_pos hc2, if_neg hc4, if_pos hc38, if_pos hc40, if_neg hc42, if_neg hc48, if_pos hc54]
              · obtain ⟨fs, hr, hrun, hended, hW, hsame⟩ := X0.leave (v := some (.int (1 : Int32))) (fun h => by rw [Bd.returns] at h; cases h)
                refine ⟨_, _, pre53 _ ?_, hrun, hended, _, _, rfl, ?_, ⟨_, rfl⟩, hW, hsame.mono (by decide) (by decide)⟩
                · show Steps p.tables e below (s₁.setTop (mkF m 61 #[.val (.int p1)] [(.int (65533 : Int32)), (.int (p1 &&& (65535 : Int32)))])) _
                  refine XS.icmpNo X0.here hx rfl (hb hby d2_61) rfl (flt hc54).2.2.1 ?_
                  show Steps p.tables e below (s₁.setTop (mkF m 64 #[.val (.int p1)] [])) _
                  refine XS.iconst X0.here hx rfl (hb hby d2_64) ?_
                  show Steps p.tables e below (s₁.setTop (mkF m 65 #[.val (.int p1)] [(.int (1 : Int32))])) _
                  refine XS.goto X0.here hx rfl (pc0 := 65) (pc' := 69) rfl (hb hby d2_65) (by decide) (by decide) ?_
                  show Steps p.tables e below (s₁.setTop (mkF m 69 #[.val (.int p1)] [(.int (1 : Int32))])) _
                  exact retN X0 hx (t := .boolean) Bd.returns (by simp) (hb hby d2_69) hr
                · show Q2 Z p1 h0 n0 _ s₁.heap _
                  rw [e0]
                  refine ⟨?_, N0, rfl⟩
                  show (some (.int (1 : Int32)) : Option Value) = some (.int (F2 p1))
                  rw [F2, if_pos hc2, if_neg hc4, if_pos hc38, if_pos hc40, if_neg hc42, if_neg hc48, if_neg hc54]
        · have pre55 : ∀ t, Steps p.tables e below (s₁.setTop (mkF m 38 #[.val (.int p1)] [(.int (65519 : Int32)), (.int p1)])) t → Steps p.tables e below (s₁.setTop (entryFrame m #[(.int p1)] 1)) t := fun t kt => by
            refine pre39 t ?_
            show Steps p.tables e below (s₁.setTop (mkF m 32 #[.val (.int p1)] [(.int (65008 : Int32)), (.int p1)])) _
            refine XS.icmpNo X0.here hx rfl (hb hby d2_32) rfl (flt hc40).1 ?_
            show Steps p.tables e below (s₁.setTop (mkF m 35 #[.val (.int p1)] [])) _
            refine XS.iloadN X0.here hx rfl (hb hby d2_35) rfl ?_
            show Steps p.tables e below (s₁.setTop (mkF m 36 #[.val (.int p1)] [(.int p1)])) _
            refine X0.ldcInt hx hown (mvT hZ (hw _ (List.mem_of_getElem? (i := 20) rfl))) (g := (mkF m 36 #[.val (.int p1)] [(.int p1)])) rfl (hb hby d2_36) _ ?_
            exact kt
          by_cases hc56 : (65519 : Int32) < p1
          · have pre57 : ∀ t, Steps p.tables e below (s₁.setTop (mkF m 46 #[.val (.int p1)] [(.int (65536 : Int32)), (.int p1)])) t → Steps p.tables e below (s₁.setTop (entryFrame m #[(.int p1)] 1)) t := fun t kt => by
              refine pre55 t ?_
              show Steps p.tables e below (s₁.setTop (mkF m 38 #[.val (.int p1)] [(.int (65519 : Int32)), (.int p1)])) _
              refine XS.icmpYes X0.here hx rfl (pc0 := 38) (pc' := 43) rfl (hb hby d2_38) rfl (tlt hc56).2.2.1 (by decide) (by decide) ?_
              show Steps p.tables e below (s₁.setTop (mkF m 43 #[.val (.int p1)] [])) _
              refine XS.iloadN X0.here hx rfl (hb hby d2_43) rfl ?_
              show Steps p.tables e below (s₁.setTop (mkF m 44 #[.val (.int p1)] [(.int p1)])) _
              refine X0.ldcInt hx hown (mvT hZ (hw _ (List.mem_of_getElem? (i := 14) rfl))) (g := (mkF m 44 #[.val (.int p1)] [(.int p1)])) rfl (hb hby d2_44) _ ?_
              exact kt
            by_cases hc58 : p1 < (65536 : Int32)
            · have pre59 : ∀ t, Steps p.tables e below (s₁.setTop (mkF m 73 #[.val (.int p1)] [(.int (921600 : Int32)), (.int p1)])) t → Steps p.tables e below (s₁.setTop (entryFrame m #[(.int p1)] 1)) t := fun t kt => by
                refine pre57 t ?_
                show Steps p.tables e below (s₁.setTop (mkF m 46 #[.val (.int p1)] [(.int (65536 : Int32)), (.int p1)])) _
                refine XS.icmpYes X0.here hx rfl (pc0 := 46) (pc' := 70) rfl (hb hby d2_46) rfl (tlt hc58).1 (by decide) (by decide) ?_
                show Steps p.tables e below (s₁.setTop (mkF m 70 #[.val (.int p1)] [])) _
                refine XS.iloadN X0.here hx rfl (hb hby d2_70) rfl ?_
                show Steps p.tables e below (s₁.setTop (mkF m 71 #[.val (.int p1)] [(.int p1)])) _
                refine X0.ldcInt hx hown (mvT hZ (hw _ (List.mem_of_getElem? (i := 15) rfl))) (g := (mkF m 71 #[.val (.int p1)] [(.int p1)])) rfl (hb hby d2_71) _ ?_
                exact kt
              by_cases hc60 : p1 < (921600 : Int32)
              · obtain ⟨fs, hr, hrun, hended, hW, hsame⟩ := X0.leave (v := some (.int (0 : Int32))) (fun h => by rw [Bd.returns] at h; cases h)
                refine ⟨_, _, pre59 _ ?_, hrun, hended, _, _, rfl, ?_, ⟨_, rfl⟩, hW, hsame.mono (by decide) (by decide)⟩
                · show Steps p.tables e below (s₁.setTop (mkF m 73 #[.val (.int p1)] [(.int (921600 : Int32)), (.int p1)])) _
                  refine XS.icmpYes X0.here hx rfl (pc0 := 73) (pc' := 84) rfl (hb hby d2_73) rfl (tlt hc60).1 (by decide) (by decide) ?_
                  show Steps p.tables e below (s₁.setTop (mkF m 84 #[.val (.int p1)] [])) _
                  refine XS.iconst X0.here hx rfl (hb hby d2_84) ?_
                  show Steps p.tables e below (s₁.setTop (mkF m 85 #[.val (.int p1)] [(.int (0 : Int32))])) _
                  exact retN X0 hx (t := .boolean) Bd.returns (by simp) (hb hby d2_85) hr
                · show Q2 Z p1 h0 n0 _ s₁.heap _
                  rw [e0]
                  refine ⟨?_, N0, rfl⟩
                  show (some (.int (0 : Int32)) : Option Value) = some (.int (F2 p1))
                  rw [F2, if_pos hc2, if_neg hc4, if_pos hc38, if_neg hc40, if_pos hc56, if_pos hc58, if_pos hc60]
              · have pre61 : ∀ t, Steps p.tables e below (s₁.setTop (mkF m 79 #[.val (.int p1)] [(.int (983037 : Int32)), (.int p1)])) t → Steps p.tables e below (s₁.setTop (entryFrame m #[(.int p1)] 1)) t := fun t kt => by
                  refine pre59 t ?_
                  show Steps p.tables e below (s₁.setTop (mkF m 73 #[.val (.int p1)] [(.int (921600 : Int32)), (.int p1)])) _
                  refine XS.icmpNo X0.here hx rfl (hb hby d2_73) rfl (flt hc60).1 ?_
                  show Steps p.tables e below (s₁.setTop (mkF m 76 #[.val (.int p1)] [])) _
                  refine XS.iloadN X0.here hx rfl (hb hby d2_76) rfl ?_
                  show Steps p.tables e below (s₁.setTop (mkF m 77 #[.val (.int p1)] [(.int p1)])) _
                  refine X0.ldcInt hx hown (mvT hZ (hw _ (List.mem_of_getElem? (i := 25) rfl))) (g := (mkF m 77 #[.val (.int p1)] [(.int p1)])) rfl (hb hby d2_77) _ ?_
                  exact kt
                by_cases hc62 : (983037 : Int32) < p1
                · obtain ⟨fs, hr, hrun, hended, hW, hsame⟩ := X0.leave (v := some (.int (0 : Int32))) (fun h => by rw [Bd.returns] at h; cases h)
                  refine ⟨_, _, pre61 _ ?_, hrun, hended, _, _, rfl, ?_, ⟨_, rfl⟩, hW, hsame.mono (by decide) (by decide)⟩
                  · show Steps p.tables e below (s₁.setTop (mkF m 79 #[.val (.int p1)] [(.int (983037 : Int32)), (.int p1)])) _
                    refine XS.icmpYes X0.here hx rfl (pc0 := 79) (pc' := 84) rfl (hb hby d2_79) rfl (tlt hc62).2.2.1 (by decide) (by decide) ?_
                    show Steps p.tables e below (s₁.setTop (mkF m 84 #[.val (.int p1)] [])) _
                    refine XS.iconst X0.here hx rfl (hb hby d2_84) ?_
                    show Steps p.tables e below (s₁.setTop (mkF m 85 #[.val (.int p1)] [(.int (0 : Int32))])) _
                    exact retN X0 hx (t := .boolean) Bd.returns (by simp) (hb hby d2_85) hr
                  · show Q2 Z p1 h0 n0 _ s₁.heap _
                    rw [e0]
                    refine ⟨?_, N0, rfl⟩
                    show (some (.int (0 : Int32)) : Option Value) = some (.int (F2 p1))
                    rw [F2, if_pos hc2, if_neg hc4, if_pos hc38, if_neg hc40, if_pos hc56, if_pos hc58, if_neg hc60, if_pos hc62]
                · obtain ⟨fs, hr, hrun, hended, hW, hsame⟩ := X0.leave (v := some (.int (1 : Int32))) (fun h => by rw [Bd.returns] at h; cases h)
                  refine ⟨_, _, pre61 _ ?_, hrun, hended, _, _, rfl, ?_, ⟨_, rfl⟩, hW, hsame.mono (by decide) (by decide)⟩
                  · show Steps p.tables e below (s₁.setTop (mkF m 79 #[.val (.int p1)] [(.int (983037 : Int32)), (.int p1)])) _
                    refine XS.icmpNo X0.here hx rfl (hb hby d2_79) rfl (flt hc62).2.2.1 ?_
                    show Steps p.tables e below (s₁.setTop (mkF m 82 #[.val (.int p1)] [])) _
                    refine XS.iconst X0.here hx rfl (hb hby d2_82) ?_
                    show Steps p.tables e below (s₁.setTop (mkF m 83 #[.val (.int p1)] [(.int (1 : Int32))])) _
                    exact retN X0 hx (t := .boolean) Bd.returns (by simp) (hb hby d2_83) hr
                  · show Q2 Z p1 h0 n0 _ s₁.heap _
                    rw [e0]
                    refine ⟨?_, N0, rfl⟩
                    show (some (.int (1 : Int32)) : Option Value) = some (.int (F2 p1))
                    rw [F2, if_pos hc2, if_neg hc4, if_pos hc38, if_neg hc40, if_pos hc56, if_pos hc58, if_neg hc60, if_neg hc62]
            · have pre63 : ∀ t, Steps p.tables e below (s₁.setTop (mkF m 52 #[.val (.int p1)] [(.int (917503 : Int32)), (.int p1)])) t → Steps p.tables e below (s₁.setTop (entryFrame m #[(.int p1)] 1)) t := fun t kt => by
                refine pre57 t ?_
                show Steps p.tables e below (s₁.setTop (mkF m 46 #[.val (.int p1)] [(.int (65536 : Int32)), (.int p1)])) _
                refine XS.icmpNo X0.here hx rfl (hb hby d2_46) rfl (flt hc58).1 ?_
                show Steps p.tables e below (s₁.setTop (mkF m 49 #[.val (.int p1)] [])) _
                refine XS.iloadN X0.here hx rfl (hb hby d2_49) rfl ?_
                show Steps p.tables e below (s₁.setTop (mkF m 50 #[.val (.int p1)] [(.int p1)])) _
                refine X0.ldcInt hx hown (mvT hZ (hw _ (List.mem_of_getElem? (i := 21) rfl))) (g := (mkF m 50 #[.val (.int p1)] [(.int p1)])) rfl (hb hby d2_50) _ ?_
                exact kt
              by_cases hc64 : (917503 : Int32) < p1
              · have pre65 : ∀ t, Steps p.tables e below (s₁.setTop (mkF m 73 #[.val (.int p1)] [(.int (921600 : Int32)), (.int p1)])) t → Steps p.tables e below (s₁.setTop (entryFrame m #[(.int p1)] 1)) t := fun t kt => by
                  refine pre63 t ?_
                  show Steps p.tables e below (s₁.setTop (mkF m 52 #[.val (.int p1)] [(.int (917503 : Int32)), (.int p1)])) _
                  refine XS.icmpYes X0.here hx rfl (pc0 := 52) (pc' := 70) rfl (hb hby d2_52) rfl (tlt hc64).2.2.1 (by decide) (by decide) ?_
                  show Steps p.tables e below (s₁.setTop (mkF m 70 #[.val (.int p1)] [])) _
                  refine XS.iloadN X0.here hx rfl (hb hby d2_70) rfl ?_
                  show Steps p.tables e below (s₁.setTop (mkF m 71 #[.val (.int p1)] [(.int p1)])) _
                  refine X0.ldcInt hx hown (mvT hZ (hw _ (List.mem_of_getElem? (i := 15) rfl))) (g := (mkF m 71 #[.val (.int p1)] [(.int p1)])) rfl (hb hby d2_71) _ ?_
                  exact kt
                by_cases hc66 : p1 < (921600 : Int32)
                · obtain ⟨fs, hr, hrun, hended, hW, hsame⟩ := X0.leave (v := some (.int (0 : Int32))) (fun h => by rw [Bd.returns] at h; cases h)
                  refine ⟨_, _, pre65 _ ?_, hrun, hended, _, _, rfl, ?_, ⟨_, rfl⟩, hW, hsame.mono (by decide) (by decide)⟩
                  · show Steps p.tables e below (s₁.setTop (mkF m 73 #[.val (.int p1)] [(.int (921600 : Int32)), (.int p1)])) _
                    refine XS.icmpYes X0.here hx rfl (pc0 := 73) (pc' := 84) rfl (hb hby d2_73) rfl (tlt hc66).1 (by decide) (by decide) ?_
                    show Steps p.tables e below (s₁.setTop (mkF m 84 #[.val (.int p1)] [])) _
                    refine XS.iconst X0.here hx rfl (hb hby d2_84) ?_
                    show Steps p.tables e below (s₁.setTop (mkF m 85 #[.val (.int p1)] [(.int (0 : Int32))])) _
                    exact retN X0 hx (t := .boolean) Bd.returns (by simp) (hb hby d2_85) hr
                  · show Q2 Z p1 h0 n0 _ s₁.heap _
                    rw [e0]
                    refine ⟨?_, N0, rfl⟩
                    show (some (.int (0 : Int32)) : Option Value) = some (.int (F2 p1))
                    rw [F2, if_pos hc2, if_neg hc4, if_pos hc38, if_neg hc40, if_pos hc56, if_neg hc58, if_pos hc64, if_pos hc66]
                · have pre67 : ∀ t, Steps p.tables e below (s₁.setTop (mkF m 79 #[.val (.int p1)] [(.int (983037 : Int32)), (.int p1)])) t → Steps p.tables e below (s₁.setTop (entryFrame m #[(.int p1)] 1)) t := fun t kt => by
                    refine pre65 t ?_
                    show Steps p.tables e below (s₁.setTop (mkF m 73 #[.val (.int p1)] [(.int (921600 : Int32)), (.int p1)])) _
                    refine XS.icmpNo X0.here hx rfl (hb hby d2_73) rfl (flt hc66).1 ?_
                    show Steps p.tables e below (s₁.setTop (mkF m 76 #[.val (.int p1)] [])) _
                    refine XS.iloadN X0.here hx rfl (hb hby d2_76) rfl ?_
                    show Steps p.tables e below (s₁.setTop (mkF m 77 #[.val (.int p1)] [(.int p1)])) _
                    refine X0.ldcInt hx hown (mvT hZ (hw _ (List.mem_of_getElem? (i := 25) rfl))) (g := (mkF m 77 #[.val (.int p1)] [(.int p1)])) rfl (hb hby d2_77) _ ?_
                    exact kt
                  by_cases hc68 : (983037 : Int32) < p1
                  · obtain ⟨fs, hr, hrun, hended, hW, hsame⟩ := X0.leave (v := some (.int (0 : Int32))) (fun h => by rw [Bd.returns] at h; cases h)
                    refine ⟨_, _, pre67 _ ?_, hrun, hended, _, _, rfl, ?_, ⟨_, rfl⟩, hW, hsame.mono (by decide) (by decide)⟩
                    · show Steps p.tables e below (s₁.setTop (mkF m 79 #[.val (.int p1)] [(.int (983037 : Int32)), (.int p1)])) _
                      refine XS.icmpYes X0.here hx rfl (pc0 := 79) (pc' := 84) rfl (hb hby d2_79) rfl (tlt hc68).2.2.1 (by decide) (by decide) ?_
                      show Steps p.tables e below (s₁.setTop (mkF m 84 #[.val (.int p1)] [])) _
                      refine XS.iconst X0.here hx rfl (hb hby d2_84) ?_
                      show Steps p.tables e below (s₁.setTop (mkF m 85 #[.val (.int p1)] [(.int (0 : Int32))])) _
                      exact retN X0 hx (t := .boolean) Bd.returns (by simp) (hb hby d2_85) hr
                    · show Q2 Z p1 h0 n0 _ s₁.heap _
                      rw [e0]
                      refine ⟨?_, N0, rfl⟩
                      show (some (.int (0 : Int32)) : Option Value) = some (.int (F2 p1))
                      rw [F2, if_pos hc2, if_neg hc4, if_pos hc38, if_neg hc40, if_pos hc56, if_neg hc58, if_pos hc64, if_neg hc66, if_pos hc68]
                  · obtain ⟨fs, hr, hrun, hended, hW, hsame⟩ := X0.leave (v := some (.int (1 : Int32))) (fun h => by rw [Bd.returns] at h; cases h)
                    refine ⟨_, _, pre67 _ ?_, hrun, hended, _, _, rfl, ?_, ⟨_, rfl⟩, hW, hsame.mono (by decide) (by decide)⟩
                    · show Steps p.tables e below (s₁.setTop (mkF m 79 #[.val (.int p1)] [(.int (983037 : Int32)), (.int p1)])) _
                      refine XS.icmpNo X0.here hx rfl (hb hby d2_79) rfl (flt hc68).2.2.1 ?_
                      show Steps p.tables e below (s₁.setTop (mkF m 82 #[.val (.int p1)] [])) _
                      refine XS.iconst X0.here hx rfl (hb hby d2_82) ?_
                      show Steps p.tables e below (s₁.setTop (mkF m 83 #[.val (.int p1)] [(.int (1 : Int32))])) _
                      exact retN X0 hx (t := .boolean) Bd.returns (by simp) (hb hby d2_83) hr
                    · show Q2 Z p1 h0 n0 _ s₁.heap _
                      rw [e0]
                      refine ⟨?_, N0, rfl⟩
                      show (some (.int (1 : Int32)) : Option Value) = some (.int (F2 p1))
                      rw [F2, if_pos hc2, if_neg hc4, if_pos hc38, if_neg hc40, if_pos hc56, if_neg hc58, if_pos hc64, if_neg hc66, if_neg hc68]
              · have pre69 : ∀ t, Steps p.tables e below (s₁.setTop (mkF m 61 #[.val (.int p1)] [(.int (65533 : Int32)), (.int (p1 &&& (65535 : Int32)))])) t → Steps p.tables e below (s₁.setTop (entryFrame m #[(.int p1)] 1)) t := fun t kt => by
                  refine pre63 t ?_
                  show Steps p.tables e below (s₁.setTop (mkF m 52 #[.val (.int p1)] [(.int (917503 : Int32)), (.int p1)])) _
                  refine XS.icmpNo X0.here hx rfl (hb hby d2_52) rfl (flt hc64).2.2.1 ?_
                  show Steps p.tables e below (s₁.setTop (mkF m 55 #[.val (.int p1)] [])) _
                  refine XS.iloadN X0.here hx rfl (hb hby d2_55) rfl ?_
                  show Steps p.tables e below (s₁.setTop (mkF m 56 #[.val (.int p1)] [(.int p1)])) _
                  refine X0.ldcInt hx hown (mvT hZ (hw _ (List.mem_of_getElem? (i := 22) rfl))) (g := (mkF m 56 #[.val (.int p1)] [(.int p1)])) rfl (hb hby d2_56) _ ?_
                  show Steps p.tables e below (s₁.setTop (mkF m 58 #[.val (.int p1)] [(.int (65535 : Int32)), (.int p1)])) _
                  refine XS.iand X0.here hx rfl (hb hby d2_58) rfl ?_
                  show Steps p.tables e below (s₁.setTop (mkF m 59 #[.val (.int p1)] [(.int (p1 &&& (65535 : Int32)))])) _
                  refine X0.ldcInt hx hown (mvT hZ (hw _ (List.mem_of_getElem? (i := 23) rfl))) (g := (mkF m 59 #[.val (.int p1)] [(.int (p1 &&& (65535 : Int32)))])) rfl (hb hby d2_59) _ ?_
                  exact kt
                by_cases hc70 : (65533 : Int32) < (p1 &&& (65535 : Int32))
                · obtain ⟨fs, hr, hrun, hended, hW, hsame⟩ := X0.leave (v := some (.int (0 : Int32))) (fun h => by rw [Bd.returns] at h; cases h)
                  refine ⟨_, _, pre69 _ ?_, hrun, hended, _, _, rfl, ?_, ⟨_, rfl⟩, hW, hsame.mono (by decide) (by decide)⟩
                  · show Steps p.tables e below (s₁.setTop (mkF m 61 #[.val (.int p1)] [(.int (65533 : Int32)), (.int (p1 &&& (65535 : Int32)))])) _
                    refine XS.icmpYes X0.here hx rfl (pc0 := 61) (pc' := 68) rfl (hb hby d2_61) rfl (tlt hc70).2.2.1 (by decide) (by decide) ?_
                    show Steps p.tables e below (s₁.setTop (mkF m 68 #[.val (.int p1)] [])) _
                    refine XS.iconst X0.here hx rfl (hb hby d2_68) ?_
                    show Steps p.tables e below (s₁.setTop (mkF m 69 #[.val (.int p1)] [(.int (0 : Int32))])) _
                    exact retN X0 hx (t := .boolean) Bd.returns (by simp) (hb hby d2_69) hr
                  · show Q2 Z p1 h0 n0 _ s₁.heap _
                    rw [e0]
                    refine ⟨?_, N0, rfl⟩
                    show (some (.int (0 : Int32)) : Option Value) = some (.int (F2 p1))
                    rw [F2, if_pos hc2, if_neg hc4, if_pos hc38, if_neg hc40, if_pos hc56, if_neg hc58, if_neg hc64, if_pos hc70]
                · obtain ⟨fs, hr, hrun, hended, hW, hsame⟩ := X0.leave (v := some (.int (1 : Int32))) (fun h => by rw [Bd.returns] at h; cases h)
                  refine ⟨_, _, pre69 _ ?_, hrun, hended, _, _, rfl, ?_, ⟨_, rfl⟩, hW, hsame.mono (by decide) (by decide)⟩
                  · show Steps p.tables e below (s₁.setTop (mkF m 61 #[.val (.int p1)] [(.int (65533 : Int32)), (.int (p1 &&& (65535 : Int32)))])) _
                    refine XS.icmpNo X0.here hx rfl (hb hby d2_61) rfl (flt hc70).2.2.1 ?_
                    show Steps p.tables e below (s₁.setTop (mkF m 64 #[.val (.int p1)] [])) _
                    refine XS.iconst X0.here hx rfl (hb hby d2_64) ?_
                    show Steps p.tables e below (s₁.setTop (mkF m 65 #[.val (.int p1)] [(.int (1 : Int32))])) _
                    refine XS.goto X0.here hx rfl (pc0 := 65) (pc' := 69) rfl (hb hby d2_65) (by decide) (by decide) ?_
                    show Steps p.tables e below (s₁.setTop (mkF m 69 #[.val (.int p1)] [(.int (1 : Int32))])) _
                    exact retN X0 hx (t := .boolean) Bd.returns (by simp) (hb hby d2_69) hr
                  · show Q2 Z p1 h0 n0 _ s₁.heap _
                    rw [e0]
                    refine ⟨?_, N0, rfl⟩
                    show (some (.int (1 : Int32)) : Option Value) = some (.int (F2 p1))
                    rw [F2, if_pos hc2, if_neg hc4, if_pos hc38, if_neg hc40, if_pos hc56, if_neg hc58, if_neg hc64, if_neg hc70]
          · obtain ⟨fs, hr, hrun, hended, hW, hsame⟩ := X0.leave (v := some (.int (1 : Int32))) (fun h => by rw [Bd.returns] at h; cases h)
            refine ⟨_, _, pre55 _ ?_, hrun, hended, _, _, rfl, ?_, ⟨_, rfl⟩, hW, hsame.mono (by decide) (by decide)⟩
            · show Steps p.tables e below (s₁.setTop (mkF m 38 #[.val (.int p1)] [(.int (65519 : Int32)), (.int p1)])) _
              refine XS.icmpNo X0.here hx rfl (hb hby d2_38) rfl (flt hc56).2.2.1 ?_
              show Steps p.tables e below (s₁.setTop (mkF m 41 #[.val (.int p1)] [])) _
              refine XS.iconst X0.here hx rfl (hb hby d2_41) ?_
              show Steps p.tables e below (s₁.setTop (mkF m 42 #[.val (.int p1)] [(.int (1 : Int32))])) _
              exact retN X0 hx (t := .boolean) Bd.returns (by simp) (hb hby d2_42) hr
            · show Q2 Z p1 h0 n0 _ s₁.heap _
              rw [e0]
              refine ⟨?_, N0, rfl⟩
              show (some (.int (1 : Int32)) : Option Value) = some (.int (F2 p1))
              rw [F2, if_pos hc2, if_neg hc4, if_pos hc38, if_neg hc40, if_neg hc56]
      · obtain ⟨fs, hr, hrun, hended, hW, hsame⟩ := X0.leave (v := some (.int (1 : Int32))) (fun h => by rw [Bd.returns] at h; cases h)
        refine ⟨_, _, pre37 _ ?_, hrun, hended, _, _, rfl, ?_, ⟨_, rfl⟩, hW, hsame.mono (by decide) (by decide)⟩
        · show Steps p.tables e below (s₁.setTop (mkF m 24 #[.val (.int p1)] [(.int (64975 : Int32)), (.int p1)])) _
          refine XS.icmpNo X0.here hx rfl (hb hby d2_24) rfl (flt hc38).2.2.1 ?_
          show Steps p.tables e below (s₁.setTop (mkF m 27 #[.val (.int p1)] [])) _
          refine XS.iconst X0.here hx rfl (hb hby d2_27) ?_
          show Steps p.tables e below (s₁.setTop (mkF m 28 #[.val (.int p1)] [(.int (1 : Int32))])) _
          exact retN X0 hx (t := .boolean) Bd.returns (by simp) (hb hby d2_28) hr
        · show Q2 Z p1 h0 n0 _ s₁.heap _
          rw [e0]
          refine ⟨?_, N0, rfl⟩
          show (some (.int (1 : Int32)) : Option Value) = some (.int (F2 p1))
          rw [F2, if_pos hc2, if_neg hc4, if_neg hc38]
  · have pre71 : ∀ t, Steps p.tables e below (s₁.setTop (mkF m 10 #[.val (.int p1)] [(.int (55295 : Int32)), (.int p1)])) t → Steps p.tables e below (s₁.setTop (entryFrame m #[(.int p1)] 1)) t := fun t kt => by
      refine pre1 t ?_
      show Steps p.tables e below (s₁.setTop (mkF m 4 #[.val (.int p1)] [(.int (160 : Int32)), (.int p1)])) _
      refine XS.icmpNo X0.here hx rfl (hb hby d2_4) rfl (flt hc2).1 ?_
      show Steps p.tables e below (s₁.setTop (mkF m 7 #[.val (.int p1)] [])) _
      refine XS.iloadN X0.here hx rfl (hb hby d2_7) rfl ?_
      show Steps p.tables e below (s₁.setTop (mkF m 8 #[.val (.int p1)] [(.int p1)])) _
      refine X0.ldcInt hx hown (mvT hZ (hw _ (List.mem_of_getElem? (i := 18) rfl))) (g := (mkF m 8 #[.val (.int p1)] [(.int p1)])) rfl (hb hby d2_8) _ ?_
      exact kt
    by_cases hc72 : (55295 : Int32) < p1
    · have pre73 : ∀ t, Steps p.tables e below (s₁.setTop (mkF m 18 #[.val (.int p1)] [(.int (63744 : Int32)), (.int p1)])) t → Steps p.tables e below (s₁.setTop (entryFrame m #[(.int p1)] 1)) t := fun t kt => by
        refine pre71 t ?_
        show Steps p.tables e below (s₁.setTop (mkF m 10 #[.val (.int p1)] [(.int (55295 : Int32)), (.int p1)])) _
        refine XS.icmpYes X0.here hx rfl (pc0 := 10) (pc' := 15) rfl (hb hby d2_10) rfl (tlt hc72).2.2.1 (by decide) (by decide) ?_
        show Steps p.tables e below (s₁.setTop (mkF m 15 #[.val (.int p1)] [])) _
        refine XS.iloadN X0.here hx rfl (hb hby d2_15) rfl ?_
        show Steps p.tables e below (s₁.setTop (mkF m 16 #[.val (.int p1)] [(.int p1)])) _
        refine X0.ldcInt hx hown (mvT hZ (hw _ (List.mem_of_getElem? (i := 12) rfl))) (g := (mkF m 16 #[.val (.int p1)] [(.int p1)])) rfl (hb hby d2_16) _ ?_
        exact kt
      by_cases hc74 : p1 < (63744 : Int32)
      · have pre75 : ∀ t, Steps p.tables e below (s₁.setTop (mkF m 32 #[.val (.int p1)] [(.int (65008 : Int32)), (.int p1)])) t → Steps p.tables e below (s₁.setTop (entryFrame m #[(.int p1)] 1)) t := fun t kt => by
          refine pre73 t ?_
          show Steps p.tables e below (s₁.setTop (mkF m 18 #[.val (.int p1)] [(.int (63744 : Int32)), (.int p1)])) _
          refine XS.icmpYes X0.here hx rfl (pc0 := 18) (pc' := 29) rfl (hb hby d2_18) rfl (tlt hc74).1 (by decide) (by decide) ?_
          show Steps p.tables e below (s₁.setTop (mkF m 29 #[.val (.int p1)] [])) _
          refine XS.iloadN X0.here hx rfl (hb hby d2_29) rfl ?_
          show Steps p.tables e below (s₁.setTop (mkF m 30 #[.val (.int p1)] [(.int p1)])) _
          refine X0.ldcInt hx hown (mvT hZ (hw _ (List.mem_of_getElem? (i := 13) rfl))) (g := (mkF m 30 #[.val (.int p1)] [(.int p1)])) rfl (hb hby d2_30) _ ?_
          exact kt
        by_cases hc76 : p1 < (65008 : Int32)
        · have pre77 : ∀ t, Steps p.tables e below (s₁.setTop (mkF m 46 #[.val (.int p1)] [(.int (65536 : Int32)), (.int p1)])) t → Steps p.tables e below (s₁.setTop (entryFrame m #[(.int p1)] 1)) t := fun t kt => by
            refine pre75 t ?_
            show Steps p.tables e below (s₁.setTop (mkF m 32 #[.val (.int p1)] [(.int (65008 : Int32)), (.int p1)])) _
            refine XS.icmpYes X0.here hx rfl (pc0 := 32) (pc' := 43) rfl (hb hby d2_32) rfl (tlt hc76).1 (by decide) (by decide) ?_
            show Steps p.tables e below (s₁.setTop (mkF m 43 #[.val (.int p1)] [])) _
            refine XS.iloadN X0.here hx rfl (hb hby d2_43) rfl ?_
            show Steps p.tables e below (s₁.setTop (mkF m 44 #[.val (.int p1)] [(.int p1)])) _
            refine X0.ldcInt hx hown (mvT hZ (hw _ (List.mem_of_getElem? (i := 14) rfl))) (g := (mkF m 44 #[.val (.int p1)] [(.int p1)])) rfl (hb hby d2_44) _ ?_
            exact kt
          by_cases hc78 : p1 < (65536 : Int32)
          · have pre79 : ∀ t, Steps p.tables e below (s₁.setTop (mkF m 73 #[.val (.int p1)] [(.int (921600 : Int32)), (.int p1)])) t → Steps p.tables e below (s₁.setTop (entryFrame m #[(.int p1)] 1)) t := fun t kt => by
              refine pre77 t ?_
              show Steps p.tables e below (s₁.setTop (mkF m 46 #[.val (.int p1)] [(.int (65536 : Int32)), (.int p1)])) _
              refine XS.icmpYes X0.here hx rfl (pc0 := 46) (pc' := 70) rfl (hb hby d2_46) rfl (tlt hc78).1 (by decide) (by decide) ?_
              show Steps p.tables e below (s₁.setTop (mkF m 70 #[.val (.int p1)] [])) _
              refine XS.iloadN X0.here hx rfl (hb hby d2_70) rfl ?_
              show Steps p.tables e below (s₁.setTop (mkF m 71 #[.val (.int p1)] [(.int p1)])) _
              refine X0.ldcInt hx hown (mvT hZ (hw _ (List.mem_of_getElem? (i := 15) rfl))) (g := (mkF m 71 #[.val (.int p1)] [(.int p1)])) rfl (hb hby d2_71) _ ?_
              exact kt
            by_cases hc80 : p1 < (921600 : Int32)
            · obtain ⟨fs, hr, hrun, hended, hW, hsame⟩ := X0.leave (v := some (.int (0 : Int32))) (fun h => by rw [Bd.returns] at h; cases h)
              refine ⟨_, _, pre79 _ ?_, hrun, hended, _, _, rfl, ?_, ⟨_, rfl⟩, hW, hsame.mono (by decide) (by decide)⟩
              · show Steps p.tables e below (s₁.setTop (mkF m 73 #[.val (.int p1)] [(.int (921600 : Int32)), (.int p1)])) _
                refine XS.icmpYes X0.here hx rfl (pc0 := 73) (pc' := 84) rfl (hb hby d2_73) rfl (tlt hc80).1 (by decide) (by decide) ?_
                show Steps p.tables e below (s₁.setTop (mkF m 84 #[.val (.int p1)] [])) _
                refine XS.iconst X0.here hx rfl (hb hby d2_84) ?_
                show Steps p.tables e below (s₁.setTop (mkF m 85 #[.val (.int p1)] [(.int (0 : Int32))])) _
                exact retN X0 hx (t := .boolean) Bd.returns (by simp) (hb hby d2_85) hr
              · show Q2 Z p1 h0 n0 _ s₁.heap _
                rw [e0]
                refine ⟨?_, N0, rfl⟩
                show (some (.int (0 : Int32)) : Option Value) = some (.int (F2 p1))
                rw [F2, if_neg hc2, if_pos hc72, if_pos hc74, if_pos hc76, if_pos hc78, if_pos hc80]
            · have pre81 : ∀ t, Steps p.tables e below (s₁.setTop (mkF m 79 #[.val (.int p1)] [(.int (983037 : Int32)), (.int p1)])) t → Steps p.tables e below (s₁.setTop (entryFrame m #[(.int p1)] 1)) t := fun t kt => by
                refine pre79 t ?_
                show Steps p.tables e below (s₁.setTop (mkF m 73 #[.val (.int p1)] [(.int (921600 : Int32)), (.int p1)])) _
                refine XS.icmpNo X0.here hx rfl (hb hby d2_73) rfl (flt hc80).1 ?_
                show Steps p.tables e below (s₁.setTop (mkF m 76 #[.val (.int p1)] [])) _
                refine XS.iloadN X0.here hx rfl (hb hby d2_76) rfl ?_
                show Steps p.tables e below (s₁.setTop (mkF m 77 #[.val (.int p1)] [(.int p1)])) _
                refine X0.ldcInt hx hown (mvT hZ (hw _ (List.mem_of_getElem? (i := 25) rfl))) (g := (mkF m 77 #[.val (.int p1)] [(.int p1)])) rfl (hb hby d2_77) _ ?_
                exact kt
              by_cases hc82 : (983037 : Int32) < p1
              · obtain ⟨fs, hr, hrun, hended, hW, hsame⟩ := X0.leave (v := some (.int (0 : Int32))) (fun h => by rw [Bd.returns] at h; cases h)
                refine ⟨_, _, pre81 _ ?_, hrun, hended, _, _, rfl, ?_, ⟨_, rfl⟩, hW, hsame.mono (by decide) (by decide)⟩
                · show Steps p.tables e below (s₁.setTop (mkF m 79 #[.val (.int p1)] [(.int (983037 : Int32)), (.int p1)])) _
                  refine XS.icmpYes X0.here hx rfl (pc0 := 79) (pc' := 84) rfl (hb hby d2_79) rfl (tlt hc82).2.2.1 (by decide) (by decide) ?_
                  show Steps p.tables e below (s₁.setTop (mkF m 84 #[.val (.int p1)] [])) _
                  refine XS.iconst X0.here hx rfl (hb hby d2_84) ?_
                  show Steps p.tables e below (s₁.setTop (mkF m 85 #[.val (.int p1)] [(.int (0 : Int32))])) _
                  exact retN X0 hx (t := .boolean) Bd.returns (by simp) (hb hby d2_85) hr
                · show Q2 Z p1 h0 n0 _ s₁.heap _
                  rw [e0]
                  refine ⟨?_, N0, rfl⟩
                  show (some (.int (0 : Int32)) : Option Value) = some (.int (F2 p1))
                  rw [F2, if_neg hc2, if_pos hc72, if_pos hc74, if_pos hc76, if_pos hc78, if_neg hc80, if_pos hc82]
              · obtain ⟨fs, hr, hrun, hended, hW, hsame⟩ := X0.leave (v := some (.int (1 : Int32))) (fun h => by rw [Bd.returns] at h; cases h)
                refine ⟨_, _, pre81 _ ?_, hrun, hended, _, _, rfl, ?_, ⟨_, rfl⟩, hW, hsame.mono (by decide) (by decide)⟩
                · show Steps p.tables e below (s₁.setTop (mkF m 79 #[.val (.int p1)] [(.int (983037 : Int32)), (.int p1)])) _
                  refine XS.icmpNo X0.here hx rfl (hb hby d2_79) rfl (flt hc82).2.2.1 ?_
                  show Steps p.tables e below (s₁.setTop (mkF m 82 #[.val (.int p1)] [])) _
                  refine XS.iconst X0.here hx rfl (hb hby d2_82) ?_
                  show Steps p.tables e below (s₁.setTop (mkF m 83 #[.val (.int p1)] [(.int (1 : Int32))])) _
                  exact retN X0 hx (t := .boolean) Bd.returns (by simp) (hb hby d2_83) hr
                · show Q2 Z p1 h0 n0 _ s₁.heap _
                  rw [e0]
                  refine ⟨?_, N0, rfl⟩
                  show (some (.int (1 : Int32)) : Option Value) = some (.int (F2 p1))
                  rw [F2, if_neg hc2, if_pos hc72, if_pos hc74, if_pos hc76, if_pos hc78, if_neg hc80, if_neg hc82]
          · have pre83 : ∀ t, Steps p.tables e below (s₁.setTop (mkF m 52 #[.val (.int p1)] [(.int (917503 : Int32)), (.int p1)])) t → Steps p.tables e below (s₁.setTop (entryFrame m #[(.int p1)] 1)) t := fun t kt => by
              refine pre77 t ?_
              show Steps p.tables e below (s₁.setTop (mkF m 46 #[.val (.int p1)] [(.int (65536 : Int32)), (.int p1)])) _
              refine XS.icmpNo X0.here hx rfl (hb hby d2_46) rfl (flt hc78).1 ?_
              show Steps p.tables e below (s₁.setTop (mkF m 49 #[.val (.int p1)] [])) _
              refine XS.iloadN X0.here hx rfl (hb hby d2_49) rfl ?_
              show Steps p.tables e below (s₁.setTop (mkF m 50 #[.val (.int p1)] [(.int p1)])) _
              refine X0.ldcInt hx hown (mvT hZ (hw _ (List.mem_of_getElem? (i := 21) rfl))) (g := (mkF m 50 #[.val (.int p1)] [(.int p1)])) rfl (hb hby d2_50) _ ?_
              exact kt
            by_cases hc84 : (917503 : Int32) < p1
            · have pre85 : ∀ t, Steps p.tables e below (s₁.setTop (mkF m 73 #[.val (.int p1)] [(.int (921600 : Int32)), (.int p1)])) t → Steps p.tables e below (s₁.setTop (entryFrame m #[(.int p1)] 1)) t := fun t kt => by
                refine pre83 t ?_
                show Steps p.tables e below (s₁.setTop (mkF m 52 #[.val (.int p1)] [(.int (917503 : Int32)), (.int p1)])) _
                refine XS.icmpYes X0.here hx rfl (pc0 := 52) (pc' := 70) rfl (hb hby d2_52) rfl (tlt hc84).2.2.1 (by decide) (by decide) ?_
                show Steps p.tables e below (s₁.setTop (mkF m 70 #[.val (.int p1)] [])) _
                refine XS.iloadN X0.here hx rfl (hb hby d2_70) rfl ?_
                show Steps p.tables e below (s₁.setTop (mkF m 71 #[.val (.int p1)] [(.int p1)])) _
                refine X0.ldcInt hx hown (mvT hZ (hw _ (List.mem_of_getElem? (i := 15) rfl))) (g := (mkF m 71 #[.val (.int p1)] [(.int p1)])) rfl (hb hby d2_71) _ ?_
                exact kt
              by_cases hc86 : p1 < (921600 : Int32)
              · obtain ⟨fs, hr, hrun, hended, hW, hsame⟩ := X0.leave (v := some (.int (0 : Int32))) (fun h => by rw [Bd.returns] at h; cases h)
                refine ⟨_, _, pre85 _ ?_, hrun, hended, _, _, rfl, ?_, ⟨_, rfl⟩, hW, hsame.mono (by decide) (by decide)⟩
                · show Steps p.tables e below (s₁.setTop (mkF m 73 #[.val (.int p1)] [(.int (921600 : Int32)), (.int p1)])) _
                  refine XS.icmpYes X0.here hx rfl (pc0 := 73) (pc' := 84) rfl (hb hby d2_73) rfl (tlt hc86).1 (by decide) (by decide) ?_
                  show Steps p.tables e below (s₁.setTop (mkF m 84 #[.val (.int p1)] [])) _
                  refine XS.iconst X0.here hx rfl (hb hby d2_84) ?_
                  show Steps p.tables e below (s₁.setTop (mkF m 85 #[.val (.int p1)] [(.int (0 : Int32))])) _
                  exact retN X0 hx (t := .boolean) Bd.returns (by simp) (hb hby d2_85) hr
                · show Q2 Z p1 h0 n0 _ s₁.heap _
                  rw [e0]
                  refine ⟨?_, N0, rfl⟩
                  show (some (.int (0 : Int32)) : Option Value) = some (.int (F2 p1))
                  rw [F2, if_neg hc2, if_pos hc72, if_pos hc74, if_pos hc76, if_neg hc78, if_pos hc84, if_pos hc86]
              · have pre87 : ∀ t, Steps p.tables e below (s₁.setTop (mkF m 79 #[.val (.int p1)] [(.int (983037 : Int32)), (.int p1)])) t → Steps p.tables e below (s₁.setTop (entryFrame m #[(.int p1)] 1)) t := fun t kt => by
                  refine pre85 t ?_
                  show Steps p.tables e below (s₁.setTop (mkF m 73 #[.val (.int p1)] [(.int (921600 : Int32)), (.int p1)])) _
                  refine XS.icmpNo X0.here hx rfl (hb hby d2_73) rfl (flt hc86).1 ?_
                  show Steps p.tables e below (s₁.setTop (mkF m 76 #[.val (.int p1)] [])) _
                  refine XS.iloadN X0.here hx rfl (hb hby d2_76) rfl ?_
                  show Steps p.tables e below (s₁.setTop (mkF m 77 #[.val (.int p1)] [(.int p1)])) _
                  refine X0.ldcInt hx hown (mvT hZ (hw _ (List.mem_of_getElem? (i := 25) rfl))) (g := (mkF m 77 #[.val (.int p1)] [(.int p1)])) rfl (hb hby d2_77) _ ?_
                  exact kt
                by_cases hc88 : (983037 : Int32) < p1
                · obtain ⟨fs, hr, hrun, hended, hW, hsame⟩ := X0.leave (v := some (.int (0 : Int32))) (fun h => by rw [Bd.returns] at h; cases h)
                  refine ⟨_, _, pre87 _ ?_, hrun, hended, _, _, rfl, ?_, ⟨_, rfl⟩, hW, hsame.mono (by decide) (by decide)⟩
                  · show Steps p.tables e below (s₁.setTop (mkF m 79 #[.val (.int p1)] [(.int (983037 : Int32)), (.int p1)])) _
                    refine XS.icmpYes X0.here hx rfl (pc0 := 79) (pc' := 84) rfl (hb hby d2_79) rfl (tlt hc88).2.2.1 (by decide) (by decide) ?_
                    show Steps p.tables e below (s₁.setTop (mkF m 84 #[.val (.int p1)] [])) _
                    refine XS.iconst X0.here hx rfl (hb hby d2_84) ?_
                    show Steps p.tables e below (s₁.setTop (mkF m 85 #[.val (.int p1)] [(.int (0 : Int32))])) _
                    exact retN X0 hx (t := .boolean) Bd.returns (by simp) (hb hby d2_85) hr
                  · show Q2 Z p1 h0 n0 _ s₁.heap _
                    rw [e0]
                    refine ⟨?_, N0, rfl⟩
                    show (some (.int (0 : Int32)) : Option Value) = some (.int (F2 p1))
                    rw [F2, if_neg hc2, if_pos hc72, if_pos hc74, if_pos hc76, if_neg hc78, if_pos hc84, if_neg hc86, if_pos hc88]
                · obtain ⟨fs, hr, hrun, hended, hW, hsame⟩ := X0.leave (v := some (.int (1 : Int32))) (fun h => by rw [Bd.returns] at h; cases h)
                  refine ⟨_, _, pre87 _ ?_, hrun, hended, _, _, rfl, ?_, ⟨_, rfl⟩, hW, hsame.mono (by decide) (by decide)⟩
                  · show Steps p.tables e below (s₁.setTop (mkF m 79 #[.val (.int p1)] [(.int (983037 : Int32)), (.int p1)])) _
                    refine XS.icmpNo X0.here hx rfl (hb hby d2_79) rfl (flt hc88).2.2.1 ?_
                    show Steps p.tables e below (s₁.setTop (mkF m 82 #[.val (.int p1)] [])) _
                    refine XS.iconst X0.here hx rfl (hb hby d2_82) ?_
                    show Steps p.tables e below (s₁.setTop (mkF m 83 #[.val (.int p1)] [(.int (1 : Int32))])) _
                    exact retN X0 hx (t := .boolean) Bd.returns (by simp) (hb hby d2_83) hr
                  · show Q2 Z p1 h0 n0 _ s₁.heap _
                    rw [e0]
                    refine ⟨?_, N0, rfl⟩
                    show (some (.int (1 : Int32)) : Option Value) = some (.int (F2 p1))
                    rw [F2, if_neg hc2, if_pos hc72, if_pos hc74, if_pos hc76, if_neg hc78, if_pos hc84, if_neg hc86, if_neg hc88]
            · have pre89 : ∀ t, Steps p.tables e below (s₁.setTop (mkF m 61 #[.val (.int p1)] [(.int (65533 : Int32)), (.int (p1 &&& (65535 : Int32)))])) t → Steps p.tables e below (s₁.setTop (entryFrame m #[(.int p1)] 1)) t := fun t kt => by
                refine pre83 t ?_
                show Steps p.tables e below (s₁.setTop (mkF m 52 #[.val (.int p1)] [(.int (917503 : Int32)), (.int p1)])) _
                refine XS.icmpNo X0.here hx rfl (hb hby d2_52) rfl (flt hc84).2.2.1 ?_
                show Steps p.tables e below (s₁.setTop (mkF m 55 #[.val (.int p1)] [])) _
                refine XS.iloadN X0.here hx rfl (hb hby d2_55) rfl ?_
                show Steps p.tables e below (s₁.setTop (mkF m 56 #[.val (.int p1)] [(.int p1)])) _
                refine X0.ldcInt hx hown (mvT hZ (hw _ (List.mem_of_getElem? (i := 22) rfl))) (g := (mkF m 56 #[.val (.int p1)] [(.int p1)])) rfl (hb hby d2_56) _ ?_
                show Steps p.tables e below (s₁.setTop (mkF m 58 #[.val (.int p1)] [(.int (65535 : Int32)), (.int p1)])) _
                refine XS.iand X0.here hx rfl (hb hby d2_58) rfl ?_
                show Steps p.tables e below (s₁.setTop (mkF m 59 #[.val (.int p1)] [(.int (p1 &&& (65535 : Int32)))])) _
                refine X0.ldcInt hx hown (mvT hZ (hw _ (List.mem_of_getElem? (i := 23) rfl))) (g := (mkF m 59 #[.val (.int p1)] [(.int (p1 &&& (65535 : Int32)))])) rfl (hb hby d2_59) _ ?_
                exact kt
              by_cases hc90 : (65533 : Int32) < (p1 &&& (65535 : Int32))
              · obtain ⟨fs, hr, hrun, hended, hW, hsame⟩ := X0.leave (v := some (.int (0 : Int32))) (fun h => by rw [Bd.returns] at h; cases h)
                refine ⟨_, _, pre89 _ ?_, hrun, hended, _, _, rfl, ?_, ⟨_, rfl⟩, hW, hsame.mono (by decide) (by decide)⟩
                · show Steps p.tables e below (s₁.setTop (mkF m 61 #[.val (.int p1)] [(.int (65533 : Int32)), (.int (p1 &&& (65535 : Int32)))])) _
                  refine XS.icmpYes X0.here hx rfl (pc0 := 61) (pc' := 68) rfl (hb hby d2_61) rfl (tlt hc90).2.2.1 (by decide) (by decide) ?_
                  show Steps p.tables e below (s₁.setTop (mkF m 68 #[.val (.int p1)] [])) _
                  refine XS.iconst X0.here hx rfl (hb hby d2_68) ?_
                  show Steps p.tables e below (s₁.setTop (mkF m 69 #[.val (.int p1)] [(.int (0 : Int32))])) _
                  exact retN X0 hx (t := .boolean) Bd.returns (by simp) (hb hby d2_69) hr
                · show Q2 Z p1 h0 n0 _ s₁.heap _
                  rw [e0]
                  refine ⟨?_, N0, rfl⟩
                  show (some (.int (0 : Int32)) : Option Value) = some (.int (F2 p1))
                  rw [F2, if_neg hc2, if_pos hc72, if_pos hc74, if_pos hc76, if_neg hc78, if_neg hc84, if_pos hc90]
              · obtain ⟨fs, hr, hrun, hended, hW, hsame⟩ := X0.leave (v := some (.int (1 : Int32))) (fun h => by rw [Bd.returns] at h; cases h)
                refine ⟨_, _, pre89 _ ?_, hrun, hended, _, _, rfl, ?_, ⟨_, rfl⟩, hW, hsame.mono (by decide) (by decide)⟩
                · show Steps p.tables e below (s₁.setTop (mkF m 61 #[.val (.int p1)] [(.int (65533 : Int32)), (.int (p1 &&& (65535 : Int32)))])) _
                  refine XS.icmpNo X0.here hx rfl (hb hby d2_61) rfl (flt hc90).2.2.1 ?_
                  show Steps p.tables e below (s₁.setTop (mkF m 64 #[.val (.int p1)] [])) _
                  refine XS.iconst X0.here hx rfl (hb hby d2_64) ?_
                  show Steps p.tables e below (s₁.setTop (mkF m 65 #[.val (.int p1)] [(.int (1 : Int32))])) _
                  refine XS.goto X0.here hx rfl (pc0 := 65) (pc' := 69) rfl (hb hby d2_65) (by decide) (by decide) ?_
                  show Steps p.tables e below (s₁.setTop (mkF m 69 #[.val (.int p1)] [(.int (1 : Int32))])) _
                  exact retN X0 hx (t := .boolean) Bd.returns (by simp) (hb hby d2_69) hr
                · show Q2 Z p1 h0 n0 _ s₁.heap _
                  rw [e0]
                  refine ⟨?_, N0, rfl⟩
                  show (some (.int (1 : Int32)) : Option Value) = some (.int (F2 p1))
                  rw [F2, if_neg hc2, if_pos hc72, if_pos hc74, if_pos hc76, if_neg hc78, if_neg hc84, if_neg hc90]
        · have pre91 : ∀ t, Steps p.tables e below (s₁.setTop (mkF m 38 #[.val (.int p1)] [(.int (65519 : Int32)), (.int p1)])) t → Steps p.tables e below (s₁.setTop (entryFrame m #[(.int p1)] 1)) t := fun t kt => by
            refine pre75 t ?_
            show Steps p.tables e below (s₁.setTop (mkF m 32 #[.val (.int p1)] [(.int (65008 : Int32)), (.int p1)])) _
            refine XS.icmpNo X0.here hx rfl (hb hby d2_32) rfl (flt hc76).1 ?_
            show Steps p.tables e below (s₁.setTop (mkF m 35 #[.val (.int p1)] [])) _
            refine XS.iloadN X0.here hx rfl (hb hby d2_35) rfl ?_
            show Steps p.tables e below (s₁.setTop (mkF m 36 #[.val (.int p1)] [(.int p1)])) _
            refine X0.ldcInt hx hown (mvT hZ (hw _ (List.mem_of_getElem? (i := 20) rfl))) (g := (mkF m 36 #[.val (.int p1)] [(.int p1)])) rfl (hb hby d2_36) _ ?_
            exact kt
          by_cases hc92 : (65519 : Int32) < p1
          · have pre93 : ∀ t, Steps p.tables e below (s₁.setTop (mkF m 46 #[.val (.int p1)] [(.int (65536 : Int32)), (.int p1)])) t → Steps p.tables e below (s₁.setTop (entryFrame m #[(.int p1)] 1)) t := fun t kt => by
              refine pre91 t ?_
              show Steps p.tables e below (s₁.setTop (mkF m 38 #[.val (.int p1)] [(.int (65519 : Int32)), (.int p1)])) _
              refine XS.icmpYes X0.here hx rfl (pc0 := 38) (pc' := 43) rfl (hb hby d2_38) rfl (tlt hc92).2.2.1 (by decide) (by decide) ?_
              show Steps p.tables e below (s₁.setTop (mkF m 43 #[.val (.int p1)] [])) _
              refine XS.iloadN X0.here hx rfl (hb hby d2_43) rfl ?_
              show Steps p.tables e below (s₁.setTop (mkF m 44 #[.val (.int p1)] [(.int p1)])) _
              refine X0.ldcInt hx hown (mvT hZ (hw _ (List.mem_of_getElem? (i := 14) rfl))) (g := (mkF m 44 #[.val (.int p1)] [(.int p1)])) rfl (hb hby d2_44) _ ?_
              exact kt
            by_cases hc94 : p1 < (65536 : Int32)
            · have pre95 : ∀ t, Steps p.tables e below (s₁.setTop (mkF m 73 #[.val (.int p1)] [(.int (921600 : Int32)), (.int p1)])) t → Steps p.tables e below (s₁.setTop (entryFrame m #[(.int p1)] 1)) t := fun t kt => by
                refine pre93 t ?_
                show Steps p.tables e below (s₁.setTop (mkF m 46 #[.val (.int p1)] [(.int (65536 : Int32)), (.int p1)])) _
                refine XS.icmpYes X0.here hx rfl (pc0 := 46) (pc' := 70) rfl (hb hby d2_46) rfl (tlt hc94).1 (by decide) (by decide) ?_
                show Steps p.tables e below (s₁.setTop (mkF m 70 #[.val (.int p1)] [])) _
                refine XS.iloadN X0.here hx rfl (hb hby d2_70) rfl ?_
                show Steps p.tables e below (s₁.setTop (mkF m 71 #[.val (.int p1)] [(.int p1)])) _
                refine X0.ldcInt hx hown (mvT hZ (hw _ (List.mem_of_getElem? (i := 15) rfl))) (g := (mkF m 71 #[.val (.int p1)] [(.int p1)])) rfl (hb hby d2_71) _ ?_
                exact kt
              by_cases hc96 : p1 < (921600 : Int32)
              · obtain ⟨fs, hr, hrun, hended, hW, hsame⟩ := X0.leave (v := some (.int (0 : Int32))) (fun h => by rw [Bd.returns] at h; cases h)
                refine ⟨_, _, pre95 _ ?_, hrun, hended, _, _, rfl, ?_, ⟨_, rfl⟩, hW, hsame.mono (by decide) (by decide)⟩
                · show Steps p.tables e below (s₁.setTop (mkF m 73 #[.val (.int p1)] [(.int (921600 : Int32)), (.int p1)])) _
                  refine XS.icmpYes X0.here hx rfl (pc0 := 73) (pc' := 84) rfl (hb hby d2_73) rfl (tlt hc96).1 (by decide) (by decide) ?_
                  show Steps p.tables e below (s₁.setTop (mkF m 84 #[.val (.int p1)] [])) _
                  refine XS.iconst X0.here hx rfl (hb hby d2_84) ?_
                  show Steps p.tables e below (s₁.setTop (mkF m 85 #[.val (.int p1)] [(.int (0 : Int32))])) _
                  exact retN X0 hx (t := .boolean) Bd.returns (by simp) (hb hby d2_85) hr
                · show Q2 Z p1 h0 n0 _ s₁.heap _
                  rw [e0]
                  refine ⟨?_, N0, rfl⟩
                  show (some (.int (0 : Int32)) : Option Value) = some (.int (F2 p1))
                  rw [F2, if_neg hc2, if_pos hc72, if_pos hc74, if_neg hc76, if_pos hc92, if_pos hc94, if_pos hc96]
              · have pre97 : ∀ t, Steps p.tables e below (s₁.setTop (mkF m 79 #[.val (.int p1)] [(.int (983037 : Int32)), (.int p1)])) t → Steps p.tables e below (s₁.setTop (entryFrame m #[(.int p1)] 1)) t := fun t kt => by
                  refine pre95 t ?_
                  show Steps p.tables e below (s₁.setTop (mkF m 73 #[.val (.int p1)] [(.int (921600 : Int32)), (.int p1)])) _
                  refine XS.icmpNo X0.here hx rfl (hb hby d2_73) rfl (flt hc96).1 ?_
                  show Steps p.tables e below (s₁.setTop (mkF m 76 #[.val (.int p1)] [])) _
                  refine XS.iloadN X0.here hx rfl (hb hby d2_76) rfl ?_
                  show Steps p.tables e below (s₁.setTop (mkF m 77 #[.val (.int p1)] [(.int p1)])) _
                  refine X0.ldcInt hx hown (mvT hZ (hw _ (List.mem_of_getElem? (i := 25) rfl))) (g := (mkF m 77 #[.val (.int p1)] [(.int p1)])) rfl (hb hby d2_77) _ ?_
                  exact kt
                by_cases hc98 : (983037 : Int32) < p1
                · obtain ⟨fs, hr, hrun, hended, hW, hsame⟩ := X0.leave (v := some (.int (0 : Int32))) (fun h => by rw [Bd.returns] at h; cases h)
                  refine ⟨_, _, pre97 _ ?_, hrun, hended, _, _, rfl, ?_, ⟨_, rfl⟩, hW, hsame.mono (by decide) (by decide)⟩
                  · show Steps p.tables e below (s₁.setTop (mkF m 79 #[.val (.int p1)] [(.int (983037 : Int32)), (.int p1)])) _
                    refine XS.icmpYes X0.here hx rfl (pc0 := 79) (pc' := 84) rfl (hb hby d2_79) rfl (tlt hc98).2.2.1 (by decide) (by decide) ?_
                    show Steps p.tables e below (s₁.setTop (mkF m 84 #[.val (.int p1)] [])) _
                    refine XS.iconst X0.here hx rfl (hb hby d2_84) ?_
                    show Steps p.tables e below (s₁.setTop (mkF m 85 #[.val (.int p1)] [(.int (0 : Int32))])) _
                    exact retN X0 hx (t := .boolean) Bd.returns (by simp) (hb hby d2_85) hr
                  · show Q2 Z p1 h0 n0 _ s₁.heap _
                    rw [e0]
                    refine ⟨?_, N0, rfl⟩
                    show (some (.int (0 : Int32)) : Option Value) = some (.int (F2 p1))
                    rw [F2, if_neg hc2, if_pos hc72, if_pos hc74, if_neg hc76, if_pos hc92, if_pos hc94, if_neg hc96, if_pos hc98]
                · obtain ⟨fs, hr, hrun, hended, hW, hsame⟩ := X0.leave (v := some (.int (1 : Int32))) (fun h => by rw [Bd.returns] at h; cases h)
                  refine ⟨_, _, pre97 _ ?_, hrun, hended, _, _, rfl, ?_, ⟨_, rfl⟩, hW, hsame.mono (by decide) (by decide)⟩
                  · show Steps p.tables e below (s₁.setTop (mkF m 79 #[.val (.int p1)] [(.int (983037 : Int32)), (.int p1)])) _
                    refine XS.icmpNo X0.here hx rfl (hb hby d2_79) rfl (flt hc98).2.2.1 ?_
                    show Steps p.tables e below (s₁.setTop (mkF m 82 #[.val (.int p1)] [])) _
                    refine XS.iconst X0.here hx rfl (hb hby d2_82) ?_
                    show Steps p.tables e below (s₁.setTop (mkF m 83 #[.val (.int p1)] [(.int (1 : Int32))])) _
                    exact retN X0 hx (t := .boolean) Bd.returns (by simp) (hb hby d2_83) hr
                  · show Q2 Z p1 h0 n0 _ s₁.heap _
                    rw [e0]
                    refine ⟨?_, N0, rfl⟩
                    show (some (.int (1 : Int32)) : Option Value) = some (.int (F2 p1))
                    rw [F2, if_neg hc2, if_pos hc72, if_pos hc74, if_neg hc76, if_pos hc92, if_pos hc94, if_neg hc96, if_neg hc98]
            · have pre99 : ∀ t, Steps p.tables e below (s₁.setTop (mkF m 52 #[.val (.int p1)] [(.int (917503 : Int32)), (.int p1)])) t → Steps p.tables e below (s₁.setTop (entryFrame m #[(.int p1)] 1)) t := fun t kt => by
                refine pre93 t ?_
                show Steps p.tables e below (s₁.setTop (mkF m 46 #[.val (.int p1)] [(.int (65536 : Int32)), (.int p1)])) _
                refine XS.icmpNo X0.here hx rfl (hb hby d2_46) rfl (flt hc94).1 ?_
                show Steps p.tables e below (s₁.setTop (mkF m 49 #[.val (.int p1)] [])) _
                refine XS.iloadN X0.here hx rfl (hb hby d2_49) rfl ?_
                show Steps p.tables e below (s₁.setTop (mkF m 50 #[.val (.int p1)] [(.int p1)])) _
                refine X0.ldcInt hx hown (mvT hZ (hw _ (List.mem_of_getElem? (i := 21) rfl))) (g := (mkF m 50 #[.val (.int p1)] [(.int p1)])) rfl (hb hby d2_50) _ ?_
                exact kt
              by_cases hc100 : (917503 : Int32) < p1
              · have pre101 : ∀ t, Steps p.tables e below (s₁.setTop (mkF m 73 #[.val (.int p1)] [(.int (921600 : Int32)), (.int p1)])) t → Steps p.tables e below (s₁.setTop (entryFrame m #[(.int p1)] 1)) t := fun t kt => by
                  refine pre99 t ?_
                  show Steps p.tables e below (s₁.setTop (mkF m 52 #[.val (.int p1)] [(.int (917503 : Int32)), (.int p1)])) _
                  refine XS.icmpYes X0.here hx rfl (pc0 := 52) (pc' := 70) rfl (hb hby d2_52) rfl (tlt hc100).2.2.1 (by decide) (by decide) ?_
                  show Steps p.tables e below (s₁.setTop (mkF m 70 #[.val (.int p1)] [])) _
                  refine XS.iloadN X0.here hx rfl (hb hby d2_70) rfl ?_
                  show Steps p.tables e below (s₁.setTop (mkF m 71 #[.val (.int p1)] [(.int p1)])) _
                  refine X0.ldcInt hx hown (mvT hZ (hw _ (List.mem_of_getElem? (i := 15) rfl))) (g := (mkF m 71 #[.val (.int p1)] [(.int p1)])) rfl (hb hby d2_71) _ ?_
                  exact kt
                by_cases hc102 : p1 < (921600 : Int32)
                · obtain ⟨fs, hr, hrun, hended, hW, hsame⟩ := X0.leave (v := some (.int (0 : Int32))) (fun h => by rw [Bd.returns] at h; cases h)
                  refine ⟨_, _, pre101 _ ?_, hrun, hended, _, _, rfl, ?_, ⟨_, rfl⟩, hW, hsame.mono (by decide) (by decide)⟩
                  · show Steps p.tables e below (s₁.setTop (mkF m 73 #[.val (.int p1)] [(.int (921600 : Int32)), (.int p1)])) _
                    refine XS.icmpYes X0.here hx rfl (pc0 := 73) (pc' := 84) rfl (hb hby d2_73) rfl (tlt hc102).1 (by decide) (by decide) ?_
                    show Steps p.tables e below (s₁.setTop (mkF m 84 #[.val (.int p1)] [])) _
                    refine XS.iconst X0.here hx rfl (hb hby d2_84) ?_
                    show Steps p.tables e below (s₁.setTop (mkF m 85 #[.val (.int p1)] [(.int (0 : Int32))])) _
                    exact retN X0 hx (t := .boolean) Bd.returns (by simp) (hb hby d2_85) hr
                  · show Q2 Z p1 h0 n0 _ s₁.heap _
                    rw [e0]
                    refine ⟨?_, N0, rfl⟩
                    show (some (.int (0 : Int32)) : Option Value) = some (.int (F2 p1))
                    rw [F2, if_neg hc2, if_pos hc72, if_pos hc74, if_neg hc76, if_pos hc92, if_neg hc94, if_pos hc100, if_pos hc102]
                · have pre103 : ∀ t, Steps p.tables e below (s₁.setTop (mkF m 79 #[.val (.int p1)] [(.int (983037 : Int32)), (.int p1)])) t → Steps p.tables e below (s₁.setTop (entryFrame m #[(.int p1)] 1)) t := fun t kt => by
                    refine pre101 t ?_
                    show Steps p.tables e below (s₁.setTop (mkF m 73 #[.val (.int p1)] [(.int (921600 : Int32)), (.int p1)])) _
                    refine XS.icmpNo X0.here hx rfl (hb hby d2_73) rfl (flt hc102).1 ?_
                    show Steps p.tables e below (s₁.setTop (mkF m 76 #[.val (.int p1)] [])) _
                    refine XS.iloadN X0.here hx rfl (hb hby d2_76) rfl ?_
                    show Steps p.tables e below (s₁.setTop (mkF m 77 #[.val (.int p1)] [(.int p1)])) _
                    refine X0.ldcInt hx hown (mvT hZ (hw _ (List.mem_of_getElem? (i := 25) rfl))) (g := (mkF m 77 #[.val (.int p1)] [(.int p1)])) rfl (hb hby d2_77) _ ?_
                    exact kt
                  by_cases hc104 : (983037 : Int32) < p1
                  · obtain ⟨fs, hr, hrun, hended, hW, hsame⟩ := X0.leave (v := some (.int (0 : Int32))) (fun h => by rw [Bd.returns] at h; cases h)
                    refine ⟨_, _, pre103 _ ?_, hrun, hended, _, _, rfl, ?_, ⟨_, rfl⟩, hW, hsame.mono (by decide) (by decide)⟩
                    · show Steps p.tables e below (s₁.setTop (mkF m 79 #[.val (.int p1)] [(.int (983037 : Int32)), (.int p1)])) _
                      refine XS.icmpYes X0.here hx rfl (pc0 := 79) (pc' := 84) rfl (hb hby d2_79) rfl (tlt hc104).2.2.1 (by decide) (by decide) ?_
                      show Steps p.tables e below (s₁.setTop (mkF m 84 #[.val (.int p1)] [])) _
                      refine XS.iconst X0.here hx rfl (hb hby d2_84) ?_
                      show Steps p.tables e below (s₁.setTop (mkF m 85 #[.val (.int p1)] [(.int (0 : Int32))])) _
                      exact retN X0 hx (t := .boolean) Bd.returns (by simp) (hb hby d2_85) hr
                    · show Q2 Z p1 h0 n0 _ s₁.heap _
                      rw [e0]
                      refine ⟨?_, N0, rfl⟩
                      show (some (.int (0 : Int32)) : Option Value) = some (.int (F2 p1))
                      rw [F2, if_neg hc2, if_pos hc72, if_pos hc74, if_neg hc76, if_pos hc92, if_neg hc94, if_pos hc100, if_neg hc102, if_pos hc104]
                  · obtain ⟨fs, hr, hrun, hended, hW, hsame⟩ := X0.leave (v := some (.int (1 : Int32))) (fun h => by rw [Bd.returns] at h; cases h)
                    refine ⟨_, _, pre103 _ ?_, hrun, hended, _, _, rfl, ?_, ⟨_, rfl⟩, hW, hsame.mono (by decide) (by decide)⟩
                    · show Steps p.tables e below (s₁.setTop (mkF m 79 #[.val (.int p1)] [(.int (983037 : Int32)), (.int p1)])) _
                      refine XS.icmpNo X0.here hx rfl (hb hby d2_79) rfl (flt hc104).2.2.1 ?_
                      show Steps p.tables e below (s₁.setTop (mkF m 82 #[.val (.int p1)] [])) _
                      refine XS.iconst X0.here hx rfl (hb hby d2_82) ?_
                      show Steps p.tables e below (s₁.setTop (mkF m 83 #[.val (.int p1)] [(.int (1 : Int32))])) _
                      exact retN X0 hx (t := .boolean) Bd.returns (by simp) (hb hby d2_83) hr
                    · show Q2 Z p1 h0 n0 _ s₁.heap _
                      rw [e0]
                      refine ⟨?_, N0, rfl⟩
                      show (some (.int (1 : Int32)) : Option Value) = some (.int (F2 p1))
                      rw [F2, if_neg hc2, if_pos hc72, if_pos hc74, if_neg hc76, if_pos hc92, if_neg hc94, if_pos hc100, if_neg hc102, if_neg hc104]
              · have pre105 : ∀ t, Steps p.tables e below (s₁.setTop (mkF m 61 #[.val (.int p1)] [(.int (65533 : Int32)), (.int (p1 &&& (65535 : Int32)))])) t → Steps p.tables e below (s₁.setTop (entryFrame m #[(.int p1)] 1)) t := fun t kt => by
                  refine pre99 t ?_
                  show Steps p.tables e below (s₁.setTop (mkF m 52 #[.val (.int p1)] [(.int (917503 : Int32)), (.int p1)])) _
                  refine XS.icmpNo X0.here hx rfl (hb hby d2_52) rfl (flt hc100).2.2.1 ?_
                  show Steps p.tables e below (s₁.setTop (mkF m 55 #[.val (.int p1)] [])) _
                  refine XS.iloadN X0.here hx rfl (hb hby d2_55) rfl ?_
                  show Steps p.tables e below (s₁.setTop (mkF m 56 #[.val (.int p1)] [(.int p1)])) _
                  refine X0.ldcInt hx hown (mvT hZ (hw _ (List.mem_of_getElem? (i := 22) rfl))) (g := (mkF m 56 #[.val (.int p1)] [(.int p1)])) rfl (hb hby d2_56) _ ?_
                  show Steps p.tables e below (s₁.setTop (mkF m 58 #[.val (.int p1)] [(.int (65535 : Int32)), (.int p1)])) _
                  refine XS.iand X0.here hx rfl (hb hby d2_58) rfl ?_
                  show Steps p.tables e below (s₁.setTop (mkF m 59 #[.val (.int p1)] [(.int (p1 &&& (65535 : Int32)))])) _
                  refine X0.ldcInt hx hown (mvT hZ (hw _ (List.mem_of_getElem? (i := 23) rfl))) (g := (mkF m 59 #[.val (.int p1)] [(.int (p1 &&& (65535 : Int32)))])) rfl (hb hby d2_59) _ ?_
                  exact kt
                by_cases hc106 : (65533 : Int32) < (p1 &&& (65535 : Int32))
                · obtain ⟨fs, hr, hrun, hended, hW, hsame⟩ := X0.leave (v := some (.int (0 : Int32))) (fun h => by rw [Bd.returns] at h; cases h)
                  refine ⟨_, _, pre105 _ ?_, hrun, hended, _, _, rfl, ?_, ⟨_, rfl⟩, hW, hsame.mono (by decide) (by decide)⟩
                  · show Steps p.tables e below (s₁.setTop (mkF m 61 #[.val (.int p1)] [(.int (65533 : Int32)), (.int (p1 &&& (65535 : Int32)))])) _
                    refine XS.icmpYes X0.here hx rfl (pc0 := 61) (pc' := 68) rfl (hb hby d2_61) rfl (tlt hc106).2.2.1 (by decide) (by decide) ?_
                    show Steps p.tables e below (s₁.setTop (mkF m 68 #[.val (.int p1)] [])) _
                    refine XS.iconst X0.here hx rfl (hb hby d2_68) ?_
                    show Steps p.tables e below (s₁.setTop (mkF m 69 #[.val (.int p1)] [(.int (0 : Int32))])) _
                    exact retN X0 hx (t := .boolean) Bd.returns (by simp) (hb hby d2_69) hr
                  · show Q2 Z p1 h0 n0 _ s₁.heap _
                    rw [e0]
                    refine ⟨?_, N0, rfl⟩
                    show (some (.int (0 : Int32)) : Option Value) = some (.int (F2 p1))
                    rw [F2, if_neg hc2, if_pos hc72, if_pos hc74, if_neg hc76, if_pos hc92, if_neg hc94, if_neg hc100, if_pos hc106]
                · obtain ⟨fs, hr, hrun, hended, hW, hsame⟩ := X0.leave (v := some (.int (1 : Int32))) (fun h => by rw [Bd.returns] at h; cases h)
                  refine ⟨_, _, pre105 _ ?_, hrun, hended, _, _, rfl, ?_, ⟨_, rfl⟩, hW, hsame.mono (by decide) (by decide)⟩
                  · show Steps p.tables e below (s₁.setTop (mkF m 61 #[.val (.int p1)] [(.int (65533 : Int32)), (.int (p1 &&& (65535 : Int32)))])) _
                    refine XS.icmpNo X0.here hx rfl (hb hby d2_61) rfl (flt hc106).2.2.1 ?_
                    show Steps p.tables e below (s₁.setTop (mkF m 64 #[.val (.int p1)] [])) _
                    refine XS.iconst X0.here hx rfl (hb hby d2_64) ?_
                    show Steps p.tables e below (s₁.setTop (mkF m 65 #[.val (.int p1)] [(.int (1 : Int32))])) _
                    refine XS.goto X0.here hx rfl (pc0 := 65) (pc' := 69) rfl (hb hby d2_65) (by decide) (by decide) ?_
                    show Steps p.tables e below (s₁.setTop (mkF m 69 #[.val (.int p1)] [(.int (1 : Int32))])) _
                    exact retN X0 hx (t := .boolean) Bd.returns (by simp) (hb hby d2_69) hr
                  · show Q2 Z p1 h0 n0 _ s₁.heap _
                    rw [e0]
                    refine ⟨?_, N0, rfl⟩
                    show (some (.int (1 : Int32)) : Option Value) = some (.int (F2 p1))
                    rw [F2, if_neg hc2, if_pos hc72, if_pos hc74, if_neg hc76, if_pos hc92, if_neg hc94, if_neg hc100, if_neg hc106]
          · obtain ⟨fs, hr, hrun, hended, hW, hsame⟩ := X0.leave (v := some (.int (1 : Int32))) (fun h => by rw [Bd.returns] at h; cases h)
            refine ⟨_, _, pre91 _ ?_, hrun, hended, _, _, rfl, ?_, ⟨_, rfl⟩, hW, hsame.mono (by decide) (by decide)⟩
            · show Steps p.tables e below (s₁.setTop (mkF m 38 #[.val (.int p1)] [(.int (65519 : Int32)), (.int p1)])) _
              refine XS.icmpNo X0.here hx rfl (hb hby d2_38) rfl (flt hc92).2.2.1 ?_
              show Steps p.tables e below (s₁.setTop (mkF m 41 #[.val (.int p1)] [])) _
              refine XS.iconst X0.here hx rfl (hb hby d2_41) ?_
              show Steps p.tables e below (s₁.setTop (mkF m 42 #[.val (.int p1)] [(.int (1 : Int32))])) _
              exact retN X0 hx (t := .boolean) Bd.returns (by simp) (hb hby d2_42) hr
            · show Q2 Z p1 h0 n0 _ s₁.heap _
              rw [e0]
              refine ⟨?_, N0, rfl⟩
              show (some (.int (1 : Int32)) : Option Value) = some (.int (F2 p1))
              rw [F2, if_neg hc2, if_pos hc72, if_pos hc74, if_neg hc76, if_neg hc92]
      · have pre107 : ∀ t, Steps p.tables e below (s₁.setTop (mkF m 24 #[.val (.int p1)] [(.int (64975 : Int32)), (.int p1)])) t → Steps p.tables e below (s₁.setTop (entryFrame m #[(.int p1)] 1)) t := fun t kt => by
          refine pre73 t ?_
          show Steps p.tables e below (s₁.setTop (mkF m 18 #[.val (.int p1)] [(.int (63744 : Int32)), (.int p1)])) _
          refine XS.icmpNo X0.here hx rfl (hb hby d2_18) rfl (flt hc74).1 ?_
          show Steps p.tables e below (s₁.setTop (mkF m 21 #[.val (.int p1)] [])) _
          refine XS.iloadN X0.here hx rfl (hb hby d2_21) rfl ?_
          show Steps p.tables e below (s₁.setTop (mkF m 22 #[.val (.int p1)] [(.int p1)])) _
          refine X0.ldcInt hx hown (mvT hZ (hw _ (List.mem_of_getElem? (i := 19) rfl))) (g := (mkF m 22 #[.val (.int p1)] [(.int p1)])) rfl (hb hby d2_22) _ ?_
          exact kt
        by_cases hc108 : (64975 : Int32) < p1
        · have pre109 : ∀ t, Steps p.tables e below (s₁.setTop (mkF m 32 #[.val (.int p1)] [(.int (65008 : Int32)), (.int p1)])) t → Steps p.tables e below (s₁.setTop (entryFrame m #[(.int p1)] 1)) t := fun t kt => by
            refine pre107 t ?_
            show Steps p.tables e below (s₁.setTop (mkF m 24 #[.val (.int p1)] [(.int (64975 : Int32)), (.int p1)])) _
            refine XS.icmpYes X0.here hx rfl (pc0 := 24) (pc' := 29) rfl (hb hby d2_24) rfl (tlt hc108).2.2.1 (by decide) (by decide) ?_
            show Steps p.tables e below (s₁.setTop (mkF m 29 #[.val (.int p1)] [])) _
            refine XS.iloadN X0.here hx rfl (hb hby d2_29) rfl ?_
            show Steps p.tables e below (s₁.setTop (mkF m 30 #[.val (.int p1)] [(.int p1)])) _
            refine X0.ldcInt hx hown (mvT hZ (hw _ (List.mem_of_getElem? (i := 13) rfl))) (g := (mkF m 30 #[.val (.int p1)] [(.int p1)])) rfl (hb hby d2_30) _ ?_
            exact kt
          by_cases hc110 : p1 < (65008 : Int32)
          · have pre111 : ∀ t, Steps p.tables e below (s₁.setTop (mkF m 46 #[.val (.int p1)] [(.int (65536 : Int32)), (.int p1)])) t → Steps p.tables e below (s₁.setTop (entryFrame m #[(.int p1)] 1)) t := fun t kt => by
              refine pre109 t ?_
              show Steps p.tables e below (s₁.setTop (mkF m 32 #[.val (.int p1)] [(.int (65008 : Int32)), (.int p1)])) _
              refine XS.icmpYes X0.here hx rfl (pc0 := 32) (pc' := 43) rfl (hb hby d2_32) rfl (tlt hc110).1 (by decide) (by decide) ?_
              show Steps p.tables e below (s₁.setTop (mkF m 43 #[.val (.int p1)] [])) _
              refine XS.iloadN X0.here hx rfl (hb hby d2_43) rfl ?_
              show Steps p.tables e below (s₁.setTop (mkF m 44 #[.val (.int p1)] [(.int p1)])) _
              refine X0.ldcInt hx hown (mvT hZ (hw _ (List.mem_of_getElem? (i := 14) rfl))) (g := (mkF m 44 #[.val (.int p1)] [(.int p1)])) rfl (hb hby d2_44) _ ?_
              exact kt
            by_cases hc112 : p1 < (65536 : Int32)
            · have pre113 : ∀ t, Steps p.tables e below (s₁.setTop (mkF m 73 #[.val (.int p1)] [(.int (921600 : Int32)), (.int p1)])) t → Steps p.tables e below (s₁.setTop (entryFrame m #[(.int p1)] 1)) t := fun t kt => by
                refine pre111 t ?_
                show Steps p.tables e below (s₁.setTop (mkF m 46 #[.val (.int p1)] [(.int (65536 : Int32)), (.int p1)])) _
                refine XS.icmpYes X0.here hx rfl (pc0 := 46) (pc' := 70) rfl (hb hby d2_46) rfl (tlt hc112).1 (by decide) (by decide) ?_
                show Steps p.tables e below (s₁.setTop (mkF m 70 #[.val (.int p1)] [])) _
                refine XS.iloadN X0.here hx rfl (hb hby d2_70) rfl ?_
                show Steps p.tables e below (s₁.setTop (mkF m 71 #[.val (.int p1)] [(.int p1)])) _
                refine X0.ldcInt hx hown (mvT hZ (hw _ (List.mem_of_getElem? (i := 15) rfl))) (g := (mkF m 71 #[.val (.int p1)] [(.int p1)])) rfl (hb hby d2_71) _ ?_
                exact kt
              by_cases hc114 : p1 < (921600 : Int32)
              · obtain ⟨fs, hr, hrun, hended, hW, hsame⟩ := X0.leave (v := some (.int (0 : Int32))) (fun h => by rw [Bd.returns] at h; cases h)
                refine ⟨_, _, pre113 _ ?_, hrun, hended, _, _, rfl, ?_, ⟨_, rfl⟩, hW, hsame.mono (by decide) (by decide)⟩
                · show Steps p.tables e below (s₁.setTop (mkF m 73 #[.val (.int p1)] [(.int (921600 : Int32)), (.int p1)])) _
                  refine XS.icmpYes X0.here hx rfl (pc0 := 73) (pc' := 84) rfl (hb hby d2_73) rfl (tlt hc114).1 (by decide) (by decide) ?_
                  show Steps p.tables e below (s₁.setTop (mkF m 84 #[.val (.int p1)] [])) _
                  refine XS.iconst X0.here hx rfl (hb hby d2_84) ?_
                  show Steps p.tables e below (s₁.setTop (mkF m 85 #[.val (.int p1)] [(.int (0 : Int32))])) _
                  exact retN X0 hx (t := .boolean) Bd.returns (by simp) (hb hby d2_85) hr
                · show Q2 Z p1 h0 n0 _ s₁.heap _
                  rw [e0]
                  refine ⟨?_, N0, rfl⟩
                  show (some (.int (0 : Int32)) : Option Value) = some (.int (F2 p1))
                  rw [F2, if_neg hc2, if_pos hc72, if_neg hc74, if_pos hc108, if_pos hc110, if_pos hc112, if_pos hc114]
              · have pre115 : ∀ t, Steps p.tables e below (s₁.setTop (mkF m 79 #[.val (.int p1)] [(.int (983037 : Int32)), (.int p1)])) t → Steps p.tables e below (s₁.setTop (entryFrame m #[(.int p1)] 1)) t := fun t kt => by
                  refine pre113 t ?_
                  show Steps p.tables e below (s₁.setTop (mkF m 73 #[.val (.int p1)] [(.int (921600 : Int32)), (.int p1)])) _
                  refine XS.icmpNo X0.here hx rfl (hb hby d2_73) rfl (flt hc114).1 ?_
                  show Steps p.tables e below (s₁.setTop (mkF m 76 #[.val (.int p1)] [])) _
                  refine XS.iloadN X0.here hx rfl (hb hby d2_76) rfl ?_
                  show Steps p.tables e below (s₁.setTop (mkF m 77 #[.val (.int p1)] [(.int p1)])) _
                  refine X0.ldcInt hx hown (mvT hZ (hw _ (List.mem_of_getElem? (i := 25) rfl))) (g := (mkF m 77 #[.val (.int p1)] [(.int p1)])) rfl (hb hby d2_77) _ ?_
                  exact kt
                by_cases hc116 : (983037 : Int32) < p1
                · obtain ⟨fs, hr, hrun, hended, hW, hsame⟩ := X0.leave (v := some (.int (0 : Int32))) (fun h => by rw [Bd.returns] at h; cases h)
                  refine ⟨_, _, pre115 _ ?_, hrun, hended, _, _, rfl, ?_, ⟨_, rfl⟩, hW, hsame.mono (by decide) (by decide)⟩
                  · show Steps p.tables e below (s₁.setTop (mkF m 79 #[.val (.int p1)] [(.int (983037 : Int32)), (.int p1)])) _
                    refine XS.icmpYes X0.here hx rfl (pc0 := 79) (pc' := 84) rfl (hb hby d2_79) rfl (tlt hc116).2.2.1 (by decide) (by decide) ?_
                    show Steps p.tables e below (s₁.setTop (mkF m 84 #[.val (.int p1)] [])) _
                    refine XS.iconst X0.here hx rfl (hb hby d2_84) ?_
                    show Steps p.tables e below (s₁.setTop (mkF m 85 #[.val (.int p1)] [(.int (0 : Int32))])) _
                    exact retN X0 hx (t := .boolean) Bd.returns (by simp) (hb hby d2_85) hr
                  · show Q2 Z p1 h0 n0 _ s₁.heap _
                    rw [e0]
                    refine ⟨?_, N0, rfl⟩
                    show (some (.int (0 : Int32)) : Option Value) = some (.int (F2 p1))
                    rw [F2, if_neg hc2, if_pos hc72, if_neg hc74, if_pos hc108, if_pos hc110, if_pos hc112, if_neg hc114, if_pos hc116]
                · obtain ⟨fs, hr, hrun, hended, hW, hsame⟩ := X0.leave (v := some (.int (1 : Int32))) (fun h => by rw [Bd.returns] at h; cases h)
                  refine ⟨_, _, pre115 _ ?_, hrun, hended, _, _, rfl, ?_, ⟨_, rfl⟩, hW, hsame.mono (by decide) (by decide)⟩
                  · show Steps p.tables e below (s₁.setTop (mkF m 79 #[.val (.int p1)] [(.int (983037 : Int32)), (.int p1)])) _
                    refine XS.icmpNo X0.here hx rfl (hb hby d2_79) rfl (flt hc116).2.2.1 ?_
                    show Steps p.tables e below (s₁.setTop (mkF m 82 #[.val (.int p1)] [])) _
                    refine XS.iconst X0.here hx rfl (hb hby d2_82) ?_
                    show Steps p.tables e below (s₁.setTop (mkF m 83 #[.val (.int p1)] [(.int (1 : Int32))])) _
                    exact retN X0 hx (t := .boolean) Bd.returns (by simp) (hb hby d2_83) hr
                  · show Q2 Z p1 h0 n0 _ s₁.heap _
                    rw [e0]
                    refine ⟨?_, N0, rfl⟩
                    show (some (.int (1 : Int32)) : Option Value) = some (.int (F2 p1))
                    rw [F2, if_neg hc2, if_pos hc72, if_neg hc74, if_pos hc108, if_pos hc110, if_pos hc112, if_neg hc114, if_neg hc116]
            · have pre117 : ∀ t, Steps p.tables e below (s₁.setTop (mkF m 52 #[.val (.int p1)] [(.int (917503 : Int32)), (.int p1)])) t → Steps p.tables e below (s₁.setTop (entryFrame m #[(.int p1)] 1)) t := fun t kt => by
                refine pre111 t ?_
                show Steps p.tables e below (s₁.setTop (mkF m 46 #[.val (.int p1)] [(.int (65536 : Int32)), (.int p1)])) _
                refine XS.icmpNo X0.here hx rfl (hb hby d2_46) rfl (flt hc112).1 ?_
                show Steps p.tables e below (s₁.setTop (mkF m 49 #[.val (.int p1)] [])) _
                refine XS.iloadN X0.here hx rfl (hb hby d2_49) rfl ?_
                show Steps p.tables e below (s₁.setTop (mkF m 50 #[.val (.int p1)] [(.int p1)])) _
                refine X0.ldcInt hx hown (mvT hZ (hw _ (List.mem_of_getElem? (i := 21) rfl))) (g := (mkF m 50 #[.val (.int p1)] [(.int p1)])) rfl (hb hby d2_50) _ ?_
                exact kt
              by_cases hc118 : (917503 : Int32) < p1
              · have pre119 : ∀ t, Steps p.tables e below (s₁.setTop (mkF m 73 #[.val (.int p1)] [(.int (921600 : Int32)), (.int p1)])) t → Steps p.tables e below (s₁.setTop (entryFrame m #[(.int p1)] 1)) t := fun t kt => by
                  refine pre117 t ?_
                  show Steps p.tables e below (s₁.setTop (mkF m 52 #[.val (.int p1)] [(.int (917503 : Int32)), (.int p1)])) _
                  refine XS.icmpYes X0.here hx rfl (pc0 := 52) (pc' := 70) rfl (hb hby d2_52) rfl (tlt hc118).2.2.1 (by decide) (by decide) ?_
                  show Steps p.tables e below (s₁.setTop (mkF m 70 #[.val (.int p1)] [])) _
                  refine XS.iloadN X0.here hx rfl (hb hby d2_70) rfl ?_
                  show Steps p.tables e below (s₁.setTop (mkF m 71 #[.val (.int p1)] [(.int p1)])) _
                  refine X0.ldcInt hx hown (mvT hZ (hw _ (List.mem_of_getElem? (i := 15) rfl))) (g := (mkF m 71 #[.val (.int p1)] [(.int p1)])) rfl (hb hby d2_71) _ ?_
                  exact kt
                by_cases hc120 : p1 < (921600 : Int32)
                · obtain ⟨fs, hr, hrun, hended, hW, hsame⟩ := X0.leave (v := some (.int (0 : Int32))) (fun h => by rw [Bd.returns] at h; cases h)
                  refine ⟨_, _, pre119 _ ?_, hrun, hended, _, _, rfl, ?_, ⟨_, rfl⟩, hW, hsame.mono (by decide) (by decide)⟩
                  · show Steps p.tables e below (s₁.setTop (mkF m 73 #[.val (.int p1)] [(.int (921600 : Int32)), (.int p1)])) _
                    refine XS.icmpYes X0.here hx rfl (pc0 := 73) (pc' := 84) rfl (hb hby d2_73) rfl (tlt hc120).1 (by decide) (by decide) ?_
                    show Steps p.tables e below (s₁.setTop (mkF m 84 #[.val (.int p1)] [])) _
                    refine XS.iconst X0.here hx rfl (hb hby d2_84) ?_
                    show Steps p.tables e below (s₁.setTop (mkF m 85 #[.val (.int p1)] [(.int (0 : Int32))])) _
                    exact retN X0 hx (t := .boolean) Bd.returns (by simp) (hb hby d2_85) hr
                  · show Q2 Z p1 h0 n0 _ s₁.heap _
                    rw [e0]
                    refine ⟨?_, N0, rfl⟩
                    show (some (.int (0 : Int32)) : Option Value) = some (.int (F2 p1))
                    rw [F2, if_neg hc2, if_pos hc72, if_neg hc74, if_pos hc108, if_pos hc110, if_neg hc112, if_pos hc118, if_pos hc120]
                · have pre121 : ∀ t, Steps p.tables e below (s₁.setTop (mkF m 79 #[.val (.int p1)] [(.int (983037 : Int32)), (.int p1)])) t → Steps p.tables e below (s₁.setTop (entryFrame m #[(.int p1)] 1)) t := fun t kt => by
                    refine pre119 t ?_
                    show Steps p.tables e below (s₁.setTop (mkF m 73 #[.val (.int p1)] [(.int (921600 : Int32)), (.int p1)])) _
                    refine XS.icmpNo X0.here hx rfl (hb hby d2_73) rfl (flt hc120).1 ?_
                    show Steps p.tables e below (s₁.setTop (mkF m 76 #[.val (.int p1)] [])) _
                    refine XS.iloadN X0.here hx rfl (hb hby d2_76) rfl ?_
                    show Steps p.tables e below (s₁.setTop (mkF m 77 #[.val (.int p1)] [(.int p1)])) _
                    refine X0.ldcInt hx hown (mvT hZ (hw _ (List.mem_of_getElem? (i := 25) rfl))) (g := (mkF m 77 #[.val (.int p1)] [(.int p1)])) rfl (hb hby d2_77) _ ?_
                    exact kt
                  by_cases hc122 : (983037 : Int32) < p1
                  · obtain ⟨fs, hr, hrun, hended, hW, hsame⟩ := X0.leave (v := some (.int (0 : Int32))) (fun h => by rw [Bd.returns] at h; cases h)
                    refine ⟨_, _, pre121 _ ?_, hrun, hended, _, _, rfl, ?_, ⟨_, rfl⟩, hW, hsame.mono (by decide) (by decide)⟩
                    · show Steps p.tables e below (s₁.setTop (mkF m 79 #[.val (.int p1)] [(.int (983037 : Int32)), (.int p1)])) _
                      refine XS.icmpYes X0.here hx rfl (pc0 := 79) (pc' := 84) rfl (hb hby d2_79) rfl (tlt hc122).2.2.1 (by decide) (by decide) ?_
                      show Steps p.tables e below (s₁.setTop (mkF m 84 #[.val (.int p1)] [])) _
                      refine XS.iconst X0.here hx rfl (hb hby d2_84) ?_
                      show Steps p.tables e below (s₁.setTop (mkF m 85 #[.val (.int p1)] [(.int (0 : Int32))])) _
                      exact retN X0 hx (t := .boolean) Bd.returns (by simp) (hb hby d2_85) hr
                    · show Q2 Z p1 h0 n0 _ s₁.heap _
                      rw [e0]
                      refine ⟨?_, N0, rfl⟩
                      show (some (.int (0 : Int32)) : Option Value) = some (.int (F2 p1))
                      rw [F2, if_neg hc2, if_pos hc72, if_neg hc74, if_pos hc108, if_pos hc110, if_neg hc112, if_pos hc118, if_neg hc120, if_pos hc122]
                  · obtain ⟨fs, hr, hrun, hended, hW, hsame⟩ := X0.leave (v := some (.int (1 : Int32))) (fun h => by rw [Bd.returns] at h; cases h)
                    refine ⟨_, _, pre121 _ ?_, hrun, hended, _, _, rfl, ?_, ⟨_, rfl⟩, hW, hsame.mono (by decide) (by decide)⟩
                    · show Steps p.tables e below (s₁.setTop (mkF m 79 #[.val (.int p1)] [(.int (983037 : Int32)), (.int p1)])) _
                      refine XS.icmpNo X0.here hx rfl (hb hby d2_79) rfl (flt hc122).2.2.1 ?_
                      show Steps p.tables e below (s₁.setTop (mkF m 82 #[.val (.int p1)] [])) _
                      refine XS.iconst X0.here hx rfl (hb hby d2_82) ?_
                      show Steps p.tables e below (s₁.setTop (mkF m 83 #[.val (.int p1)] [(.int (1 : Int32))])) _
                      exact retN X0 hx (t := .boolean) Bd.returns (by simp) (hb hby d2_83) hr
                    · show Q2 Z p1 h0 n0 _ s₁.heap _
                      rw [e0]
                      refine ⟨?_, N0, rfl⟩
                      show (some (.int (1 : Int32)) : Option Value) = some (.int (F2 p1))
                      rw [F2, if_neg hc2, if_pos hc72, if_neg hc74, if_pos hc108, if_pos hc110, if_neg hc112, if_pos hc118, if_neg hc120, if_neg hc122]
              · have pre123 : ∀ t, Steps p.tables e below (s₁.setTop (mkF m 61 #[.val (.int p1)] [(.int (65533 : Int32)), (.int (p1 &&& (65535 : Int32)))])) t → Steps p.tables e below (s₁.setTop (entryFrame m #[(.int p1)] 1)) t := fun t kt => by
                  refine pre117 t ?_
                  show Steps p.tables e below (s₁.setTop (mkF m 52 #[.val (.int p1)] [(.int (917503 : Int32)), (.int p1)])) _
                  refine XS.icmpNo X0.here hx rfl (hb hby d2_52) rfl (flt hc118).2.2.1 ?_
                  show Steps p.tables e below (s₁.setTop (mkF m 55 #[.val (.int p1)] [])) _
                  refine XS.iloadN X0.here hx rfl (hb hby d2_55) rfl ?_
                  show Steps p.tables e below (s₁.setTop (mkF m 56 #[.val (.int p1)] [(.int p1)])) _
                  refine X0.ldcInt hx hown (mvT hZ (hw _ (List.mem_of_getElem? (i := 22) rfl))) (g := (mkF m 56 #[.val (.int p1)] [(.int p1)])) rfl (hb hby d2_56) _ ?_
                  show Steps p.tables e below (s₁.setTop (mkF m 58 #[.val (.int p1)] [(.int (65535 : Int32)), (.int p1)])) _
                  refine XS.iand X0.here hx rfl (hb hby d2_58) rfl ?_
                  show Steps p.tables e below (s₁.setTop (mkF m 59 #[.val (.int p1)] [(.int (p1 &&& (65535 : Int32)))])) _
                  refine X0.ldcInt hx hown (mvT hZ (hw _ (List.mem_of_getElem? (i := 23) rfl))) (g := (mkF m 59 #[.val (.int p1)] [(.int (p1 &&& (65535 : Int32)))])) rfl (hb hby d2_59) _ ?_
                  exact kt
                by_cases hc124 : (65533 : Int32) < (p1 &&& (65535 : Int32))
                · obtain ⟨fs, hr, hrun, hended, hW, hsame⟩ := X0.leave (v := some (.int (0 : Int32))) (fun h => by rw [Bd.returns] at h; cases h)
                  refine ⟨_, _, pre123 _ ?_, hrun, hended, _, _, rfl, ?_, ⟨_, rfl⟩, hW, hsame.mono (by decide) (by decide)⟩
                  · show Steps p.tables e below (s₁.setTop (mkF m 61 #[.val (.int p1)] [(.int (65533 : Int32)), (.int (p1 &&& (65535 : Int32)))])) _
                    refine XS.icmpYes X0.here hx rfl (pc0 := 61) (pc' := 68) rfl (hb hby d2_61) rfl (tlt hc124).2.2.1 (by decide) (by decide) ?_
                    show Steps p.tables e below (s₁.setTop (mkF m 68 #[.val (.int p1)] [])) _
                    refine XS.iconst X0.here hx rfl (hb hby d2_68) ?_
                    show Steps p.tables e below (s₁.setTop (mkF m 69 #[.val (.int p1)] [(.int (0 : Int32))])) _
                    exact retN X0 hx (t := .boolean) Bd.returns (by simp) (hb hby d2_69) hr
                  · show Q2 Z p1 h0 n0 _ s₁.heap _
                    rw [e0]
                    refine ⟨?_, N0, rfl⟩
                    show (some (.int (0 : Int32)) : Option Value) = some (.int (F2 p1))
                    rw [F2, if_neg hc2, if_pos hc72, if_neg hc74, if_pos hc108, if_pos hc110, if_neg hc112, if_neg hc118, if_pos hc124]
                · obtain ⟨fs, hr, hrun, hended, hW, hsame⟩ := X0.leave (v := some (.int (1 : Int32))) (fun h => by rw [Bd.returns] at h; cases h)
                  refine ⟨_, _, pre123 _ ?_, hrun, hended, _, _, rfl, ?_, ⟨_, rfl⟩, hW, hsame.mono (by decide) (by decide)⟩
                  · show Steps p.tables e below (s₁.setTop (mkF m 61 #[.val (.int p1)] [(.int (65533 : Int32)), (.int (p1 &&& (65535 : Int32)))])) _
                    refine XS.icmpNo X0.here hx rfl (hb hby d2_61) rfl (flt hc124).2.2.1 ?_
                    show Steps p.tables e below (s₁.setTop (mkF m 64 #[.val (.int p1)] [])) _
                    refine XS.iconst X0.here hx rfl (hb hby d2_64) ?_
                    show Steps p.tables e below (s₁.setTop (mkF m 65 #[.val (.int p1)] [(.int (1 : Int32))])) _
                    refine XS.goto X0.here hx rfl (pc0 := 65) (pc' := 69) rfl (hb hby d2_65) (by decide) (by decide) ?_
                    show Steps p.tables e below (s₁.setTop (mkF m 69 #[.val (.int p1)] [(.int (1 : Int32))])) _
                    exact retN X0 hx (t := .boolean) Bd.returns (by simp) (hb hby d2_69) hr
                  · show Q2 Z p1 h0 n0 _ s₁.heap _
                    rw [e0]
                    refine ⟨?_, N0, rfl⟩
                    show (some (.int (1 : Int32)) : Option Value) = some (.int (F2 p1))
                    rw [F2, if_neg hc2, if_pos hc72, if_neg hc74, if_pos hc108, if_pos hc110, if_neg hc112, if_neg hc118, if_neg hc124]
          · have pre125 : ∀ t, Steps p.tables e below (s₁.setTop (mkF m 38 #[.val (.int p1)] [(.int (65519 : Int32)), (.int p1)])) t → Steps p.tables e below (s₁.setTop (entryFrame m #[(.int p1)] 1)) t := fun t kt => by
              refine pre109 t ?_
              show Steps p.tables e below (s₁.setTop (mkF m 32 #[.val (.int p1)] [(.int (65008 : Int32)), (.int p1)])) _
              refine XS.icmpNo X0.here hx rfl (hb hby d2_32) rfl (flt hc110).1 ?_
              show Steps p.tables e below (s₁.setTop (mkF m 35 #[.val (.int p1)] [])) _
              refine XS.iloadN X0.here hx rfl (hb hby d2_35) rfl ?_
              show Steps p.tables e below (s₁.setTop (mkF m 36 #[.val (.int p1)] [(.int p1)])) _
              refine X0.ldcInt hx hown (mvT hZ (hw _ (List.mem_of_getElem? (i := 20) rfl))) (g := (mkF m 36 #[.val (.int p1)] [(.int p1)])) rfl (hb hby d2_36) _ ?_
              exact kt
            by_cases hc126 : (65519 : Int32) < p1
            · have pre127 : ∀ t, Steps p.tables e below (s₁.setTop (mkF m 46 #[.val (.int p1)] [(.int (65536 : Int32)), (.int p1)])) t → Steps p.tables e below (s₁.setTop (entryFrame m #[(.int p1)] 1)) t := fun t kt => by
                refine pre125 t ?_
                show Steps p.tables e below (s₁.setTop (mkF m 38 #[.val (.int p1)] [(.int (65519 : Int32)), (.int p1)])) _
                refine XS.icmpYes X0.here hx rfl (pc0 := 38) (pc' := 43) rfl (hb hby d2_38) rfl (tlt hc126).2.2.1 (by decide) (by decide) ?_
                show Steps p.tables e below (s₁.setTop (mkF m 43 #[.val (.int p1)] [])) _
                refine XS.iloadN X0.here hx rfl (hb hby d2_43) rfl ?_
                show Steps p.tables e below (s₁.setTop (mkF m 44 #[.val (.int p1)] [(.int p1)])) _
                refine X0.ldcInt hx hown (mvT hZ (hw _ (List.mem_of_getElem? (i := 14) rfl))) (g := (mkF m 44 #[.val (.int p1)] [(.int p1)])) rfl (hb hby d2_44) _ ?_
                exact kt
              by_cases hc128 : p1 < (65536 : Int32)
              · have pre129 : ∀ t, Steps p.tables e below (s₁.setTop (mkF m 73 #[.val (.int p1)] [(.int (921600 : Int32)), (.int p1)])) t → Steps p.tables e below (s₁.setTop (entryFrame m #[(.int p1)] 1)) t := fun t kt => by
                  refine pre127 t ?_
                  show Steps p.tables e below (s₁.setTop (mkF m 46 #[.val (.int p1)] [(.int (65536 : Int32)), (.int p1)])) _
                  refine XS.icmpYes X0.here hx rfl (pc0 := 46) (pc' := 70) rfl (hb hby d2_46) rfl (tlt hc128).1 (by decide) (by decide) ?_
                  show Steps p.tables e below (s₁.setTop (mkF m 70 #[.val (.int p1)] [])) _
                  refine XS.iloadN X0.here hx rfl (hb hby d2_70) rfl ?_
                  show Steps p.tables e below (s₁.setTop (mkF m 71 #[.val (.int p1)] [(.int p1)])) _
                  refine X0.ldcInt hx hown (mvT hZ (hw _ (List.mem_of_getElem? (i := 15) rfl))) (g := (mkF m 71 #[.val (.int p1)] [(.int p1)])) rfl (hb hby d2_71) _ ?_
                  exact kt
                by_cases hc130 : p1 < (921600 : Int32)
                · obtain ⟨fs, hr, hrun, hended, hW, hsame⟩ := X0.leave (v := some (.int (0 : Int32))) (fun h => by rw [Bd.returns] at h; cases h)
                  refine ⟨_, _, pre129 _ ?_, hrun, hended, _, _, rfl, ?_, ⟨_, rfl⟩, hW, hsame.mono (by decide) (by decide)⟩
                  · show Steps p.tables e below (s₁.setTop (mkF m 73 #[.val (.int p1)] [(.int (921600 : Int32)), (.int p1)])) _
                    refine XS.icmpYes X0.here hx rfl (pc0 := 73) (pc' := 84) rfl (hb hby d2_73) rfl (tlt hc130).1 (by decide) (by decide) ?_
                    show Steps p.tables e below (s₁.setTop (mkF m 84 #[.val (.int p1)] [])) _
                    refine XS.iconst X0.here hx rfl (hb hby d2_84) ?_
                    show Steps p.tables e below (s₁.setTop (mkF m 85 #[.val (.int p1)] [(.int (0 : Int32))])) _
                    exact retN X0 hx (t := .boolean) Bd.returns (by simp) (hb hby d2_85) hr
                  · show Q2 Z p1 h0 n0 _ s₁.heap _
                    rw [e0]
                    refine ⟨?_, N0, rfl⟩
                    show (some (.int (0 : Int32)) : Option Value) = some (.int (F2 p1))
                    rw [F2, if_neg hc2, if_pos hc72, if_neg hc74, if_pos hc108, if_neg hc110, if_pos hc126, if_pos hc128, if_pos hc130]
                · have pre131 : ∀ t, Steps p.tables e below (s₁.setTop (mkF m 79 #[.val (.int p1)] [(.int (983037 : Int32)), (.int p1)])) t → Steps p.tables e below (s₁.setTop (entryFrame m #[(.int p1)] 1)) t := fun t kt => by
                    refine pre129 t ?_
                    show Steps p.tables e below (s₁.setTop (mkF m 73 #[.val (.int p1)] [(.int (921600 : Int32)), (.int p1)])) _
                    refine XS.icmpNo X0.here hx rfl (hb hby d2_73) rfl (flt hc130).1 ?_
                    show Steps p.tables e below (s₁.setTop (mkF m 76 #[.val (.int p1)] [])) _
                    refine XS.iloadN X0.here hx rfl (hb hby d2_76) rfl ?_
                    show Steps p.tables e below (s₁.setTop (mkF m 77 #[.val (.int p1)] [(.int p1)])) _
                    refine X0.ldcInt hx hown (mvT hZ (hw _ (List.mem_of_getElem? (i := 25) rfl))) (g := (mkF m 77 #[.val (.int p1)] [(.int p1)])) rfl (hb hby d2_77) _ ?_
                    exact kt
                  by_cases hc132 : (983037 : Int32) < p1
                  · obtain ⟨fs, hr, hrun, hended, hW, hsame⟩ := X0.leave (v := some (.int (0 : Int32))) (fun h => by rw [Bd.returns] at h; cases h)
                    refine ⟨_, _, pre131 _ ?_, hrun, hended, _, _, rfl, ?_, ⟨_, rfl⟩, hW, hsame.mono (by decide) (by decide)⟩
                    · show Steps p.tables e below (s₁.setTop (mkF m 79 #[.val (.int p1)] [(.int (983037 : Int32)), (.int p1)])) _
                      refine XS.icmpYes X0.here hx rfl (pc0 := 79) (pc' := 84) rfl (hb hby d2_79) rfl (tlt hc132).2.2.1 (by decide) (by decide) ?_
                      show Steps p.tables e below (s₁.setTop (mkF m 84 #[.val (.int p1)] [])) _
                      refine XS.iconst X0.here hx rfl (hb hby d2_84) ?_
                      show Steps p.tables e below (s₁.setTop (mkF m 85 #[.val (.int p1)] [(.int (0 : Int32))])) _
                      exact retN X0 hx (t := .boolean) Bd.returns (by simp) (hb hby d2_85) hr
                    · show Q2 Z p1 h0 n0 _ s₁.heap _
                      rw [e0]
                      refine ⟨?_, N0, rfl⟩
                      show (some (.int (0 : Int32)) : Option Value) = some (.int (F2 p1))
                      rw [F2, if_neg hc2, if_pos hc72, if_neg hc74, if_pos hc108, if_neg hc110, if_pos hc126, if_pos hc128, if_neg hc130, if_pos hc132]
                  · obtain ⟨fs, hr, hrun, hended, hW, hsame⟩ := X0.leave (v := some (.int (1 : Int32))) (fun h => by rw [Bd.returns] at h; cases h)
                    refine ⟨_, _, pre131 _ ?_, hrun, hended, _, _, rfl, ?_, ⟨_, rfl⟩, hW, hsame.mono (by decide) (by decide)⟩
                    · show Steps p.tables e below (s₁.setTop (mkF m 79 #[.val (.int p1)] [(.int (983037 : Int32)), (.int p1)])) _
                      refine XS.icmpNo X0.here hx rfl (hb hby d2_79) rfl (flt hc132).2.2.1 ?_
                      show Steps p.tables e below (s₁.setTop (mkF m 82 #[.val (.int p1)] [])) _
                      refine XS.iconst X0.here hx rfl (hb hby d2_82) ?_
                      show Steps p.tables e below (s₁.setTop (mkF m 83 #[.val (.int p1)] [(.int (1 : Int32))])) _
                      exact retN X0 hx (t := .boolean) Bd.returns (by simp) (hb hby d2_83) hr
                    · show Q2 Z p1 h0 n0 _ s₁.heap _
                      rw [e0]
                      refine ⟨?_, N0, rfl⟩
                      show (some (.int (1 : Int32)) : Option Value) = some (.int (F2 p1))
                      rw [F2, if_neg hc2, if_pos hc72, if_neg hc74, if_pos hc108, if_neg hc110, if_pos hc126, if_pos hc128, if_neg hc130, if_neg hc132]
              · have pre133 : ∀ t, Steps p.tables e below (s₁.setTop (mkF m 52 #[.val (.int p1)] [(.int (917503 : Int32)), (.int p1)])) t → Steps p.tables e below (s₁.setTop (entryFrame m #[(.int p1)] 1)) t := fun t kt => by
                  refine pre127 t ?_
                  show Steps p.tables e below (s₁.setTop (mkF m 46 #[.val (.int p1)] [(.int (65536 : Int32)), (.int p1)])) _
                  refine XS.icmpNo X0.here hx rfl (hb hby d2_46) rfl (flt hc128).1 ?_
                  show Steps p.tables e below (s₁.setTop (mkF m 49 #[.val (.int p1)] [])) _
                  refine XS.iloadN X0.here hx rfl (hb hby d2_49) rfl ?_
                  show Steps p.tables e below (s₁.setTop (mkF m 50 #[.val (.int p1)] [(.int p1)])) _
                  refine X0.ldcInt hx hown (mvT hZ (hw _ (List.mem_of_getElem? (i := 21) rfl))) (g := (mkF m 50 #[.val (.int p1)] [(.int p1)])) rfl (hb hby d2_50) _ ?_
                  exact kt
                by_cases hc134 : (917503 : Int32) < p1
                · have pre135 : ∀ t, Steps p.tables e below (s₁.setTop (mkF m 73 #[.val (.int p1)] [(.int (921600 : Int32)), (.int p1)])) t → Steps p.tables e below (s₁.setTop (entryFrame m #[(.int p1)] 1)) t := fun t kt => by
                    refine pre133 t ?_
                    show Steps p.tables e below (s₁.setTop (mkF m 52 #[.val (.int p1)] [(.int (917503 : Int32)), (.int p1)])) _
                    refine XS.icmpYes X0.here hx rfl (pc0 := 52) (pc' := 70) rfl (hb hby d2_52) rfl (tlt hc134).2.2.1 (by decide) (by decide) ?_
                    show Steps p.tables e below (s₁.setTop (mkF m 70 #[.val (.int p1)] [])) _
                    refine XS.iloadN X0.here hx rfl (hb hby d2_70) rfl ?_
                    show Steps p.tables e below (s₁.setTop (mkF m 71 #[.val (.int p1)] [(.int p1)])) _
                    refine X0.ldcInt hx hown (mvT hZ (hw _ (List.mem_of_getElem? (i := 15) rfl))) (g := (mkF m 71 #[.val (.int p1)] [(.int p1)])) rfl (hb hby d2_71) _ ?_
                    exact kt
                  by_cases hc136 : p1 < (921600 : Int32)
                  · obtain ⟨fs, hr, hrun, hended, hW, hsame⟩ := X0.leave (v := some (.int (0 : Int32))) (fun h => by rw [Bd.returns] at h; cases h)
                    refine ⟨_, _, pre135 _ ?_, hrun, hended, _, _, rfl, ?_, ⟨_, rfl⟩, hW, hsame.mono (by decide) (by decide)⟩
                    · show Steps p.tables e below (s₁.setTop (mkF m 73 #[.val (.int p1)] [(.int (921600 : Int32)), (.int p1)])) _
                      refine XS.icmpYes X0.here hx rfl (pc0 := 73) (pc' := 84) rfl (hb hby d2_73) rfl (tlt hc136).1 (by decide) (by decide) ?_
                      show Steps p.tables e below (s₁.setTop (mkF m 84 #[.val (.int p1)] [])) _
                      refine XS.iconst X0.here hx rfl (hb hby d2_84) ?_
                      show Steps p.tables e below (s₁.setTop (mkF m 85 #[.val (.int p1)] [(.int (0 : Int32))])) _
                      exact retN X0 hx (t := .boolean) Bd.returns (by simp) (hb hby d2_85) hr
                    · show Q2 Z p1 h0 n0 _ s₁.heap _
                      rw [e0]
                      refine ⟨?_, N0, rfl⟩
                      show (some (.int (0 : Int32)) : Option Value) = some (.int (F2 p1))
                      rw [F2, if_neg hc2, if_pos hc72, if_neg hc74, if_pos hc108, if_neg hc110, if_pos hc126, if_neg hc128, if_pos hc134, if_pos hc136]
                  · have pre137 : ∀ t, Steps p.tables e below (s₁.setTop (mkF m 79 #[.val (.int p1)] [(.int (983037 : Int32)), (.int p1)])) t → Steps p.tables e below (s₁.setTop (entryFrame m #[(.int p1)] 1)) t := fun t kt => by
                      refine pre135 t ?_
                      show Steps p.tables e below (s₁.setTop (mkF m 73 #[.val (.int p1)] [(.int (921600 : Int32)), (.int p1)])) _
                      refine XS.icmpNo X0.here hx rfl (hb hby d2_73) rfl (flt hc136).1 ?_
                      show Steps p.tables e below (s₁.setTop (mkF m 76 #[.val (.int p1)] [])) _
                      refine XS.iloadN X0.here hx rfl (hb hby d2_76) rfl ?_
                      show Steps p.tables e below (s₁.setTop (mkF m 77 #[.val (.int p1)] [(.int p1)])) _
                      refine X0.ldcInt hx hown (mvT hZ (hw _ (List.mem_of_getElem? (i := 25) rfl))) (g := (mkF m 77 #[.val (.int p1)] [(.int p1)])) rfl (hb hby d2_77) _ ?_
                      exact kt
                    by_cases hc138 : (983037 : Int32) < p1
                    · obtain ⟨fs, hr, hrun, hended, hW, hsame⟩ := X0.leave (v := some (.int (0 : Int32))) (fun h => by rw [Bd.returns] at h; cases h)
                      refine ⟨_, _, pre137 _ ?_, hrun, hended, _, _, rfl, ?_, ⟨_, rfl⟩, hW, hsame.mono (by decide) (by decide)⟩
                      · show Steps p.tables e below (s₁.setTop (mkF m 79 #[.val (.int p1)] [(.int (983037 : Int32)), (.int p1)])) _
                        refine XS.icmpYes X0.here hx rfl (pc0 := 79) (pc' := 84) rfl (hb hby d2_79) rfl (tlt hc138).2.2.1 (by decide) (by decide) ?_
                        show Steps p.tables e below (s₁.setTop (mkF m 84 #[.val (.int p1)] [])) _
                        refine XS.iconst X0.here hx rfl (hb hby d2_84) ?_
                        show Steps p.tables e below (s₁.setTop (mkF m 85 #[.val (.int p1)] [(.int (0 : Int32))])) _
                        exact retN X0 hx (t := .boolean) Bd.returns (by simp) (hb hby d2_85) hr
                      · show Q2 Z p1 h0 n0 _ s₁.heap _
                        rw [e0]
                        refine ⟨?_, N0, rfl⟩
                        show (some (.int (0 : Int32)) : Option Value) = some (.int (F2 p1))
                        rw [F2, if_neg hc2, if_pos hc72, if_neg hc74, if_pos hc108, if_neg hc110, if_pos hc126, if_neg hc128, if_pos hc134, if_neg hc136, if_pos hc138]
                    · obtain ⟨fs, hr, hrun, hended, hW, hsame⟩ := X0.leave (v := some (.int (1 : Int32))) (fun h => by rw [Bd.returns] at h; cases h)
                      refine ⟨_, _, pre137 _ ?_, hrun, hended, _, _, rfl, ?_, ⟨_, rfl⟩, hW, hsame.mono (by decide) (by decide)⟩
                      · show Steps p.tables e below (s₁.setTop (mkF m 79 #[.val (.int p1)] [(.int (983037 : Int32)), (.int p1)])) _
                        refine XS.icmpNo X0.here hx rfl (hb hby d2_79) rfl (flt hc138).2.2.1 ?_
                        show Steps p.tables e below (s₁.setTop (mkF m 82 #[.val (.int p1)] [])) _
                        refine XS.iconst X0.here hx rfl (hb hby d2_82) ?_
                        show Steps p.tables e below (s₁.setTop (mkF m 83 #[.val (.int p1)] [(.int (1 : Int32))])) _
                        exact retN X0 hx (t := .boolean) Bd.returns (by simp) (hb hby d2_83) hr
                      · show Q2 Z p1 h0 n0 _ s₁.heap _
                        rw [e0]
                        refine ⟨?_, N0, rfl⟩
                        show (some (.int (1 : Int32)) : Option Value) = some (.int (F2 p1))
                        rw [F2, if_neg hc2, if_pos hc72, if_neg hc74, if_pos hc108, if_neg hc110, if_pos hc126, if_neg hc128, if_pos hc134, if_neg hc136, if_neg hc138]
                · have pre139 : ∀ t, Steps p.tables e below (s₁.setTop (mkF m 61 #[.val (.int p1)] [(.int (65533 : Int32)), (.int (p1 &&& (65535 : Int32)))])) t → Steps p.tables e below (s₁.setTop (entryFrame m #[(.int p1)] 1)) t := fun t kt => by
                    refine pre133 t ?_
                    show Steps p.tables e below (s₁.setTop (mkF m 52 #[.val (.int p1)] [(.int (917503 : Int32)), (.int p1)])) _
                    refine XS.icmpNo X0.here hx rfl (hb hby d2_52) rfl (flt hc134).2.2.1 ?_
                    show Steps p.tables e below (s₁.setTop (mkF m 55 #[.val (.int p1)] [])) _
                    refine XS.iloadN X0.here hx rfl (hb hby d2_55) rfl ?_
                    show Steps p.tables e below (s₁.setTop (mkF m 56 #[.val (.int p1)] [(.int p1)])) _
                    refine X0.ldcInt hx hown (mvT hZ (hw _ (List.mem_of_getElem? (i := 22) rfl))) (g := (mkF m 56 #[.val (.int p1)] [(.int p1)])) rfl (hb hby d2_56) _ ?_
                    show Steps p.tables e below (s₁.setTop (mkF m 58 #[.val (.int p1)] [(.int (65535 : Int32)), (.int p1)])) _
                    refine XS.iand X0.here hx rfl (hb hby d2_58) rfl ?_
                    show Steps p.tables e below (s₁.setTop (mkF m 59 #[.val (.int p1)] [(.int (p1 &&& (65535 : Int32)))])) _
                    refine X0.ldcInt hx hown (mvT hZ (hw _ (List.mem_of_getElem? (i := 23) rfl))) (g := (mkF m 59 #[.val (.int p1)] [(.int (p1 &&& (65535 : Int32)))])) rfl (hb hby d2_59) _ ?_
                    exact kt
                  by_cases hc140 : (65533 : Int32) < (p1 &&& (65535 : Int32))
                  · obtain ⟨fs, hr, hrun, hended, hW, hsame⟩ := X0.leave (v := some (.int (0 : Int32))) (fun h => by rw [Bd.returns] at h; cases h)
                    refine ⟨_, _, pre139 _ ?_, hrun, hended, _, _, rfl, ?_, ⟨_, rfl⟩, hW, hsame.mono (by decide) (by decide)⟩
                    · show Steps p.tables e below (s₁.setTop (mkF m 61 #[.val (.int p1)] [(.int (65533 : Int32)), (.int (p1 &&& (65535 : Int32)))])) _
                      refine XS.icmpYes X0.here hx rfl (pc0 := 61) (pc' := 68) rfl (hb hby d2_61) rfl (tlt hc140).2.2.1 (by decide) (by decide) ?_
                      show Steps p.tables e below (s₁.setTop (mkF m 68 #[.val (.int p1)] [])) _
                      refine XS.iconst X0.here hx rfl (hb hby d2_68) ?_
                      show Steps p.tables e below (s₁.setTop (mkF m 69 #[.val (.int p1)] [(.int (0 : Int32))])) _
                      exact retN X0 hx (t := .boolean) Bd.returns (by simp) (hb hby d2_69) hr
                    · show Q2 Z p1 h0 n0 _ s₁.heap _
                      rw [e0]
                      refine ⟨?_, N0, rfl⟩
                      show (some (.int (0 : Int32)) : Option Value) = some (.int (F2 p1))
                      rw [F2, if_neg hc2, if_pos hc72, if_neg hc74, if_pos hc108, if_neg hc110, if_pos hc126, if_neg hc128, if_neg hc134, if_pos hc140]
                  · obtain ⟨fs, hr, hrun, hended, hW, hsame⟩ := X0.leave (v := some (.int (1 : Int32))) (fun h => by rw [Bd.returns] at h; cases h)
                    refine ⟨_, _, pre139 _ ?_, hrun, hended, _, _, rfl, ?_, ⟨_, rfl⟩, hW, hsame.mono (by decide) (by decide)⟩
                    · show Steps p.tables e below (s₁.setTop (mkF m 61 #[.val (.int p1)] [(.int (65533 : Int32)), (.int (p1 &&& (65535 : Int32)))])) _
                      refine XS.icmpNo X0.here hx rfl (hb hby d2_61) rfl (flt hc140).2.2.1 ?_
                      show Steps p.tables e below (s₁.setTop (mkF m 64 #[.val (.int p1)] [])) _
                      refine XS.iconst X0.here hx rfl (hb hby d2_64) ?_
                      show Steps p.tables e below (s₁.setTop (mkF m 65 #[.val (.int p1)] [(.int (1 : Int32))])) _
                      refine XS.goto X0.here hx rfl (pc0 := 65) (pc' := 69) rfl (hb hby d2_65) (by decide) (by decide) ?_
                      show Steps p.tables e below (s₁.setTop (mkF m 69 #[.val (.int p1)] [(.int (1 : Int32))])) _
                      exact retN X0 hx (t := .boolean) Bd.returns (by simp) (hb hby d2_69) hr
                    · show Q2 Z p1 h0 n0 _ s₁.heap _
                      rw [e0]
                      refine ⟨?_, N0, rfl⟩
                      show (some (.int (1 : Int32)) : Option Value) = some (.int (F2 p1))
                      rw [F2, if_neg hc2, if_pos hc72, if_neg hc74, if_pos hc108, if_neg hc110, if_pos hc126, if_neg hc128, if_neg hc134, if_neg hc140]
            · obtain ⟨fs, hr, hrun, hended, hW, hsame⟩ := X0.leave (v := some (.int (1 : Int32))) (fun h => by rw [Bd.returns] at h; cases h)
              refine ⟨_, _, pre125 _ ?_, hrun, hended, _, _, rfl, ?_, ⟨_, rfl⟩, hW, hsame.mono (by decide) (by decide)⟩
              · show Steps p.tables e below (s₁.setTop (mkF m 38 #[.val (.int p1)] [(.int (65519 : Int32)), (.int p1)])) _
                refine XS.icmpNo X0.here hx rfl (hb hby d2_38) rfl (flt hc126).2.2.1 ?_
                show Steps p.tables e below (s₁.setTop (mkF m 41 #[.val (.int p1)] [])) _
                refine XS.iconst X0.here hx rfl (hb hby d2_41) ?_
                show Steps p.tables e below (s₁.setTop (mkF m 42 #[.val (.int p1)] [(.int (1 : Int32))])) _
                exact retN X0 hx (t := .boolean) Bd.returns (by simp) (hb hby d2_42) hr
              · show Q2 Z p1 h0 n0 _ s₁.heap _
                rw [e0]
                refine ⟨?_, N0, rfl⟩
                show (some (.int (1 : Int32)) : Option Value) = some (.int (F2 p1))
                rw [F2, if_neg hc2, if_pos hc72, if_neg hc74, if_pos hc108, if_neg hc110, if_neg hc126]
        · obtain ⟨fs, hr, hrun, hended, hW, hsame⟩ := X0.leave (v := some (.int (1 : Int32))) (fun h => by rw [Bd.returns] at h; cases h)
          refine ⟨_, _, pre107 _ ?_, hrun, hended, _, _, rfl, ?_, ⟨_, rfl⟩, hW, hsame.mono (by decide) (by decide)⟩
          · show Steps p.tables e below (s₁.setTop (mkF m 24 #[.val (.int p1)] [(.int (64975 : Int32)), (.int p1)])) _
            refine XS.icmpNo X0.here hx rfl (hb hby d2_24) rfl (flt hc108).2.2.1 ?_
            show Steps p.tables e below (s₁.setTop (mkF m 27 #[.val (.int p1)] [])) _
            refine XS.iconst X0.here hx rfl (hb hby d2_27) ?_
            show Steps p.tables e below (s₁.setTop (mkF m 28 #[.val (.int p1)] [(.int (1 : Int32))])) _
            exact retN X0 hx (t := .boolean) Bd.returns (by simp) (hb hby d2_28) hr
          · show Q2 Z p1 h0 n0 _ s₁.heap _
            rw [e0]
            refine ⟨?_, N0, rfl⟩
            show (some (.int (1 : Int32)) : Option Value) = some (.int (F2 p1))
            rw [F2, if_neg hc2, if_pos hc72, if_neg hc74, if_neg hc108]
    · obtain ⟨fs, hr, hrun, hended, hW, hsame⟩ := X0.leave (v := some (.int (1 : Int32))) (fun h => by rw [Bd.returns] at h; cases h)
      refine ⟨_, _, pre71 _ ?_, hrun, hended, _, _, rfl, ?_, ⟨_, rfl⟩, hW, hsame.mono (by decide) (by decide)⟩
      · show Steps p.tables e below (s₁.setTop (mkF m 10 #[.val (.int p1)] [(.int (55295 : Int32)), (.int p1)])) _
        refine XS.icmpNo X0.here hx rfl (hb hby d2_10) rfl (flt hc72).2.2.1 ?_
        show Steps p.tables e below (s₁.setTop (mkF m 13 #[.val (.int p1)] [])) _
        refine XS.iconst X0.here hx rfl (hb hby d2_13) ?_
        show Steps p.tables e below (s₁.setTop (mkF m 14 #[.val (.int p1)] [(.int (1 : Int32))])) _
        exact retN X0 hx (t := .boolean) Bd.returns (by simp) (hb hby d2_14) hr
      · show Q2 Z p1 h0 n0 _ s₁.heap _
        rw [e0]
        refine ⟨?_, N0, rfl⟩
        show (some (.int (1 : Int32)) : Option Value) = some (.int (F2 p1))
        rw [F2, if_neg hc2, if_neg hc72]
def own_S (x : Int) : Int := if 160 ≤ x ∧ x ≤ 55295 ∨ 63744 ≤ x ∧ x ≤ 64975 ∨ 65008 ≤ x ∧ x ≤ 65519 ∨ 65536 ≤ x ∧ x ≤ 917503 ∧ x % 65536 ≤ 65533 ∨ 921600 ≤ x ∧ x ≤ 983037 then 1 else 0
theorem own_F1 (v : Int32) (h : 0 ≤ v.toInt) : (F1 v).toInt = own_S v.toInt := by
  have d := (own_dm v 65536 (by decide)).1 h
  simp only [F1, own_ltI, own_eqI, apply_ite Int32.toInt, Int32.reduceToInt] at d ⊢
  generalize (v / 65536).toInt = q at *
  generalize (v % 65536).toInt = r at *
  generalize v.toInt = x at *
  have hs : (own_S x = 1 ∧ (160 ≤ x ∧ x ≤ 55295 ∨ 63744 ≤ x ∧ x ≤ 64975 ∨ 65008 ≤ x ∧ x ≤ 65519 ∨ 65536 ≤ x ∧ x ≤ 917503 ∧ x % 65536 ≤ 65533 ∨ 921600 ≤ x ∧ x ≤ 983037)) ∨ (own_S x = 0 ∧ ¬ (160 ≤ x ∧ x ≤ 55295 ∨ 63744 ≤ x ∧ x ≤ 64975 ∨ 65008 ≤ x ∧ x ≤ 65519 ∨ 65536 ≤ x ∧ x ≤ 917503 ∧ x % 65536 ≤ 65533 ∨ 921600 ≤ x ∧ x ≤ 983037)) := by
    unfold own_S; split
    · exact Or.inl ⟨rfl, ‹_›⟩
    · exact Or.inr ⟨rfl, ‹_›⟩
  generalize own_S x = z at *
  repeat' split
  all_goals omega
theorem own_F2 (v : Int32) : (F2 v).toInt = own_S v.toInt := by
  have d : (v &&& 65535).toInt = v.toInt % 2 ^ 16 := Jvm.Kit.i32_mask v 65535 (k := 16) (by decide) (by decide)
  simp only [F2, own_ltI, own_eqI, apply_ite Int32.toInt, Int32.reduceToInt] at d ⊢
  generalize (v &&& 65535).toInt = q at *
  generalize v.toInt = x at *
  have hs : (own_S x = 1 ∧ (160 ≤ x ∧ x ≤ 55295 ∨ 63744 ≤ x ∧ x ≤ 64975 ∨ 65008 ≤ x ∧ x ≤ 65519 ∨ 65536 ≤ x ∧ x ≤ 917503 ∧ x % 65536 ≤ 65533 ∨ 921600 ≤ x ∧ x ≤ 983037)) ∨ (own_S x = 0 ∧ ¬ (160 ≤ x ∧ x ≤ 55295 ∨ 63744 ≤ x ∧ x ≤ 64975 ∨ 65008 ≤ x ∧ x ≤ 65519 ∨ 65536 ≤ x ∧ x ≤ 917503 ∧ x % 65536 ≤ 65533 ∨ 921600 ≤ x ∧ x ≤ 983037)) := by
    unfold own_S; split
    · exact Or.inl ⟨rfl, ‹_›⟩
    · exact Or.inr ⟨rfl, ‹_›⟩
  generalize own_S x = z at *
  repeat' split
  all_goals omega
theorem pn_0 : plainName "com/example/lofu/lofu/text/IriCharactersIsUcsCharPinLaw" = true := by first | (simp [plainName, overriddenIn]; done) | decide +kernel
theorem pd_0_0 : parseMethodDescriptor "(I)Z" = some ⟨[.int], some .boolean⟩ := by decide +kernel
theorem ef_0 (m : MethodId) (p1 : Int32) (p2 : Int32) : entryFrame m #[(.int p1), (.int p2)] maxLocals = mkF m 0 #[.val (.int p1), .val (.int p2), .unset, .unset] [] := by first | (simp [entryFrame, mkF, argsToLocals, Value.category, maxLocals]; done) | rfl
set_option maxRecDepth 65536 in
set_option maxHeartbeats 40000000 in
theorem leaf_0_2 (p1 : Int32) (p2 : Int32) (v4 : Int32) (hv4 : v4 = (if (p2 &&& (1 : Int32)) = (0 : Int32) then ((p1 &&& (2147483647 : Int32)) % (1179648 : Int32)) else (p1 &&& (2147483647 : Int32)))) (hc8 : ¬ ((F1 v4) = (F2 v4))) : False := by
  refine hc8 ?_
  have m1 : (p1 &&& 2147483647).toInt = p1.toInt % 2 ^ 31 := Jvm.Kit.i32_mask p1 2147483647 (k := 31) (by decide) (by decide)
  have h : 0 ≤ v4.toInt := by
    have d := (own_dm (p1 &&& 2147483647) 1179648 (by decide)).1 (by omega)
    have e0 : (1179648 : Int32).toInt = 1179648 := rfl
    rw [e0] at d
    subst hv4
    split <;> omega
  rw [own_eqI, own_F1 v4 h, own_F2]
def Q0 (Z : State) (p1 : Int32) (p2 : Int32) (h0 : Heap) (n0 : Nat) (v : Option Value) (h : Heap) (L : List Loc) : Prop := v = some (.int (1 : Int32)) ∧ Fr n0 L
set_option maxRecDepth 65536 in
set_option maxHeartbeats 40000000 in
theorem rm0 (l : Launch) (Z : State) (a0 : Array Value) (hw : ∀ d ∈ tables_1, d.before a0 Z = true) (ws : List Jvm.Cond) (p1 : Int32) (p2 : Int32) (h0 : Heap) (n0 : Nat) (Z0 : n0 ≤ h0.size) :
    MetFree l x (head1 (Jvm.Cond.code x code maxLocals ret :: ws) room_1) (fun a U => a = #[(.int p1), (.int p2)] ∧ Z.Warmed39 U.vm ∧ U.heap = h0) (fun _ _ _ _ _ => True) (fun _ U o U' => ∃ v L, o = .returned v ∧ Q0 Z p1 p2 h0 n0 v U'.heap L ∧ FrameEnd U o U' L room_1.cells room_1.slots) := by
  refine MetFree.of_bodySF (plainFor_of_name pn_0) hisR ?_
  intro p e s m args below meth c s₁ Bd hml0 hP hK
  obtain ⟨rfl, hZ, hh⟩ := hP
  have hx := Bd.exec
  have hby := Bd.bytes
  have hml : c.maxLocals = 4 := hml0
  have hown : s.vm.findClass "com/example/lofu/lofu/text/IriCharactersIsUcsCharPinLaw" = some m.cls := findClass_of_methodNamed Bd.named
  have hnm := (name_of_methodNamed Bd.named Bd.method).1
  have X0 : Stand p l e room_1 s m #[(.int p1), (.int p2)] below meth c s₁ [] 0 0 := Stand.of_body Bd
  have e0 : s₁.heap = h0 := by rw [← hh, Bd.state]; rfl
  have N0 := Fr.nil n0
  have pre0 : ∀ t, Steps p.tables e below (s₁.setTop (mkF m 0 #[.val (.int p1), .val (.int p2), .unset, .unset] [])) t → Steps p.tables e below (s₁.setTop (entryFrame m #[(.int p1), (.int p2)] maxLocals)) t := fun t k => castTop (ef_0 m p1 p2) k
  have pre1 : ∀ t, Steps p.tables e below (s₁.setTop (mkF m 8 #[.val (.int p1), .val (.int p2), .val (.int (p1 &&& (2147483647 : Int32))), .unset] [(.int (p2 &&& (1 : Int32)))])) t → Steps p.tables e below (s₁.setTop (entryFrame m #[(.int p1), (.int p2)] maxLocals)) t := fun t kt => by
    refine pre0 t ?_
    show Steps p.tables e below (s₁.setTop (mkF m 0 #[.val (.int p1), .val (.int p2), .unset, .unset] [])) _
    refine XS.iloadN X0.here hx rfl (hb hby at_0) rfl ?_
    show Steps p.tables e below (s₁.setTop (mkF m 1 #[.val (.int p1), .val (.int p2), .unset, .unset] [(.int p1)])) _
    refine X0.ldcInt hx hown (mvT hZ (hw _ (List.mem_of_getElem? (i := 0) rfl))) (g := (mkF m 1 #[.val (.int p1), .val (.int p2), .unset, .unset] [(.int p1)])) rfl (hb hby at_1) _ ?_
    show Steps p.tables e below (s₁.setTop (mkF m 3 #[.val (.int p1), .val (.int p2), .unset, .unset] [(.int (2147483647 : Int32)), (.int p1)])) _
    refine XS.iand X0.here hx rfl (hb hby at_3) rfl ?_
    show Steps p.tables e below (s₁.setTop (mkF m 4 #[.val (.int p1), .val (.int p2), .unset, .unset] [(.int (p1 &&& (2147483647 : Int32)))])) _
    refine XS.istoreN X0.here hx rfl (hb hby at_4) rfl (l' := #[.val (.int p1), .val (.int p2), .val (.int (p1 &&& (2147483647 : Int32))), .unset]) rfl ?_
    show Steps p.tables e below (s₁.setTop (mkF m 5 #[.val (.int p1), .val (.int p2), .val (.int (p1 &&& (2147483647 : Int32))), .unset] [])) _
    refine XS.iloadN X0.here hx rfl (hb hby at_5) rfl ?_
    show Steps p.tables e below (s₁.setTop (mkF m 6 #[.val (.int p1), .val (.int p2), .val (.int (p1 &&& (2147483647 : Int32))), .unset] [(.int p2)])) _
    refine XS.iconst X0.here hx rfl (hb hby at_6) ?_
    show Steps p.tables e below (s₁.setTop (mkF m 7 #[.val (.int p1), .val (.int p2), .val (.int (p1 &&& (2147483647 : Int32))), .unset] [(.int (1 : Int32)), (.int p2)])) _
    refine XS.iand X0.here hx rfl (hb hby at_7) rfl ?_
    exact kt
  have pre3 : ∀ t, Steps p.tables e below (s₁.setTop (mkF m 19 #[.val (.int p1), .val (.int p2), .val (.int (p1 &&& (2147483647 : Int32))), .unset] [(.int (if (p2 &&& (1 : Int32)) = (0 : Int32) then ((p1 &&& (2147483647 : Int32)) % (1179648 : Int32)) else (p1 &&& (2147483647 : Int32))))])) t → Steps p.tables e below (s₁.setTop (entryFrame m #[(.int p1), (.int p2)] maxLocals)) t := by
    by_cases hc2 : (p2 &&& (1 : Int32)) = (0 : Int32)
    · refine fun t kt => pre1 t ?_
      repeat rw [if_pos hc2] at kt
      show Steps p.tables e below (s₁.setTop (mkF m 8 #[.val (.int p1), .val (.int p2), .val (.int (p1 &&& (2147483647 : Int32))), .unset] [(.int (p2 &&& (1 : Int32)))])) _
      refine XS.ifYes X0.here hx rfl (pc0 := 8) (pc' := 15) rfl (hb hby at_8) rfl ((if0 _ _).trans (teq hc2).1) (by decide) (by decide) ?_
      show Steps p.tables e below (s₁.setTop (mkF m 15 #[.val (.int p1), .val (.int p2), .val (.int (p1 &&& (2147483647 : Int32))), .unset] [])) _
      refine XS.iloadN X0.here hx rfl (hb hby at_15) rfl ?_
      show Steps p.tables e below (s₁.setTop (mkF m 16 #[.val (.int p1), .val (.int p2), .val (.int (p1 &&& (2147483647 : Int32))), .unset] [(.int (p1 &&& (2147483647 : Int32)))])) _
      refine X0.ldcInt hx hown (mvT hZ (hw _ (List.mem_of_getElem? (i := 16) rfl))) (g := (mkF m 16 #[.val (.int p1), .val (.int p2), .val (.int (p1 &&& (2147483647 : Int32))), .unset] [(.int (p1 &&& (2147483647 : Int32)))])) rfl (hb hby at_16) _ ?_
      show Steps p.tables e below (s₁.setTop (mkF m 18 #[.val (.int p1), .val (.int p2), .val (.int (p1 &&& (2147483647 : Int32))), .unset] [(.int (1179648 : Int32)), (.int (p1 &&& (2147483647 : Int32)))])) _
      refine iremM X0 hx rfl (hb hby at_18) rfl (by decide) ?_
      exact kt
    · refine fun t kt => pre1 t ?_
      repeat rw [if_neg hc2] at kt
      show Steps p.tables e below (s₁.setTop (mkF m 8 #[.val (.int p1), .val (.int p2), .val (.int (p1 &&& (2147483647 : Int32))), .unset] [(.int (p2 &&& (1 : Int32)))])) _
      refine XS.ifNo X0.here hx rfl (hb hby at_8) rfl ((if0 _ _).trans (feq hc2).1) ?_
      show Steps p.tables e below (s₁.setTop (mkF m 11 #[.val (.int p1), .val (.int p2), .val (.int (p1 &&& (2147483647 : Int32))), .unset] [])) _
      refine XS.iloadN X0.here hx rfl (hb hby at_11) rfl ?_
      show Steps p.tables e below (s₁.setTop (mkF m 12 #[.val (.int p1), .val (.int p2), .val (.int (p1 &&& (2147483647 : Int32))), .unset] [(.int (p1 &&& (2147483647 : Int32)))])) _
      refine XS.goto X0.here hx rfl (pc0 := 12) (pc' := 19) rfl (hb hby at_12) (by decide) (by decide) ?_
      exact kt
  obtain ⟨v4, hv4⟩ : ∃ z : Int32, z = (if (p2 &&& (1 : Int32)) = (0 : Int32) then ((p1 &&& (2147483647 : Int32)) % (1179648 : Int32)) else (p1 &&& (2147483647 : Int32))) := ⟨_, rfl⟩
  rw [← hv4] at pre3
  obtain ⟨_, _, ⟨T5, L5, k5, n5⟩, -, X5, ⟨Lc5, hQ5, l5, y5, z5⟩, st5⟩ := Jvm.LawKit.callS X0 hx (y := (⟨"com/example/lofu/lofu/text/IriCharacters", "isUcsChar", "(I)Z"⟩ : MethodName)) hown (mvT hZ (hw _ (List.mem_of_getElem? (i := 1) rfl))) (mvT hZ (hw _ (List.mem_of_getElem? (i := 2) rfl))) (mvT hZ (hw _ (List.mem_of_getElem? (i := 3) rfl))) (mvT hZ (hw _ (List.mem_of_getElem? (i := 4) rfl))) (by decide) (backOf (W := 0) (rm1 l Z a0 hw [] v4 h0 n0 Z0) hZ (hw _ (List.mem_of_getElem? (i := 4) rfl)) (hw _ (List.mem_of_getElem? (i := 3) rfl)) (by decide) (by decide)) (g := (mkF m 21 #[.val (.int p1), .val (.int p2), .val (.int (p1 &&& (2147483647 : Int32))), .val (.int v4)] [(.int v4)])) rfl (by rw [hml]; rfl) (argsL := [(.int v4)]) (rest := []) (lenOf pd_0_0 rfl) rfl (by show 2 * 0 + _ ≤ _; exact Nat.le_of_eq rfl) (hb hby at_21) (fun _ _ => ⟨rfl, e0, (by decide : 0 + 0 ≤ _), (by decide : 0 + 0 ≤ _)⟩)
  dsimp only [Pt.U, Pt.locs, Pt.cells, Pt.slots] at X5 l5 y5 z5 st5 hQ5
  subst l5 y5 z5
  obtain ⟨rfl, N5q, e5⟩ := hQ5
  have N5 := Fr.app N0 N5q
  obtain ⟨_, _, ⟨T6, L6, k6, n6⟩, -, X6, ⟨Lc6, hQ6, l6, y6, z6⟩, st6⟩ := Jvm.LawKit.callS X5 hx (y := (⟨"com/example/lofu/lofu/text/IriCharactersIsUcsCharPinLaw", "expected", "(I)Z"⟩ : MethodName)) hown (mvT hZ (hw _ (List.mem_of_getElem? (i := 8) rfl))) (mvT hZ (hw _ (List.mem_of_getElem? (i := 9) rfl))) (mvT hZ (hw _ (List.mem_of_getElem? (i := 10) rfl))) (mvT hZ (hw _ (List.mem_of_getElem? (i := 11) rfl))) (by decide) (backOf (W := 1) (rm2 l Z a0 hw [] v4 h0 n0 Z0) hZ (hw _ (List.mem_of_getElem? (i := 11) rfl)) (hw _ (List.mem_of_getElem? (i := 10) rfl)) (by decide) (by decide)) (g := (mkF m 25 #[.val (.int p1), .val (.int p2), .val (.int (p1 &&& (2147483647 : Int32))), .val (.int v4)] [(.int v4), (.int (F1 v4))])) rfl (by rw [hml]; rfl) (argsL := [(.int v4)]) (rest := [(.int (F1 v4))]) (lenOf pd_0_0 rfl) rfl (by show 2 * 0 + _ ≤ _; exact Nat.le_of_eq rfl) (hb hby at_25) (fun _ _ => ⟨rfl, e5, (by decide : 0 + 0 ≤ _), (by decide : 0 + 0 ≤ _)⟩)
  dsimp only [Pt.U, Pt.locs, Pt.cells, Pt.slots] at X6 l6 y6 z6 st6 hQ6
  subst l6 y6 z6
  obtain ⟨rfl, N6q, e6⟩ := hQ6
  have N6 := Fr.app N5 N6q
  have pre7 : ∀ t, Steps p.tables e below (T6.setTop (mkF m 28 #[.val (.int p1), .val (.int p2), .val (.int (p1 &&& (2147483647 : Int32))), .val (.int v4)] [(.int (F2 v4)), (.int (F1 v4))])) t → Steps p.tables e below (s₁.setTop (entryFrame m #[(.int p1), (.int p2)] maxLocals)) t := fun t kt => by
    refine pre3 t ?_
    show Steps p.tables e below (s₁.setTop (mkF m 19 #[.val (.int p1), .val (.int p2), .val (.int (p1 &&& (2147483647 : Int32))), .unset] [(.int v4)])) _
    refine XS.istoreN X0.here hx rfl (hb hby at_19) rfl (l' := #[.val (.int p1), .val (.int p2), .val (.int (p1 &&& (2147483647 : Int32))), .val (.int v4)]) rfl ?_
    show Steps p.tables e below (s₁.setTop (mkF m 20 #[.val (.int p1), .val (.int p2), .val (.int (p1 &&& (2147483647 : Int32))), .val (.int v4)] [])) _
    refine XS.iloadN X0.here hx rfl (hb hby at_20) rfl ?_
    show Steps p.tables e below (s₁.setTop (mkF m 21 #[.val (.int p1), .val (.int p2), .val (.int (p1 &&& (2147483647 : Int32))), .val (.int v4)] [(.int v4)])) _
    refine st5 _ ?_
    show Steps p.tables e below (T5.setTop (mkF m 24 #[.val (.int p1), .val (.int p2), .val (.int (p1 &&& (2147483647 : Int32))), .val (.int v4)] [(.int (F1 v4))])) _
    refine XS.iloadN X5.here hx rfl (hb hby at_24) rfl ?_
    show Steps p.tables e below (T5.setTop (mkF m 25 #[.val (.int p1), .val (.int p2), .val (.int (p1 &&& (2147483647 : Int32))), .val (.int v4)] [(.int v4), (.int (F1 v4))])) _
    refine st6 _ ?_
    exact kt
  by_cases hc8 : (F1 v4) = (F2 v4)
  · obtain ⟨fs, hr, hrun, hended, hW, hsame⟩ := X6.leave (v := some (.int (1 : Int32))) (fun h => by rw [Bd.returns] at h; cases h)
    refine ⟨_, _, pre7 _ ?_, hrun, hended, _, _, rfl, ?_, ⟨_, rfl⟩, hW, hsame.mono (by decide) (by decide)⟩
    · show Steps p.tables e below (T6.setTop (mkF m 28 #[.val (.int p1), .val (.int p2), .val (.int (p1 &&& (2147483647 : Int32))), .val (.int v4)] [(.int (F2 v4)), (.int (F1 v4))])) _
      refine XS.icmpNo X6.here hx rfl (hb hby at_28) rfl (teq hc8).2 ?_
      show Steps p.tables e below (T6.setTop (mkF m 31 #[.val (.int p1), .val (.int p2), .val (.int (p1 &&& (2147483647 : Int32))), .val (.int v4)] [])) _
      refine XS.iconst X6.here hx rfl (hb hby at_31) ?_
      show Steps p.tables e below (T6.setTop (mkF m 32 #[.val (.int p1), .val (.int p2), .val (.int (p1 &&& (2147483647 : Int32))), .val (.int v4)] [(.int (1 : Int32))])) _
      refine XS.goto X6.here hx rfl (pc0 := 32) (pc' := 36) rfl (hb hby at_32) (by decide) (by decide) ?_
      show Steps p.tables e below (T6.setTop (mkF m 36 #[.val (.int p1), .val (.int p2), .val (.int (p1 &&& (2147483647 : Int32))), .val (.int v4)] [(.int (1 : Int32))])) _
      exact retN X6 hx (t := .boolean) Bd.returns (by simp) (hb hby at_36) hr
    · show Q0 Z p1 p2 h0 n0 _ T6.heap _
      rw [e6]
      exact ⟨rfl, N6⟩
  · exact (leaf_0_2 p1 p2 v4 hv4 hc8).elim
set_option maxRecDepth 65536 in
set_option maxHeartbeats 40000000 in
theorem comes_1 {Post : Tables → Env → Array Value → State → Outcome → State → Prop} (hpost : ∀ tb e args s v u, (limb_1_1.after args s (.returned v) u = true ∧ limb_1_2.after args s (.returned v) u = true ∧ True) → FrameEnd s (.returned v) u (Jvm.fieldLocs frame_1_writes args s ++ Jvm.arrayLocs frame_1_arrays args s ++ Jvm.staticLocs frame_1_statics s) 0 0 → Post tb e args s (.returned v) u) :
    ArmFor flags0 classFile x code maxLocals ret World_1 tables_1 room_1 Calls_1 rest_1 Pre_1 Post := by
  intro l hfl _ _ p e ha hc hk s m args below hf hA hF happ hP
  obtain ⟨hcalls, hrest, hpre⟩ := hP
  obtain ⟨-, -, -, hnamed, -, -, -, hat⟩ := (Spec.applies_iff hf).mp happ
  obtain ⟨hg, hn⟩ := and_e (Cond.before_iff.mp (show (Jvm.Cond.and given_1 narrow_1).before args s = true from hpre))
  obtain ⟨g1, g2⟩ := and_e hg
  obtain ⟨g3, g4⟩ := and_e g2
  obtain ⟨w0, w1, rfl⟩ : ∃ w0 w1 : Value, args = #[w0, w1] := by
    have hs : args.size = 2 := by simpa [Cond.value, given_1] using g1
    obtain ⟨L⟩ := args
    match L, hs with
    | [w0, w1], _ => exact ⟨w0, w1, rfl⟩
  have hw := fun d (hd : d ∈ tables_1) => atoms_spec (ws := Jvm.Cond.code x code maxLocals ret :: tables_1) hat d (List.mem_cons_of_mem _ hd)
  have hfit : Fit s := fun {y c} hc i hi => by
    obtain ⟨ha, rfl⟩ := Array.getElem?_eq_some_iff.mp hc
    have q := List.all_eq_true.mp ((Array.all_eq_true_iff_forall_mem.mp hF) _ (Array.getElem_mem ha)) i (List.mem_range.mpr hi)
    simpa [Array.getElem?_eq_getElem hi] using q
  obtain ⟨i0, ei0⟩ := is_v g3
  obtain rfl : w0 = (.int i0) := Option.some.inj ei0
  obtain ⟨i1, ei1⟩ := is_v g4
  obtain rfl : w1 = (.int i1) := Option.some.inj ei1
  obtain ⟨n, o, h1, h2, h3, _, L, rfl, ⟨rfl, N⟩, hq⟩ := rm0 l s _ hw tables_1 i0 i1 s.heap s.heap.size (Nat.le_refl _) p e ha hc hk s m _ below hf ((Spec.applies_iff_loose hf).mp happ).1 ⟨rfl, State.Warmed39.refl s, rfl⟩ trivial
  refine ⟨n, _, h1, h2, h3, hpost _ _ _ _ _ _ ⟨Cond.after_iff.mpr rfl, Cond.after_iff.mpr (eq_i res_at (Term.int_eval (1)) rfl), trivial⟩ ⟨hq.1, hq.2.1, (hq.2.2.sift fun y hy => Or.inr (N y hy)).mono (by decide) (by decide)⟩⟩
theorem main_1_1 : Claimed_1_1 := comes_1 fun _ _ _ _ _ _ h hF => ⟨h.1, hF⟩
theorem main_1_2 : Claimed_1_2 := comes_1 fun _ _ _ _ _ _ h hF => ⟨h.2.1, hF⟩
end Jvm.Pilot.@@N@@
namespace Jvm.Pilot.@@N@@
open Jvm Jvm.ClassFile Sem Op Lib Jvm.Free Jvm.Stand Jvm.Pilot.@@N@@.Jvm.D
/-! MADE BY PROGRAM (witnessworld.py) out of the Statement's table words and the real class files: 9 classes; the members and pool entries that the words name. The judged class is class 1, her method 1. -/
namespace start1
open Jvm.ClassFile
def u (s : String) : CpInfo := .utf8 (stringToUtf16 s)
/-- a pool by its gaps: so many unusable entries, then the entry; so many at the end -/
def gap : Nat → List CpInfo → List CpInfo
  | 0, r => r
  | n + 1, r => .unusable :: gap n r
def poolList (es : List (Nat × CpInfo)) (last : Nat) : List CpInfo := es.foldr (fun e r => gap e.1 (e.2 :: r)) (gap last [])
def pool (es : List (Nat × CpInfo)) (last : Nat) : Array CpInfo := ⟨poolList es last⟩
def fileOf (pool : Array CpInfo) (this : Nat) (attrs : Array Attribute := #[]) (ms : Array MethodInfo := #[]) (fl : Nat := 33) (sup : Nat := 0) (ifs : Array Nat := #[]) (fds : Array FieldInfo := #[]) : ClassFile where
  minorVersion := 0
  majorVersion := 65
  constantPool := pool
  accessFlags := fl
  thisClass := this
  superClass := sup
  interfaces := ifs
  fields := fds
  methods := ms
  attributes := attrs
def plain (name : String) (sup : Option ClassId) : Class where
  name := name
  kind := .ordinary
  loader := none
  accessFlags := 33
  super := sup
  interfaces := #[]
  cf := none
  fields := #[]
  methods := #[]
  instanceTypes := #[]
  staticTypes := #[]
  resolved := #[]
  callSites := []
  init := .initialized
  statics := none
  mirror := none

def pool0 : Array CpInfo := pool [(5, u "<init>"), (0, u "()V"), (1, .class_ 10), (1, u "java/lang/Object")] 113

def k0m0 : Method := { name := "<init>", desc := "()V", sig := { parameters := [], returnType := none }, accessFlags := 1, code := none }
/-- java/lang/Object -/
def k0 : Class := { plain "java/lang/Object" none with
  accessFlags := 33
  interfaces := #[]
  cf := some (fileOf pool0 8 #[] #[{ accessFlags := 1, nameIndex := 5, descriptorIndex := 6, attributes := #[] }] 33 0 #[] #[])
  fields := #[]
  methods := #[k0m0]
  instanceTypes := #[]
  staticTypes := #[]
  resolved := Array.replicate 124 none
  statics := none }

def pool1 : Array CpInfo := pool [(2, .class_ 4), (1, u "java/lang/Object"), (0, u "<init>"), (0, u "()V"), (0, .integer 2147483647), (0, .integer 1179648), (0, .methodref 10 11), (0, .class_ 12), (0, .nameAndType 13 14), (0, u "com/example/lofu/lofu/text/IriCharacters"), (0, u "isUcsChar"), (0, u "(I)Z"), (0, .methodref 16 17), (0, .class_ 18), (0, .nameAndType 19 14), (0, u "com/example/lofu/lofu/text/IriCharactersIsUcsCharPinLaw"), (0, u "expected"), (0, .integer 55295), (0, .integer 63744), (0, .integer 64975), (0, .integer 65008), (0, .integer 65519), (0, .integer 65536), (0, .integer 917503), (0, .integer 65535), (0, .integer 65533), (0, .integer 921600), (0, .integer 983037), (2, u "law"), (0, u "(II)Z")] 3

def k1m0 : Method := { name := "<init>", desc := "()V", sig := { parameters := [], returnType := none }, accessFlags := 2, code := none }
def k1c1 : Code := { maxStack := 2, maxLocals := 4, code := code, exceptionTable := #[], attributes := #[] }
def k1m1 : Method := { name := "law", desc := "(II)Z", sig := { parameters := [.int, .int], returnType := some .boolean }, accessFlags := 9, code := some k1c1 }
def k1c2 : Code := { maxStack := 2, maxLocals := 1, code := method_3_code, exceptionTable := #[], attributes := #[] }
def k1m2 : Method := { name := "expected", desc := "(I)Z", sig := { parameters := [.int], returnType := some .boolean }, accessFlags := 10, code := some k1c2 }
/-- com/example/lofu/lofu/text/IriCharactersIsUcsCharPinLaw -/
def k1 : Class := { plain "com/example/lofu/lofu/text/IriCharactersIsUcsCharPinLaw" (some 0) with
  accessFlags := 49
  interfaces := #[]
  cf := some (fileOf pool1 16 #[] #[{ accessFlags := 2, nameIndex := 5, descriptorIndex := 6, attributes := #[] }, { accessFlags := 9, nameIndex := 33, descriptorIndex := 34, attributes := #[] }, { accessFlags := 10, nameIndex := 19, descriptorIndex := 14, attributes := #[] }] 49 2 #[] #[])
  fields := #[]
  methods := #[k1m0, k1m1, k1m2]
  instanceTypes := #[]
  staticTypes := #[]
  resolved := Array.replicate 38 none
  statics := none }

def pool2 : Array CpInfo := pool [(2, .class_ 4), (1, u "java/lang/Object"), (0, u "<init>"), (0, u "()V"), (0, .class_ 8), (0, u "com/example/lofu/lofu/text/IriCharacters"), (0, .integer 65536), (0, .integer 55295), (0, .integer 63744), (0, .integer 64975), (0, .integer 65008), (0, .integer 65519), (0, .integer 65533), (2, u "PLANE_SIZE"), (0, u "I"), (1, u "LAST_IN_PLANE"), (2, u "isUcsChar"), (0, u "(I)Z")] 4

def k2m0 : Method := { name := "<init>", desc := "()V", sig := { parameters := [], returnType := none }, accessFlags := 2, code := none }
def k2c1 : Code := { maxStack := 2, maxLocals := 4, code := prog_12_method_2_code, exceptionTable := #[], attributes := #[] }
def k2m1 : Method := { name := "isUcsChar", desc := "(I)Z", sig := { parameters := [.int], returnType := some .boolean }, accessFlags := 9, code := some k2c1 }
/-- com/example/lofu/lofu/text/IriCharacters -/
def k2 : Class := { plain "com/example/lofu/lofu/text/IriCharacters" (some 0) with
  accessFlags := 49
  interfaces := #[]
  cf := some (fileOf pool2 7 #[] #[{ accessFlags := 2, nameIndex := 5, descriptorIndex := 6, attributes := #[] }, { accessFlags := 9, nameIndex := 24, descriptorIndex := 25, attributes := #[] }] 49 2 #[] #[{ accessFlags := 26, nameIndex := 18, descriptorIndex := 19, attributes := #[] }, { accessFlags := 26, nameIndex := 21, descriptorIndex := 19, attributes := #[] }])
  fields := #[{ name := "PLANE_SIZE", type := .int, accessFlags := 26, slot := 0, constantValue := 0 }, { name := "LAST_IN_PLANE", type := .int, accessFlags := 26, slot := 1, constantValue := 0 }]
  methods := #[k2m0, k2m1]
  instanceTypes := #[]
  staticTypes := #[.int, .int]
  resolved := Array.replicate 30 none
  statics := none }

def pool3 : Array CpInfo := pool [(1, u "java/lang/Cloneable"), (0, .class_ 1), (0, u "java/lang/Object"), (0, .class_ 3)] 3

/-- java/lang/Cloneable -/
def k3 : Class := { plain "java/lang/Cloneable" (some 0) with
  accessFlags := 1537
  interfaces := #[]
  cf := some (fileOf pool3 2 #[] #[] 1537 4 #[] #[])
  fields := #[]
  methods := #[]
  instanceTypes := #[]
  staticTypes := #[]
  resolved := Array.replicate 8 none
  statics := none }

def pool4 : Array CpInfo := pool [(1, u "java/io/Serializable"), (0, .class_ 1), (0, u "java/lang/Object"), (0, .class_ 3)] 3

/-- java/io/Serializable -/
def k4 : Class := { plain "java/io/Serializable" (some 0) with
  accessFlags := 1537
  interfaces := #[]
  cf := some (fileOf pool4 2 #[] #[] 1537 4 #[] #[])
  fields := #[]
  methods := #[]
  instanceTypes := #[]
  staticTypes := #[]
  resolved := Array.replicate 8 none
  statics := none }

/-- the primitive byte -/
def k5 : Class := { plain "byte" none with kind := .primitive 'B', accessFlags := 0x411 }
/-- [B -/
def k6 : Class := { plain "[B" (some 0) with kind := .array 5 .byte, interfaces := #[3, 4], accessFlags := 1041 }

/-- the primitive int -/
def k7 : Class := { plain "int" none with kind := .primitive 'I', accessFlags := 0x411 }
/-- [I -/
def k8 : Class := { plain "[I" (some 0) with kind := .array 7 .int, interfaces := #[3, 4], accessFlags := 1041 }

def heap : Heap := #[]
def classes : Array Class := #[k0, k1, k2, k3, k4, k5, k6, k7, k8]
def interned : List (Array UInt16 × Addr) := []
def slotsUsed : Nat := 0
def theMethod : MethodId := ⟨1, 1⟩
def args0 : Array Value := #[.int 5, .int 3]
def aboutOver (below : List Frame) : State where
  vm := { classes := classes, interned := interned.toArray }
  heap := heap
  slotsUsed := slotsUsed
  threads := #[{ frames := .invoking theMethod args0 :: below }]
def below0 : List Frame := [.native { method := ⟨0, 0⟩, args := #[] }]
def about1 : State := aboutOver below0
def p0 : Program := .bare "" "" ""
def e0 : Env := launch0.env 0 0 0
theorem w_frames : about1.frames = Frame.invoking theMethod args0 :: below0 := rfl
set_option maxRecDepth 65536 in
theorem w_args : argsFit about1.vm theMethod args0 = true := by decide +kernel
set_option maxRecDepth 65536 in
theorem w_heap : heapFits about1 = true := by decide +kernel
set_option maxRecDepth 65536 in
theorem w_runnable : about1.curStatus? = some .runnable := by decide +kernel
set_option maxRecDepth 65536 in
theorem w_alone : about1.alone = true := by decide +kernel
set_option maxRecDepth 65536 in
theorem w_named : about1.methodNamed? x = some theMethod := by decide +kernel
set_option maxRecDepth 65536 in
theorem w_hears : about1.hears theMethod below0 = true := by decide +kernel
set_option maxRecDepth 65536 in
theorem w_ripe : about1.ripe theMethod args0 below0 = true := by decide +kernel
theorem w_running : about1.status = .running := rfl
set_option maxRecDepth 65536 in
theorem w_room : about1.hasRoom e0.platform room_1 = true :=
  launch0.hasRoom_least _ room_1 (by decide +kernel) (by decide +kernel) (by decide +kernel) (by decide +kernel) (by decide +kernel) (by decide +kernel)
theorem allAtoms_all (ts : List Jvm.Cond) (a : Array Jvm.Value) (st : Jvm.State) : (allAtoms ts).before a st = ts.all (fun c => c.before a st) := by
  induction ts with
  | nil => rfl
  | cons c t ih =>
    show (Jvm.Cond.and c (allAtoms t)).before a st = _
    rw [Jvm.Cond.before_and, ih, List.all_cons]
def words1 : List Jvm.Cond := Jvm.Cond.code x code maxLocals ret :: tables_1
/-- a 'code' word, met by the world's own term for the bytes: nothing is compared byte by byte -/
theorem code_word {y : MethodName} {bytes : ByteArray} {mx : Nat} {rt : Option FieldType} {a : Array Value} {s : State} {m : MethodId} {meth : Method} {c : Code} (h1 : s.methodNamed? y = some m) (h2 : s.vm.method? m = some meth) (h3 : meth.code = some c) (h4 : c.code = bytes)
    (h5 : (c.maxLocals == mx && c.exceptionTable.isEmpty && decide (c.maxStack ≤ mostOperands) && decide (meth.sig.returnType = rt) && !meth.locks && decide (parseMethodDescriptor y.desc = some meth.sig)) = true) : (Jvm.Cond.code y bytes mx rt).before a s = true := by
  simp only [Bool.and_eq_true, beq_iff_eq, Bool.not_eq_true', decide_eq_true_eq] at h5
  obtain ⟨⟨⟨⟨⟨g1, g2⟩, g3⟩, g4⟩, g5⟩, g6⟩ := h5
  simp [Cond.before, Cond.holds, Cond.value, h1, h2, h3, h4, g1, g2, g3, g4, g5, g6]
def isCode : Jvm.Cond → Bool
  | .code _ _ _ _ => true
  | _ => false
theorem all_split {L : List Jvm.Cond} {P : Jvm.Cond → Bool} (h1 : L.all (fun c => isCode c || P c) = true) (h2 : ∀ c ∈ L.filter isCode, P c = true) : L.all P = true := by
  refine List.all_eq_true.mpr fun c hc => ?_
  have h := List.all_eq_true.mp h1 c hc
  rcases Bool.eq_false_or_eq_true (isCode c) with hi | hi
  · exact h2 c (List.mem_filter.mpr ⟨hc, hi⟩)
  · simpa [hi] using h
set_option maxRecDepth 65536 in
theorem w_c0 : (Jvm.Cond.code x code maxLocals ret).before args0 about1 = true := code_word (m := ⟨1, 1⟩) (meth := k1m1) (c := k1c1) (by decide +kernel) rfl rfl rfl (by decide +kernel)
set_option maxRecDepth 65536 in
theorem w_c1 : (Jvm.Cond.code ({ cls := "com/example/lofu/lofu/text/IriCharacters", name := "isUcsChar", desc := "(I)Z" } : Jvm.MethodName) prog_12_method_2_code (4 : Nat) (Option.some Jvm.ClassFile.FieldType.boolean)).before args0 about1 = true := code_word (m := ⟨2, 1⟩) (meth := k2m1) (c := k2c1) (by decide +kernel) rfl rfl rfl (by decide +kernel)
set_option maxRecDepth 65536 in
theorem w_c2 : (Jvm.Cond.code ({ cls := "com/example/lofu/lofu/text/IriCharactersIsUcsCharPinLaw", name := "expected", desc := "(I)Z" } : Jvm.MethodName) method_3_code (1 : Nat) (Option.some Jvm.ClassFile.FieldType.boolean)).before args0 about1 = true := code_word (m := ⟨1, 2⟩) (meth := k1m2) (c := k1c2) (by decide +kernel) rfl rfl rfl (by decide +kernel)
def codes1 : List Jvm.Cond := [Jvm.Cond.code x code maxLocals ret, Jvm.Cond.code ({ cls := "com/example/lofu/lofu/text/IriCharacters", name := "isUcsChar", desc := "(I)Z" } : Jvm.MethodName) prog_12_method_2_code (4 : Nat) (Option.some Jvm.ClassFile.FieldType.boolean), Jvm.Cond.code ({ cls := "com/example/lofu/lofu/text/IriCharactersIsUcsCharPinLaw", name := "expected", desc := "(I)Z" } : Jvm.MethodName) method_3_code (1 : Nat) (Option.some Jvm.ClassFile.FieldType.boolean)]
set_option maxRecDepth 65536 in
theorem codes_eq : words1.filter isCode = codes1 := rfl
theorem w_codes : ∀ c ∈ words1.filter isCode, c.before args0 about1 = true := by
  rw [codes_eq]
  intro c hc
  simp only [codes1, List.mem_cons, List.not_mem_nil, or_false] at hc
  rcases hc with rfl | rfl | rfl
  · exact w_c0
  · exact w_c1
  · exact w_c2
set_option maxRecDepth 65536 in
theorem w_t1 : (words1.take 24).all (fun c => isCode c || c.before args0 about1) = true := by decide +kernel
set_option maxRecDepth 65536 in
theorem w_t2 : (words1.drop 24).all (fun c => isCode c || c.before args0 about1) = true := by decide +kernel
theorem w_tables : (allAtoms (Jvm.Cond.code x code maxLocals ret :: tables_1)).before args0 about1 = true := by
  rw [allAtoms_all]
  show words1.all (fun c => c.before args0 about1) = true
  refine all_split ?_ w_codes
  rw [← List.take_append_drop 24 words1, List.all_append, w_t1, w_t2]
  rfl
set_option maxRecDepth 65536 in
theorem w_case : (Jvm.Cond.and given_1 narrow_1).before args0 about1 = true := by decide +kernel
theorem w_applies : (headSpec (Jvm.Cond.code x code maxLocals ret :: tables_1) room_1).applies x e0.platform about1 = true :=
  (Spec.applies_iff w_frames).mpr ⟨w_running, w_runnable, w_alone, w_named, w_hears, w_ripe, w_room, w_tables⟩
theorem atStart : AtStart classFile x code maxLocals ret World_1 tables_1 room_1 Calls_1 rest_1 Pre_1 launch0 p0 e0 about1 theMethod args0 below0 :=
  ⟨lists_1, trivial, launch0.admits_env _ _ _, launch0.least_env, fairChoices_fair.cas, fairChoices_fair.clock, w_frames, w_args, w_heap, w_applies, trivial, trivial, w_case⟩
end start1
theorem witness_1 : WitnessClaimed_1 := ⟨start1.p0, start1.e0, start1.about1, start1.theMethod, start1.args0, start1.below0, start1.atStart⟩
end Jvm.Pilot.@@N@@
