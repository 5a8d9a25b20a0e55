import JvmDerived
import JvmDerived.Pilot.@@N@@Statement
import JvmDerived.Pilot.@@N@@Code
set_option linter.unusedVariables false
set_option linter.unusedSimpArgs false
namespace Jvm.RoadKit
open Sem ClassFile Op Lib Jvm.Stand Jvm.Free Jvm.LawKit
section New
variable {p : Program} {l : Launch} {e : Env} {R : Room} {s : State} {m : MethodId} {args : Array Value} {below : List Frame} {meth : Method} {c : Code} {T : State} {locs : List Loc} {cells slots : Nat}
theorem retI (X : Stand p l e R s m args below meth c T locs cells slots) (hx : p.tables.exec = Jvm.exec) {pc : Nat} {Ls : Array Slot} {z : Int32} {rest : List Value} (hret : meth.sig.returnType = some .int) (hd : decode c.code pc = .ok (.ireturn, 1)) {fs : List Frame}
    (hl : ∀ (f : JFrame) (acts : List Action), f.method = m → f.locked = none → f.entered = [] → (doReturn e (T.setTop f) acts (some (.int z))).1 = T.setFrames fs) : Steps p.tables e below (T.setTop (mkF m pc Ls (.int z :: rest))) (T.setFrames fs) := by
  have hm' : T.vm.method? m = some meth := X.method'
  have hn : narrow .int (.int z) = .int z := rfl
  show Steps p.tables e below (T.setTop { method := m, pc := pc, locals := Ls, stack := _ :: rest, locked := none }) _
  jvm_step X.here [X.here.top, hx, hd, hm', hret, hn]
  first | (intro acts; rw [hl _ acts rfl rfl rfl]) | rw [hl _ _ rfl rfl rfl]
  exact Steps.refl _
end New
end Jvm.RoadKit

@@BLOCK:NumsL.lean.txt@@
@@BLOCK:Masks.lean.txt@@

namespace Jvm.Pilot.@@N@@
open Jvm Jvm.ClassFile Sem Op Lib Jvm.Free Jvm.Stand Jvm.LawKit Jvm.RoadKit Bundle Jvm.Pilot.@@N@@.Jvm.D
theorem own_sne {Z : State} {h : Heap} {a b c d : Addr} {k k' : ClassId} {z z' : Int32} {vs vs' : List Value} {dv dv' : Value} (F : Fld Z h a "java/lang/String" "value" "[B" (.ref c)) (G : Fld Z h b "java/lang/String" "value" "[B" (.ref d)) (V : Arv Z h c k .byte z vs dv) (W : Arv Z h d k' .byte z' vs' dv')
    (hne : z.toNatClampNeg ≠ z'.toNatClampNeg ∨ (0 < z.toNatClampNeg ∧ vs.getD 0 dv ≠ vs'.getD 0 dv')) : a ≠ b := by
  by_cases e : c = d
  · subst e
    obtain ⟨c1, A1, -, S1, -, H1, -⟩ := V
    obtain ⟨c2, A2, -, S2, -, H2, -⟩ := W
    cases A1.1.symm.trans A2.1
    exfalso
    rcases hne with q | ⟨q1, q2⟩
    · exact q (S1.symm.trans S2)
    · exact q2 (Option.some.inj ((H1 0 (by omega)).symm.trans (H2 0 (by omega))))
  · exact Fld.ne F G (fun q => e (Value.ref.inj q))
theorem own_eqi {args : Array Value} {first s : State} {o : Option Outcome} {idx : List Nat} {t : Term} {k : Int32} (h : (Cond.eq t (.int k)).value args first o s idx = some true) : t.eval args first o idx s = some (.int k) := by
  simp only [Cond.value, Term.eval] at h
  cases ht : t.eval args first o idx s with
  | none => simp [ht] at h
  | some x => cases x <;> simp [ht] at h ⊢; exact h
theorem own_len {args : Array Value} {Z : State} {t : Term} {a : Addr} {cl : Cell} {ty : FieldType} {n : Int32} (ev : t.eval args Z none [] Z = some (.ref a)) (A : Arr Z Z.heap a cl ty) (h : (Term.length t).eval args Z none [] Z = some (.int n)) : cl.slots.size < 2 ^ 31 ∧ cl.slots.size.toInt32 = n := by
  have ha := A.fin (Vm.Alike.refl _)
  simp only [Term.eval, ev, ha, Option.bind_eq_bind, Option.bind_some] at h
  by_cases q : cl.slots.size < 2 ^ 31
  · simp [q] at h; exact ⟨q, h⟩
  · simp [q] at h
def own_at (L : List Int32) (j : Int32) : Int32 := L.getD j.toNatClampNeg 0
theorem own_getD (L : List Int32) (i : Nat) : (L.map Value.int).getD i (.int (0 : Int32)) = .int (L.getD i 0) := by
  induction L generalizing i with
  | nil => rfl
  | cons a t ih => cases i with
    | zero => rfl
    | succ i => exact ih i

theorem own_eqI {a b : Int32} : a = b ↔ a.toInt = b.toInt := Int32.toInt_inj.symm
theorem own_ltI {a b : Int32} : a < b ↔ a.toInt < b.toInt := Int32.lt_iff_toInt_lt
theorem own_bd (a : Int32) : -2147483648 ≤ a.toInt ∧ a.toInt < 2147483648 := ⟨Int32.le_toInt a, Int32.toInt_lt a⟩
theorem own_tdiv (x m : Int) (hm : 0 < m) : (0 ≤ x → x.tdiv m = x / m ∧ x.tmod m = x % m) ∧ (x < 0 → x.tdiv m = -((-x) / m) ∧ x.tmod m = -((-x) % m)) := by
  refine ⟨fun h => ⟨Int.tdiv_eq_ediv_of_nonneg h, Int.tmod_eq_emod_of_nonneg h⟩, fun h => ?_⟩
  have h1 : x = -(-x) := by omega
  have a1 : (-(-x)).tdiv m = -((-x).tdiv m) := Int.neg_tdiv ..
  have a2 : (-(-x)).tmod m = -((-x).tmod m) := Int.neg_tmod ..
  rw [← h1] at a1 a2
  rw [a1, a2, Int.tdiv_eq_ediv_of_nonneg (by omega), Int.tmod_eq_emod_of_nonneg (by omega)]
  exact ⟨rfl, rfl⟩
theorem own_dm (a k : Int32) (hk : 1 < k.toInt) : (0 ≤ a.toInt → (a / k).toInt = a.toInt / k.toInt ∧ (a % k).toInt = a.toInt % k.toInt) ∧ (a.toInt < 0 → (a / k).toInt = -((-a.toInt) / k.toInt) ∧ (a % k).toInt = -((-a.toInt) % k.toInt)) := by
  have e1 : (a / k).toInt = a.toInt.tdiv k.toInt := Jvm.Kit.i32_div (fun h => by omega)
  have e2 : (a % k).toInt = a.toInt.tmod k.toInt := Jvm.Kit.i32_rem a k
  rw [e1, e2]
  exact own_tdiv _ _ (by omega)

theorem d1_0 : decode prog_11_method_4_code 0 = .ok (.iconst (-1), 1) := by decide +kernel
theorem d1_1 : decode prog_11_method_4_code 1 = .ok (.istore_n 1, 1) := by decide +kernel
theorem d1_2 : decode prog_11_method_4_code 2 = .ok (.iload_n 0, 1) := by decide +kernel
theorem d1_3 : decode prog_11_method_4_code 3 = .ok (.bipush 48, 2) := by decide +kernel
theorem d1_5 : decode prog_11_method_4_code 5 = .ok (.if_icmp .lt 17, 3) := by decide +kernel
theorem d1_8 : decode prog_11_method_4_code 8 = .ok (.iload_n 0, 1) := by decide +kernel
theorem d1_9 : decode prog_11_method_4_code 9 = .ok (.bipush 57, 2) := by decide +kernel
theorem d1_11 : decode prog_11_method_4_code 11 = .ok (.if_icmp .gt 11, 3) := by decide +kernel
theorem d1_14 : decode prog_11_method_4_code 14 = .ok (.iload_n 0, 1) := by decide +kernel
theorem d1_15 : decode prog_11_method_4_code 15 = .ok (.bipush 48, 2) := by decide +kernel
theorem d1_17 : decode prog_11_method_4_code 17 = .ok (.isub, 1) := by decide +kernel
theorem d1_18 : decode prog_11_method_4_code 18 = .ok (.istore_n 1, 1) := by decide +kernel
theorem d1_19 : decode prog_11_method_4_code 19 = .ok (.goto 46, 3) := by decide +kernel
theorem d1_22 : decode prog_11_method_4_code 22 = .ok (.iload_n 0, 1) := by decide +kernel
theorem d1_23 : decode prog_11_method_4_code 23 = .ok (.bipush 65, 2) := by decide +kernel
theorem d1_25 : decode prog_11_method_4_code 25 = .ok (.if_icmp .lt 20, 3) := by decide +kernel
theorem d1_28 : decode prog_11_method_4_code 28 = .ok (.iload_n 0, 1) := by decide +kernel
theorem d1_29 : decode prog_11_method_4_code 29 = .ok (.bipush 70, 2) := by decide +kernel
theorem d1_31 : decode prog_11_method_4_code 31 = .ok (.if_icmp .gt 14, 3) := by decide +kernel
theorem d1_34 : decode prog_11_method_4_code 34 = .ok (.iload_n 0, 1) := by decide +kernel
theorem d1_35 : decode prog_11_method_4_code 35 = .ok (.bipush 65, 2) := by decide +kernel
theorem d1_37 : decode prog_11_method_4_code 37 = .ok (.isub, 1) := by decide +kernel
theorem d1_38 : decode prog_11_method_4_code 38 = .ok (.bipush 10, 2) := by decide +kernel
theorem d1_40 : decode prog_11_method_4_code 40 = .ok (.iadd, 1) := by decide +kernel
theorem d1_41 : decode prog_11_method_4_code 41 = .ok (.istore_n 1, 1) := by decide +kernel
theorem d1_42 : decode prog_11_method_4_code 42 = .ok (.goto 23, 3) := by decide +kernel
theorem d1_45 : decode prog_11_method_4_code 45 = .ok (.iload_n 0, 1) := by decide +kernel
theorem d1_46 : decode prog_11_method_4_code 46 = .ok (.bipush 97, 2) := by decide +kernel
theorem d1_48 : decode prog_11_method_4_code 48 = .ok (.if_icmp .lt 17, 3) := by decide +kernel
theorem d1_51 : decode prog_11_method_4_code 51 = .ok (.iload_n 0, 1) := by decide +kernel
theorem d1_52 : decode prog_11_method_4_code 52 = .ok (.bipush 102, 2) := by decide +kernel
theorem d1_54 : decode prog_11_method_4_code 54 = .ok (.if_icmp .gt 11, 3) := by decide +kernel
theorem d1_57 : decode prog_11_method_4_code 57 = .ok (.iload_n 0, 1) := by decide +kernel
theorem d1_58 : decode prog_11_method_4_code 58 = .ok (.bipush 97, 2) := by decide +kernel
theorem d1_60 : decode prog_11_method_4_code 60 = .ok (.isub, 1) := by decide +kernel
theorem d1_61 : decode prog_11_method_4_code 61 = .ok (.bipush 10, 2) := by decide +kernel
theorem d1_63 : decode prog_11_method_4_code 63 = .ok (.iadd, 1) := by decide +kernel
theorem d1_64 : decode prog_11_method_4_code 64 = .ok (.istore_n 1, 1) := by decide +kernel
theorem d1_65 : decode prog_11_method_4_code 65 = .ok (.iload_n 1, 1) := by decide +kernel
theorem d1_66 : decode prog_11_method_4_code 66 = .ok (.ireturn, 1) := by decide +kernel
theorem pn_1 : plainName "com/example/lofu/lofu/text/AsciiTable" = true := by first | (simp [plainName, overriddenIn]; done) | decide +kernel
theorem ef_1 (m : MethodId) (p1 : Int32) : entryFrame m #[(.int p1)] 2 = mkF m 0 #[.val (.int p1), .unset] [] := by first | (simp [entryFrame, mkF, argsToLocals, Value.category]; done) | rfl
def F1 (p1 : Int32) : Int32 := (if p1 < (48 : Int32) then (if p1 < (65 : Int32) then (if p1 < (97 : Int32) then (-1 : Int32) else (if (102 : Int32) < p1 then (-1 : Int32) else ((p1 - (97 : Int32)) + (10 : Int32)))) else (if (70 : Int32) < p1 then (if p1 < (97 : Int32) then (-1 : Int32) else (if (102 : Int32) < p1 then (-1 : Int32) else ((p1 - (97 : Int32)) + (10 : Int32)))) else ((p1 - (65 : Int32)) + (10 : Int32)))) else (if (57 : Int32) < p1 then (if p1 < (65 : Int32) then (if p1 < (97 : Int32) then (-1 : Int32) else (if (102 : Int32) < p1 then (-1 : Int32) else ((p1 - (97 : Int32)) + (10 : Int32)))) else (if (70 : Int32) < p1 then (if p1 < (97 : Int32) then (-1 : Int32) else (if (102 : Int32) < p1 then (-1 : Int32) else ((p1 - (97 : Int32)) + (10 : Int32)))) else ((p1 - (65 : Int32)) + (10 : Int32)))) else (p1 - (48 : Int32))))
def Q1 (Z : State) (p1 : Int32) (h0 : Heap) (n0 : Nat) (v : Option Value) (h : Heap) (L : List Loc) : Prop := v = some (.int (F1 p1)) ∧ Fr n0 L ∧ h = h0
set_option maxRecDepth 65536 in
set_option maxHeartbeats 40000000 in
theorem rm1 (l : Launch) (Z : State) (a0 : Array Value) (hw : ∀ d ∈ tables_1, d.before a0 Z = true) (ws : List Jvm.Cond) (p1 : Int32) (h0 : Heap) (n0 : Nat) (Z0 : n0 ≤ h0.size) :
    MetFree l (⟨"com/example/lofu/lofu/text/AsciiTable", "hexValue", "(C)I"⟩ : MethodName) (head1 (Jvm.Cond.code (⟨"com/example/lofu/lofu/text/AsciiTable", "hexValue", "(C)I"⟩ : MethodName) prog_11_method_4_code 2 (some .int) :: ws) ({ frames := 0, cells := 0, slots := 0, locals := 0 } : Room)) (fun a U => a = #[(.int p1)] ∧ Z.Warmed39 U.vm ∧ U.heap = h0) (fun _ _ _ _ _ => True) (fun _ U o U' => ∃ v L, o = .returned v ∧ Q1 Z p1 h0 n0 v U'.heap L ∧ FrameEnd U o U' L ({ frames := 0, cells := 0, slots := 0, locals := 0 } : Room).cells ({ frames := 0, cells := 0, slots := 0, locals := 0 } : Room).slots) := by
  refine MetFree.of_bodySF (plainFor_of_name pn_1) hisR ?_
  intro p e s m args below meth c s₁ Bd hml0 hP hK
  obtain ⟨rfl, hZ, hh⟩ := hP
  skip
  skip
  skip
  skip
  skip
  skip
  have hx := Bd.exec
  have hby := Bd.bytes
  have hml : c.maxLocals = 2 := hml0
  have hown : s.vm.findClass "com/example/lofu/lofu/text/AsciiTable" = some m.cls := findClass_of_methodNamed Bd.named
  have hnm := (name_of_methodNamed Bd.named Bd.method).1
  have X0 : Stand p l e ({ frames := 0, cells := 0, slots := 0, locals := 0 } : Room) s m #[(.int p1)] below meth c s₁ [] 0 0 := Stand.of_body Bd
  have e0 : s₁.heap = h0 := by rw [← hh, Bd.state]; rfl
  have N0 := Fr.nil n0
  have pre0 : ∀ t, Steps p.tables e below (s₁.setTop (mkF m 0 #[.val (.int p1), .unset] [])) t → Steps p.tables e below (s₁.setTop (entryFrame m #[(.int p1)] 2)) t := fun t k => castTop (ef_1 m p1) k
  have pre1 : ∀ t, Steps p.tables e below (s₁.setTop (mkF m 5 #[.val (.int p1), .val (.int (-1 : Int32))] [(.int (48 : Int32)), (.int p1)])) t → Steps p.tables e below (s₁.setTop (entryFrame m #[(.int p1)] 2)) t := fun t kt => by
    refine pre0 t ?_
    show Steps p.tables e below (s₁.setTop (mkF m 0 #[.val (.int p1), .unset] [])) _
    refine XS.iconst X0.here hx rfl (hb hby d1_0) ?_
    show Steps p.tables e below (s₁.setTop (mkF m 1 #[.val (.int p1), .unset] [(.int (-1 : Int32))])) _
    refine XS.istoreN X0.here hx rfl (hb hby d1_1) rfl (l' := #[.val (.int p1), .val (.int (-1 : Int32))]) rfl ?_
    show Steps p.tables e below (s₁.setTop (mkF m 2 #[.val (.int p1), .val (.int (-1 : Int32))] [])) _
    refine XS.iloadN X0.here hx rfl (hb hby d1_2) rfl ?_
    show Steps p.tables e below (s₁.setTop (mkF m 3 #[.val (.int p1), .val (.int (-1 : Int32))] [(.int p1)])) _
    refine XS.bipush X0.here hx rfl (hb hby d1_3) ?_
    exact kt
  by_cases hc2 : p1 < (48 : Int32)
  · have pre3 : ∀ t, Steps p.tables e below (s₁.setTop (mkF m 25 #[.val (.int p1), .val (.int (-1 : Int32))] [(.int (65 : Int32)), (.int p1)])) t → Steps p.tables e below (s₁.setTop (entryFrame m #[(.int p1)] 2)) t := fun t kt => by
      refine pre1 t ?_
      show Steps p.tables e below (s₁.setTop (mkF m 5 #[.val (.int p1), .val (.int (-1 : Int32))] [(.int (48 : Int32)), (.int p1)])) _
      refine XS.icmpYes X0.here hx rfl (pc0 := 5) (pc' := 22) rfl (hb hby d1_5) rfl (tlt hc2).1 (by decide) (by decide) ?_
      show Steps p.tables e below (s₁.setTop (mkF m 22 #[.val (.int p1), .val (.int (-1 : Int32))] [])) _
      refine XS.iloadN X0.here hx rfl (hb hby d1_22) rfl ?_
      show Steps p.tables e below (s₁.setTop (mkF m 23 #[.val (.int p1), .val (.int (-1 : Int32))] [(.int p1)])) _
      refine XS.bipush X0.here hx rfl (hb hby d1_23) ?_
      exact kt
    by_cases hc4 : p1 < (65 : Int32)
    · have pre5 : ∀ t, Steps p.tables e below (s₁.setTop (mkF m 48 #[.val (.int p1), .val (.int (-1 : Int32))] [(.int (97 : Int32)), (.int p1)])) t → Steps p.tables e below (s₁.setTop (entryFrame m #[(.int p1)] 2)) t := fun t kt => by
        refine pre3 t ?_
        show Steps p.tables e below (s₁.setTop (mkF m 25 #[.val (.int p1), .val (.int (-1 : Int32))] [(.int (65 : Int32)), (.int p1)])) _
        refine XS.icmpYes X0.here hx rfl (pc0 := 25) (pc' := 45) rfl (hb hby d1_25) rfl (tlt hc4).1 (by decide) (by decide) ?_
        show Steps p.tables e below (s₁.setTop (mkF m 45 #[.val (.int p1), .val (.int (-1 : Int32))] [])) _
        refine XS.iloadN X0.here hx rfl (hb hby d1_45) rfl ?_
        show Steps p.tables e below (s₁.setTop (mkF m 46 #[.val (.int p1), .val (.int (-1 : Int32))] [(.int p1)])) _
        refine XS.bipush X0.here hx rfl (hb hby d1_46) ?_
        exact kt
      by_cases hc6 : p1 < (97 : Int32)
      · obtain ⟨fs, hr, hrun, hended, hW, hsame⟩ := X0.leave (v := some (.int (-1 : Int32))) (fun h => by rw [Bd.returns] at h; cases h)
        refine ⟨_, _, pre5 _ ?_, hrun, hended, _, _, rfl, ?_, ⟨_, rfl⟩, hW, hsame.mono (by decide) (by decide)⟩
        · show Steps p.tables e below (s₁.setTop (mkF m 48 #[.val (.int p1), .val (.int (-1 : Int32))] [(.int (97 : Int32)), (.int p1)])) _
          refine XS.icmpYes X0.here hx rfl (pc0 := 48) (pc' := 65) rfl (hb hby d1_48) rfl (tlt hc6).1 (by decide) (by decide) ?_
          show Steps p.tables e below (s₁.setTop (mkF m 65 #[.val (.int p1), .val (.int (-1 : Int32))] [])) _
          refine XS.iloadN X0.here hx rfl (hb hby d1_65) rfl ?_
          show Steps p.tables e below (s₁.setTop (mkF m 66 #[.val (.int p1), .val (.int (-1 : Int32))] [(.int (-1 : Int32))])) _
          exact retI X0 hx Bd.returns (hb hby d1_66) hr
        · show Q1 Z p1 h0 n0 _ s₁.heap _
          rw [e0]
          refine ⟨?_, N0, rfl⟩
          show (some (.int (-1 : Int32)) : Option Value) = some (.int (F1 p1))
          rw [F1, if_pos hc2, if_pos hc4, if_pos hc6]
      · have pre7 : ∀ t, Steps p.tables e below (s₁.setTop (mkF m 54 #[.val (.int p1), .val (.int (-1 : Int32))] [(.int (102 : Int32)), (.int p1)])) t → Steps p.tables e below (s₁.setTop (entryFrame m #[(.int p1)] 2)) t := fun t kt => by
          refine pre5 t ?_
          show Steps p.tables e below (s₁.setTop (mkF m 48 #[.val (.int p1), .val (.int (-1 : Int32))] [(.int (97 : Int32)), (.int p1)])) _
          refine XS.icmpNo X0.here hx rfl (hb hby d1_48) rfl (flt hc6).1 ?_
          show Steps p.tables e below (s₁.setTop (mkF m 51 #[.val (.int p1), .val (.int (-1 : Int32))] [])) _
          refine XS.iloadN X0.here hx rfl (hb hby d1_51) rfl ?_
          show Steps p.tables e below (s₁.setTop (mkF m 52 #[.val (.int p1), .val (.int (-1 : Int32))] [(.int p1)])) _
          refine XS.bipush X0.here hx rfl (hb hby d1_52) ?_
          exact kt
        by_cases hc8 : (102 : Int32) < p1
        · obtain ⟨fs, hr, hrun, hended, hW, hsame⟩ := X0.leave (v := some (.int (-1 : Int32))) (fun h => by rw [Bd.returns] at h; cases h)
          refine ⟨_, _, pre7 _ ?_, hrun, hended, _, _, rfl, ?_, ⟨_, rfl⟩, hW, hsame.mono (by decide) (by decide)⟩
          · show Steps p.tables e below (s₁.setTop (mkF m 54 #[.val (.int p1), .val (.int (-1 : Int32))] [(.int (102 : Int32)), (.int p1)])) _
            refine XS.icmpYes X0.here hx rfl (pc0 := 54) (pc' := 65) rfl (hb hby d1_54) rfl (tlt hc8).2.2.1 (by decide) (by decide) ?_
            show Steps p.tables e below (s₁.setTop (mkF m 65 #[.val (.int p1), .val (.int (-1 : Int32))] [])) _
            refine XS.iloadN X0.here hx rfl (hb hby d1_65) rfl ?_
            show Steps p.tables e below (s₁.setTop (mkF m 66 #[.val (.int p1), .val (.int (-1 : Int32))] [(.int (-1 : Int32))])) _
            exact retI X0 hx Bd.returns (hb hby d1_66) hr
          · show Q1 Z p1 h0 n0 _ s₁.heap _
            rw [e0]
            refine ⟨?_, N0, rfl⟩
            show (some (.int (-1 : Int32)) : Option Value) = some (.int (F1 p1))
            rw [F1, if_pos hc2, if_pos hc4, if_neg hc6, if_pos hc8]
        · obtain ⟨fs, hr, hrun, hended, hW, hsame⟩ := X0.leave (v := some (.int ((p1 - (97 : Int32)) + (10 : Int32)))) (fun h => by rw [Bd.returns] at h; cases h)
          refine ⟨_, _, pre7 _ ?_, hrun, hended, _, _, rfl, ?_, ⟨_, rfl⟩, hW, hsame.mono (by decide) (by decide)⟩
          · show Steps p.tables e below (s₁.setTop (mkF m 54 #[.val (.int p1), .val (.int (-1 : Int32))] [(.int (102 : Int32)), (.int p1)])) _
            refine XS.icmpNo X0.here hx rfl (hb hby d1_54) rfl (flt hc8).2.2.1 ?_
            show Steps p.tables e below (s₁.setTop (mkF m 57 #[.val (.int p1), .val (.int (-1 : Int32))] [])) _
            refine XS.iloadN X0.here hx rfl (hb hby d1_57) rfl ?_
            show Steps p.tables e below (s₁.setTop (mkF m 58 #[.val (.int p1), .val (.int (-1 : Int32))] [(.int p1)])) _
            refine XS.bipush X0.here hx rfl (hb hby d1_58) ?_
            show Steps p.tables e below (s₁.setTop (mkF m 60 #[.val (.int p1), .val (.int (-1 : Int32))] [(.int (97 : Int32)), (.int p1)])) _
            refine XS.isub X0.here hx rfl (hb hby d1_60) rfl ?_
            show Steps p.tables e below (s₁.setTop (mkF m 61 #[.val (.int p1), .val (.int (-1 : Int32))] [(.int (p1 - (97 : Int32)))])) _
            refine XS.bipush X0.here hx rfl (hb hby d1_61) ?_
            show Steps p.tables e below (s₁.setTop (mkF m 63 #[.val (.int p1), .val (.int (-1 : Int32))] [(.int (10 : Int32)), (.int (p1 - (97 : Int32)))])) _
            refine XS.iadd X0.here hx rfl (hb hby d1_63) rfl ?_
            show Steps p.tables e below (s₁.setTop (mkF m 64 #[.val (.int p1), .val (.int (-1 : Int32))] [(.int ((p1 - (97 : Int32)) + (10 : Int32)))])) _
            refine XS.istoreN X0.here hx rfl (hb hby d1_64) rfl (l' := #[.val (.int p1), .val (.int ((p1 - (97 : Int32)) + (10 : Int32)))]) rfl ?_
            show Steps p.tables e below (s₁.setTop (mkF m 65 #[.val (.int p1), .val (.int ((p1 - (97 : Int32)) + (10 : Int32)))] [])) _
            refine XS.iloadN X0.here hx rfl (hb hby d1_65) rfl ?_
            show Steps p.tables e below (s₁.setTop (mkF m 66 #[.val (.int p1), .val (.int ((p1 - (97 : Int32)) + (10 : Int32)))] [(.int ((p1 - (97 : Int32)) + (10 : Int32)))])) _
            exact retI X0 hx Bd.returns (hb hby d1_66) hr
          · show Q1 Z p1 h0 n0 _ s₁.heap _
            rw [e0]
            refine ⟨?_, N0, rfl⟩
            show (some (.int ((p1 - (97 : Int32)) + (10 : Int32))) : Option Value) = some (.int (F1 p1))
            rw [F1, if_pos hc2, if_pos hc4, if_neg hc6, if_neg hc8]
    · have pre9 : ∀ t, Steps p.tables e below (s₁.setTop (mkF m 31 #[.val (.int p1), .val (.int (-1 : Int32))] [(.int (70 : Int32)), (.int p1)])) t → Steps p.tables e below (s₁.setTop (entryFrame m #[(.int p1)] 2)) t := fun t kt => by
        refine pre3 t ?_
        show Steps p.tables e below (s₁.setTop (mkF m 25 #[.val (.int p1), .val (.int (-1 : Int32))] [(.int (65 : Int32)), (.int p1)])) _
        refine XS.icmpNo X0.here hx rfl (hb hby d1_25) rfl (flt hc4).1 ?_
        show Steps p.tables e below (s₁.setTop (mkF m 28 #[.val (.int p1), .val (.int (-1 : Int32))] [])) _
        refine XS.iloadN X0.here hx rfl (hb hby d1_28) rfl ?_
        show Steps p.tables e below (s₁.setTop (mkF m 29 #[.val (.int p1), .val (.int (-1 : Int32))] [(.int p1)])) _
        refine XS.bipush X0.here hx rfl (hb hby d1_29) ?_
        exact kt
      by_cases hc10 : (70 : Int32) < p1
      · have pre11 : ∀ t, Steps p.tables e below (s₁.setTop (mkF m 48 #[.val (.int p1), .val (.int (-1 : Int32))] [(.int (97 : Int32)), (.int p1)])) t → Steps p.tables e below (s₁.setTop (entryFrame m #[(.int p1)] 2)) t := fun t kt => by
          refine pre9 t ?_
          show Steps p.tables e below (s₁.setTop (mkF m 31 #[.val (.int p1), .val (.int (-1 : Int32))] [(.int (70 : Int32)), (.int p1)])) _
          refine XS.icmpYes X0.here hx rfl (pc0 := 31) (pc' := 45) rfl (hb hby d1_31) rfl (tlt hc10).2.2.1 (by decide) (by decide) ?_
          show Steps p.tables e below (s₁.setTop (mkF m 45 #[.val (.int p1), .val (.int (-1 : Int32))] [])) _
          refine XS.iloadN X0.here hx rfl (hb hby d1_45) rfl ?_
          show Steps p.tables e below (s₁.setTop (mkF m 46 #[.val (.int p1), .val (.int (-1 : Int32))] [(.int p1)])) _
          refine XS.bipush X0.here hx rfl (hb hby d1_46) ?_
          exact kt
        by_cases hc12 : p1 < (97 : Int32)
        · obtain ⟨fs, hr, hrun, hended, hW, hsame⟩ := X0.leave (v := some (.int (-1 : Int32))) (fun h => by rw [Bd.returns] at h; cases h)
          refine ⟨_, _, pre11 _ ?_, hrun, hended, _, _, rfl, ?_, ⟨_, rfl⟩, hW, hsame.mono (by decide) (by decide)⟩
          · show Steps p.tables e below (s₁.setTop (mkF m 48 #[.val (.int p1), .val (.int (-1 : Int32))] [(.int (97 : Int32)), (.int p1)])) _
            refine XS.icmpYes X0.here hx rfl (pc0 := 48) (pc' := 65) rfl (hb hby d1_48) rfl (tlt hc12).1 (by decide) (by decide) ?_
            show Steps p.tables e below (s₁.setTop (mkF m 65 #[.val (.int p1), .val (.int (-1 : Int32))] [])) _
            refine XS.iloadN X0.here hx rfl (hb hby d1_65) rfl ?_
            show Steps p.tables e below (s₁.setTop (mkF m 66 #[.val (.int p1), .val (.int (-1 : Int32))] [(.int (-1 : Int32))])) _
            exact retI X0 hx Bd.returns (hb hby d1_66) hr
          · show Q1 Z p1 h0 n0 _ s₁.heap _
            rw [e0]
            refine ⟨?_, N0, rfl⟩
            show (some (.int (-1 : Int32)) : Option Value) = some (.int (F1 p1))
            rw [F1, if_pos hc2, if_neg hc4, if_pos hc10, if_pos hc12]
        · have pre13 : ∀ t, Steps p.tables e below (s₁.setTop (mkF m 54 #[.val (.int p1), .val (.int (-1 : Int32))] [(.int (102 : Int32)), (.int p1)])) t → Steps p.tables e below (s₁.setTop (entryFrame m #[(.int p1)] 2)) t := fun t kt => by
            refine pre11 t ?_
            show Steps p.tables e below (s₁.setTop (mkF m 48 #[.val (.int p1), .val (.int (-1 : Int32))] [(.int (97 : Int32)), (.int p1)])) _
            refine XS.icmpNo X0.here hx rfl (hb hby d1_48) rfl (flt hc12).1 ?_
            show Steps p.tables e below (s₁.setTop (mkF m 51 #[.val (.int p1), .val (.int (-1 : Int32))] [])) _
            refine XS.iloadN X0.here hx rfl (hb hby d1_51) rfl ?_
            show Steps p.tables e below (s₁.setTop (mkF m 52 #[.val (.int p1), .val (.int (-1 : Int32))] [(.int p1)])) _
            refine XS.bipush X0.here hx rfl (hb hby d1_52) ?_
            exact kt
          by_cases hc14 : (102 : Int32) < p1
          · obtain ⟨fs, hr, hrun, hended, hW, hsame⟩ := X0.leave (v := some (.int (-1 : Int32))) (fun h => by rw [Bd.returns] at h; cases h)
            refine ⟨_, _, pre13 _ ?_, hrun, hended, _, _, rfl, ?_, ⟨_, rfl⟩, hW, hsame.mono (by decide) (by decide)⟩
            · show Steps p.tables e below (s₁.setTop (mkF m 54 #[.val (.int p1), .val (.int (-1 : Int32))] [(.int (102 : Int32)), (.int p1)])) _
              refine XS.icmpYes X0.here hx rfl (pc0 := 54) (pc' := 65) rfl (hb hby d1_54) rfl (tlt hc14).2.2.1 (by decide) (by decide) ?_
              show Steps p.tables e below (s₁.setTop (mkF m 65 #[.val (.int p1), .val (.int (-1 : Int32))] [])) _
              refine XS.iloadN X0.here hx rfl (hb hby d1_65) rfl ?_
              show Steps p.tables e below (s₁.setTop (mkF m 66 #[.val (.int p1), .val (.int (-1 : Int32))] [(.int (-1 : Int32))])) _
              exact retI X0 hx Bd.returns (hb hby d1_66) hr
            · show Q1 Z p1 h0 n0 _ s₁.heap _
              rw [e0]
              refine ⟨?_, N0, rfl⟩
              show (some (.int (-1 : Int32)) : Option Value) = some (.int (F1 p1))
              rw [F1, if_pos hc2, if_neg hc4, if_pos hc10, if_neg hc12, if_pos hc14]
          · obtain ⟨fs, hr, hrun, hended, hW, hsame⟩ := X0.leave (v := some (.int ((p1 - (97 : Int32)) + (10 : Int32)))) (fun h => by rw [Bd.returns] at h; cases h)
            refine ⟨_, _, pre13 _ ?_, hrun, hended, _, _, rfl, ?_, ⟨_, rfl⟩, hW, hsame.mono (by decide) (by decide)⟩
            · show Steps p.tables e below (s₁.setTop (mkF m 54 #[.val (.int p1), .val (.int (-1 : Int32))] [(.int (102 : Int32)), (.int p1)])) _
              refine XS.icmpNo X0.here hx rfl (hb hby d1_54) rfl (flt hc14).2.2.1 ?_
              show Steps p.tables e below (s₁.setTop (mkF m 57 #[.val (.int p1), .val (.int (-1 : Int32))] [])) _
              refine XS.iloadN X0.here hx rfl (hb hby d1_57) rfl ?_
              show Steps p.tables e below (s₁.setTop (mkF m 58 #[.val (.int p1), .val (.int (-1 : Int32))] [(.int p1)])) _
              refine XS.bipush X0.here hx rfl (hb hby d1_58) ?_
              show Steps p.tables e below (s₁.setTop (mkF m 60 #[.val (.int p1), .val (.int (-1 : Int32))] [(.int (97 : Int32)), (.int p1)])) _
              refine XS.isub X0.here hx rfl (hb hby d1_60) rfl ?_
              show Steps p.tables e below (s₁.setTop (mkF m 61 #[.val (.int p1), .val (.int (-1 : Int32))] [(.int (p1 - (97 : Int32)))])) _
              refine XS.bipush X0.here hx rfl (hb hby d1_61) ?_
              show Steps p.tables e below (s₁.setTop (mkF m 63 #[.val (.int p1), .val (.int (-1 : Int32))] [(.int (10 : Int32)), (.int (p1 - (97 : Int32)))])) _
              refine XS.iadd X0.here hx rfl (hb hby d1_63) rfl ?_
              show Steps p.tables e below (s₁.setTop (mkF m 64 #[.val (.int p1), .val (.int (-1 : Int32))] [(.int ((p1 - (97 : Int32)) + (10 : Int32)))])) _
              refine XS.istoreN X0.here hx rfl (hb hby d1_64) rfl (l' := #[.val (.int p1), .val (.int ((p1 - (97 : Int32)) + (10 : Int32)))]) rfl ?_
              show Steps p.tables e below (s₁.setTop (mkF m 65 #[.val (.int p1), .val (.int ((p1 - (97 : Int32)) + (10 : Int32)))] [])) _
              refine XS.iloadN X0.here hx rfl (hb hby d1_65) rfl ?_
              show Steps p.tables e below (s₁.setTop (mkF m 66 #[.val (.int p1), .val (.int ((p1 - (97 : Int32)) + (10 : Int32)))] [(.int ((p1 - (97 : Int32)) + (10 : Int32)))])) _
              exact retI X0 hx Bd.returns (hb hby d1_66) hr
            · show Q1 Z p1 h0 n0 _ s₁.heap _
              rw [e0]
              refine ⟨?_, N0, rfl⟩
              show (some (.int ((p1 - (97 : Int32)) + (10 : Int32))) : Option Value) = some (.int (F1 p1))
              rw [F1, if_pos hc2, if_neg hc4, if_pos hc10, if_neg hc12, if_neg hc14]
      · obtain ⟨fs, hr, hrun, hended, hW, hsame⟩ := X0.leave (v := some (.int ((p1 - (65 : Int32)) + (10 : Int32)))) (fun h => by rw [Bd.returns] at h; cases h)
        refine ⟨_, _, pre9 _ ?_, hrun, hended, _, _, rfl, ?_, ⟨_, rfl⟩, hW, hsame.mono (by decide) (by decide)⟩
        · show Steps p.tables e below (s₁.setTop (mkF m 31 #[.val (.int p1), .val (.int (-1 : Int32))] [(.int (70 : Int32)), (.int p1)])) _
          refine XS.icmpNo X0.here hx rfl (hb hby d1_31) rfl (flt hc10).2.2.1 ?_
          show Steps p.tables e below (s₁.setTop (mkF m 34 #[.val (.int p1), .val (.int (-1 : Int32))] [])) _
          refine XS.iloadN X0.here hx rfl (hb hby d1_34) rfl ?_
          show Steps p.tables e below (s₁.setTop (mkF m 35 #[.val (.int p1), .val (.int (-1 : Int32))] [(.int p1)])) _
          refine XS.bipush X0.here hx rfl (hb hby d1_35) ?_
          show Steps p.tables e below (s₁.setTop (mkF m 37 #[.val (.int p1), .val (.int (-1 : Int32))] [(.int (65 : Int32)), (.int p1)])) _
          refine XS.isub X0.here hx rfl (hb hby d1_37) rfl ?_
          show Steps p.tables e below (s₁.setTop (mkF m 38 #[.val (.int p1), .val (.int (-1 : Int32))] [(.int (p1 - (65 : Int32)))])) _
          refine XS.bipush X0.here hx rfl (hb hby d1_38) ?_
          show Steps p.tables e below (s₁.setTop (mkF m 40 #[.val (.int p1), .val (.int (-1 : Int32))] [(.int (10 : Int32)), (.int (p1 - (65 : Int32)))])) _
          refine XS.iadd X0.here hx rfl (hb hby d1_40) rfl ?_
          show Steps p.tables e below (s₁.setTop (mkF m 41 #[.val (.int p1), .val (.int (-1 : Int32))] [(.int ((p1 - (65 : Int32)) + (10 : Int32)))])) _
          refine XS.istoreN X0.here hx rfl (hb hby d1_41) rfl (l' := #[.val (.int p1), .val (.int ((p1 - (65 : Int32)) + (10 : Int32)))]) rfl ?_
          show Steps p.tables e below (s₁.setTop (mkF m 42 #[.val (.int p1), .val (.int ((p1 - (65 : Int32)) + (10 : Int32)))] [])) _
          refine XS.goto X0.here hx rfl (pc0 := 42) (pc' := 65) rfl (hb hby d1_42) (by decide) (by decide) ?_
          show Steps p.tables e below (s₁.setTop (mkF m 65 #[.val (.int p1), .val (.int ((p1 - (65 : Int32)) + (10 : Int32)))] [])) _
          refine XS.iloadN X0.here hx rfl (hb hby d1_65) rfl ?_
          show Steps p.tables e below (s₁.setTop (mkF m 66 #[.val (.int p1), .val (.int ((p1 - (65 : Int32)) + (10 : Int32)))] [(.int ((p1 - (65 : Int32)) + (10 : Int32)))])) _
          exact retI X0 hx Bd.returns (hb hby d1_66) hr
        · show Q1 Z p1 h0 n0 _ s₁.heap _
          rw [e0]
          refine ⟨?_, N0, rfl⟩
          show (some (.int ((p1 - (65 : Int32)) + (10 : Int32))) : Option Value) = some (.int (F1 p1))
          rw [F1, if_pos hc2, if_neg hc4, if_neg hc10]
  · have pre15 : ∀ t, Steps p.tables e below (s₁.setTop (mkF m 11 #[.val (.int p1), .val (.int (-1 : Int32))] [(.int (57 : Int32)), (.int p1)])) t → Steps p.tables e below (s₁.setTop (entryFrame m #[(.int p1)] 2)) t := fun t kt => by
      refine pre1 t ?_
      show Steps p.tables e below (s₁.setTop (mkF m 5 #[.val (.int p1), .val (.int (-1 : Int32))] [(.int (48 : Int32)), (.int p1)])) _
      refine XS.icmpNo X0.here hx rfl (hb hby d1_5) rfl (flt hc2).1 ?_
      show Steps p.tables e below (s₁.setTop (mkF m 8 #[.val (.int p1), .val (.int (-1 : Int32))] [])) _
      refine XS.iloadN X0.here hx rfl (hb hby d1_8) rfl ?_
      show Steps p.tables e below (s₁.setTop (mkF m 9 #[.val (.int p1), .val (.int (-1 : Int32))] [(.int p1)])) _
      refine XS.bipush X0.here hx rfl (hb hby d1_9) ?_
      exact kt
    by_cases hc16 : (57 : Int32) < p1
    · have pre17 : ∀ t, Steps p.tables e below (s₁.setTop (mkF m 25 #[.val (.int p1), .val (.int (-1 : Int32))] [(.int (65 : Int32)), (.int p1)])) t → Steps p.tables e below (s₁.setTop (entryFrame m #[(.int p1)] 2)) t := fun t kt => by
        refine pre15 t ?_
        show Steps p.tables e below (s₁.setTop (mkF m 11 #[.val (.int p1), .val (.int (-1 : Int32))] [(.int (57 : Int32)), (.int p1)])) _
        refine XS.icmpYes X0.here hx rfl (pc0 := 11) (pc' := 22) rfl (hb hby d1_11) rfl (tlt hc16).2.2.1 (by decide) (by decide) ?_
        show Steps p.tables e below (s₁.setTop (mkF m 22 #[.val (.int p1), .val (.int (-1 : Int32))] [])) _
        refine XS.iloadN X0.here hx rfl (hb hby d1_22) rfl ?_
        show Steps p.tables e below (s₁.setTop (mkF m 23 #[.val (.int p1), .val (.int (-1 : Int32))] [(.int p1)])) _
        refine XS.bipush X0.here hx rfl (hb hby d1_23) ?_
        exact kt
      by_cases hc18 : p1 < (65 : Int32)
      · have pre19 : ∀ t, Steps p.tables e below (s₁.setTop (mkF m 48 #[.val (.int p1), .val (.int (-1 : Int32))] [(.int (97 : Int32)), (.int p1)])) t → Steps p.tables e below (s₁.setTop (entryFrame m #[(.int p1)] 2)) t := fun t kt => by
          refine pre17 t ?_
          show Steps p.tables e below (s₁.setTop (mkF m 25 #[.val (.int p1), .val (.int (-1 : Int32))] [(.int (65 : Int32)), (.int p1)])) _
          refine XS.icmpYes X0.here hx rfl (pc0 := 25) (pc' := 45) rfl (hb hby d1_25) rfl (tlt hc18).1 (by decide) (by decide) ?_
          show Steps p.tables e below (s₁.setTop (mkF m 45 #[.val (.int p1), .val (.int (-1 : Int32))] [])) _
          refine XS.iloadN X0.here hx rfl (hb hby d1_45) rfl ?_
          show Steps p.tables e below (s₁.setTop (mkF m 46 #[.val (.int p1), .val (.int (-1 : Int32))] [(.int p1)])) _
          refine XS.bipush X0.here hx rfl (hb hby d1_46) ?_
          exact kt
        by_cases hc20 : p1 < (97 : Int32)
        · obtain ⟨fs, hr, hrun, hended, hW, hsame⟩ := X0.leave (v := some (.int (-1 : Int32))) (fun h => by rw [Bd.returns] at h; cases h)
          refine ⟨_, _, pre19 _ ?_, hrun, hended, _, _, rfl, ?_, ⟨_, rfl⟩, hW, hsame.mono (by decide) (by decide)⟩
          · show Steps p.tables e below (s₁.setTop (mkF m 48 #[.val (.int p1), .val (.int (-1 : Int32))] [(.int (97 : Int32)), (.int p1)])) _
            refine XS.icmpYes X0.here hx rfl (pc0 := 48) (pc' := 65) rfl (hb hby d1_48) rfl (tlt hc20).1 (by decide) (by decide) ?_
            show Steps p.tables e below (s₁.setTop (mkF m 65 #[.val (.int p1), .val (.int (-1 : Int32))] [])) _
            refine XS.iloadN X0.here hx rfl (hb hby d1_65) rfl ?_
            show Steps p.tables e below (s₁.setTop (mkF m 66 #[.val (.int p1), .val (.int (-1 : Int32))] [(.int (-1 : Int32))])) _
            exact retI X0 hx Bd.returns (hb hby d1_66) hr
          · show Q1 Z p1 h0 n0 _ s₁.heap _
            rw [e0]
            refine ⟨?_, N0, rfl⟩
            show (some (.int (-1 : Int32)) : Option Value) = some (.int (F1 p1))
            rw [F1, if_neg hc2, if_pos hc16, if_pos hc18, if_pos hc20]
        · have pre21 : ∀ t, Steps p.tables e below (s₁.setTop (mkF m 54 #[.val (.int p1), .val (.int (-1 : Int32))] [(.int (102 : Int32)), (.int p1)])) t → Steps p.tables e below (s₁.setTop (entryFrame m #[(.int p1)] 2)) t := fun t kt => by
            refine pre19 t ?_
            show Steps p.tables e below (s₁.setTop (mkF m 48 #[.val (.int p1), .val (.int (-1 : Int32))] [(.int (97 : Int32)), (.int p1)])) _
            refine XS.icmpNo X0.here hx rfl (hb hby d1_48) rfl (flt hc20).1 ?_
            show Steps p.tables e below (s₁.setTop (mkF m 51 #[.val (.int p1), .val (.int (-1 : Int32))] [])) _
            refine XS.iloadN X0.here hx rfl (hb hby d1_51) rfl ?_
            show Steps p.tables e below (s₁.setTop (mkF m 52 #[.val (.int p1), .val (.int (-1 : Int32))] [(.int p1)])) _
            refine XS.bipush X0.here hx rfl (hb hby d1_52) ?_
            exact kt
          by_cases hc22 : (102 : Int32) < p1
          · obtain ⟨fs, hr, hrun, hended, hW, hsame⟩ := X0.leave (v := some (.int (-1 : Int32))) (fun h => by rw [Bd.returns] at h; cases h)
            refine ⟨_, _, pre21 _ ?_, hrun, hended, _, _, rfl, ?_, ⟨_, rfl⟩, hW, hsame.mono (by decide) (by decide)⟩
            · show Steps p.tables e below (s₁.setTop (mkF m 54 #[.val (.int p1), .val (.int (-1 : Int32))] [(.int (102 : Int32)), (.int p1)])) _
              refine XS.icmpYes X0.here hx rfl (pc0 := 54) (pc' := 65) rfl (hb hby d1_54) rfl (tlt hc22).2.2.1 (by decide) (by decide) ?_
              show Steps p.tables e below (s₁.setTop (mkF m 65 #[.val (.int p1), .val (.int (-1 : Int32))] [])) _
              refine XS.iloadN X0.here hx rfl (hb hby d1_65) rfl ?_
              show Steps p.tables e below (s₁.setTop (mkF m 66 #[.val (.int p1), .val (.int (-1 : Int32))] [(.int (-1 : Int32))])) _
              exact retI X0 hx Bd.returns (hb hby d1_66) hr
            · show Q1 Z p1 h0 n0 _ s₁.heap _
              rw [e0]
              refine ⟨?_, N0, rfl⟩
              show (some (.int (-1 : Int32)) : Option Value) = some (.int (F1 p1))
              rw [F1, if_neg hc2, if_pos hc16, if_pos hc18, if_neg hc20, if_pos hc22]
          · obtain ⟨fs, hr, hrun, hended, hW, hsame⟩ := X0.leave (v := some (.int ((p1 - (97 : Int32)) + (10 : Int32)))) (fun h => by rw [Bd.returns] at h; cases h)
            refine ⟨_, _, pre21 _ ?_, hrun, hended, _, _, rfl, ?_, ⟨_, rfl⟩, hW, hsame.mono (by decide) (by decide)⟩
            · show Steps p.tables e below (s₁.setTop (mkF m 54 #[.val (.int p1), .val (.int (-1 : Int32))] [(.int (102 : Int32)), (.int p1)])) _
              refine XS.icmpNo X0.here hx rfl (hb hby d1_54) rfl (flt hc22).2.2.1 ?_
              show Steps p.tables e below (s₁.setTop (mkF m 57 #[.val (.int p1), .val (.int (-1 : Int32))] [])) _
              refine XS.iloadN X0.here hx rfl (hb hby d1_57) rfl ?_
              show Steps p.tables e below (s₁.setTop (mkF m 58 #[.val (.int p1), .val (.int (-1 : Int32))] [(.int p1)])) _
              refine XS.bipush X0.here hx rfl (hb hby d1_58) ?_
              show Steps p.tables e below (s₁.setTop (mkF m 60 #[.val (.int p1), .val (.int (-1 : Int32))] [(.int (97 : Int32)), (.int p1)])) _
              refine XS.isub X0.here hx rfl (hb hby d1_60) rfl ?_
              show Steps p.tables e below (s₁.setTop (mkF m 61 #[.val (.int p1), .val (.int (-1 : Int32))] [(.int (p1 - (97 : Int32)))])) _
              refine XS.bipush X0.here hx rfl (hb hby d1_61) ?_
              show Steps p.tables e below (s₁.setTop (mkF m 63 #[.val (.int p1), .val (.int (-1 : Int32))] [(.int (10 : Int32)), (.int (p1 - (97 : Int32)))])) _
              refine XS.iadd X0.here hx rfl (hb hby d1_63) rfl ?_
              show Steps p.tables e below (s₁.setTop (mkF m 64 #[.val (.int p1), .val (.int (-1 : Int32))] [(.int ((p1 - (97 : Int32)) + (10 : Int32)))])) _
              refine XS.istoreN X0.here hx rfl (hb hby d1_64) rfl (l' := #[.val (.int p1), .val (.int ((p1 - (97 : Int32)) + (10 : Int32)))]) rfl ?_
              show Steps p.tables e below (s₁.setTop (mkF m 65 #[.val (.int p1), .val (.int ((p1 - (97 : Int32)) + (10 : Int32)))] [])) _
              refine XS.iloadN X0.here hx rfl (hb hby d1_65) rfl ?_
              show Steps p.tables e below (s₁.setTop (mkF m 66 #[.val (.int p1), .val (.int ((p1 - (97 : Int32)) + (10 : Int32)))] [(.int ((p1 - (97 : Int32)) + (10 : Int32)))])) _
              exact retI X0 hx Bd.returns (hb hby d1_66) hr
            · show Q1 Z p1 h0 n0 _ s₁.heap _
              rw [e0]
              refine ⟨?_, N0, rfl⟩
              show (some (.int ((p1 - (97 : Int32)) + (10 : Int32))) : Option Value) = some (.int (F1 p1))
              rw [F1, if_neg hc2, if_pos hc16, if_pos hc18, if_neg hc20, if_neg hc22]
      · have pre23 : ∀ t, Steps p.tables e below (s₁.setTop (mkF m 31 #[.val (.int p1), .val (.int (-1 : Int32))] [(.int (70 : Int32)), (.int p1)])) t → Steps p.tables e below (s₁.setTop (entryFrame m #[(.int p1)] 2)) t := fun t kt => by
          refine pre17 t ?_
          show Steps p.tables e below (s₁.setTop (mkF m 25 #[.val (.int p1), .val (.int (-1 : Int32))] [(.int (65 : Int32)), (.int p1)])) _
          refine XS.icmpNo X0.here hx rfl (hb hby d1_25) rfl (flt hc18).1 ?_
          show Steps p.tables e below (s₁.setTop (mkF m 28 #[.val (.int p1), .val (.int (-1 : Int32))] [])) _
          refine XS.iloadN X0.here hx rfl (hb hby d1_28) rfl ?_
          show Steps p.tables e below (s₁.setTop (mkF m 29 #[.val (.int p1), .val (.int (-1 : Int32))] [(.int p1)])) _
          refine XS.bipush X0.here hx rfl (hb hby d1_29) ?_
          exact kt
        by_cases hc24 : (70 : Int32) < p1
        · have pre25 : ∀ t, Steps p.tables e below (s₁.setTop (mkF m 48 #[.val (.int p1), .val (.int (-1 : Int32))] [(.int (97 : Int32)), (.int p1)])) t → Steps p.tables e below (s₁.setTop (entryFrame m #[(.int p1)] 2)) t := fun t kt => by
            refine pre23 t ?_
            show Steps p.tables e below (s₁.setTop (mkF m 31 #[.val (.int p1), .val (.int (-1 : Int32))] [(.int (70 : Int32)), (.int p1)])) _
            refine XS.icmpYes X0.here hx rfl (pc0 := 31) (pc' := 45) rfl (hb hby d1_31) rfl (tlt hc24).2.2.1 (by decide) (by decide) ?_
            show Steps p.tables e below (s₁.setTop (mkF m 45 #[.val (.int p1), .val (.int (-1 : Int32))] [])) _
            refine XS.iloadN X0.here hx rfl (hb hby d1_45) rfl ?_
            show Steps p.tables e below (s₁.setTop (mkF m 46 #[.val (.int p1), .val (.int (-1 : Int32))] [(.int p1)])) _
            refine XS.bipush X0.here hx rfl (hb hby d1_46) ?_
            exact kt
          by_cases hc26 : p1 < (97 : Int32)
          · obtain ⟨fs, hr, hrun, hended, hW, hsame⟩ := X0.leave (v := some (.int (-1 : Int32))) (fun h => by rw [Bd.returns] at h; cases h)
            refine ⟨_, _, pre25 _ ?_, hrun, hended, _, _, rfl, ?_, ⟨_, rfl⟩, hW, hsame.mono (by decide) (by decide)⟩
            · show Steps p.tables e below (s₁.setTop (mkF m 48 #[.val (.int p1), .val (.int (-1 : Int32))] [(.int (97 : Int32)), (.int p1)])) _
              refine XS.icmpYes X0.here hx rfl (pc0 := 48) (pc' := 65) rfl (hb hby d1_48) rfl (tlt hc26).1 (by decide) (by decide) ?_
              show Steps p.tables e below (s₁.setTop (mkF m 65 #[.val (.int p1), .val (.int (-1 : Int32))] [])) _
              refine XS.iloadN X0.here hx rfl (hb hby d1_65) rfl ?_
              show Steps p.tables e below (s₁.setTop (mkF m 66 #[.val (.int p1), .val (.int (-1 : Int32))] [(.int (-1 : Int32))])) _
              exact retI X0 hx Bd.returns (hb hby d1_66) hr
            · show Q1 Z p1 h0 n0 _ s₁.heap _
              rw [e0]
              refine ⟨?_, N0, rfl⟩
              show (some (.int (-1 : Int32)) : Option Value) = some (.int (F1 p1))
              rw [F1, if_neg hc2, if_pos hc16, if_neg hc18, if_pos hc24, if_pos hc26]
          · have pre27 : ∀ t, Steps p.tables e below (s₁.setTop (mkF m 54 #[.val (.int p1), .val (.int (-1 : Int32))] [(.int (102 : Int32)), (.int p1)])) t → Steps p.tables e below (s₁.setTop (entryFrame m #[(.int p1)] 2)) t := fun t kt => by
              refine pre25 t ?_
              show Steps p.tables e below (s₁.setTop (mkF m 48 #[.val (.int p1), .val (.int (-1 : Int32))] [(.int (97 : Int32)), (.int p1)])) _
              refine XS.icmpNo X0.here hx rfl (hb hby d1_48) rfl (flt hc26).1 ?_
              show Steps p.tables e below (s₁.setTop (mkF m 51 #[.val (.int p1), .val (.int (-1 : Int32))] [])) _
              refine XS.iloadN X0.here hx rfl (hb hby d1_51) rfl ?_
              show Steps p.tables e below (s₁.setTop (mkF m 52 #[.val (.int p1), .val (.int (-1 : Int32))] [(.int p1)])) _
              refine XS.bipush X0.here hx rfl (hb hby d1_52) ?_
              exact kt
            by_cases hc28 : (102 : Int32) < p1
            · obtain ⟨fs, hr, hrun, hended, hW, hsame⟩ := X0.leave (v := some (.int (-1 : Int32))) (fun h => by rw [Bd.returns] at h; cases h)
              refine ⟨_, _, pre27 _ ?_, hrun, hended, _, _, rfl, ?_, ⟨_, rfl⟩, hW, hsame.mono (by decide) (by decide)⟩
              · show Steps p.tables e below (s₁.setTop (mkF m 54 #[.val (.int p1), .val (.int (-1 : Int32))] [(.int (102 : Int32)), (.int p1)])) _
                refine XS.icmpYes X0.here hx rfl (pc0 := 54) (pc' := 65) rfl (hb hby d1_54) rfl (tlt hc28).2.2.1 (by decide) (by decide) ?_
                show Steps p.tables e below (s₁.setTop (mkF m 65 #[.val (.int p1), .val (.int (-1 : Int32))] [])) _
                refine XS.iloadN X0.here hx rfl (hb hby d1_65) rfl ?_
                show Steps p.tables e below (s₁.setTop (mkF m 66 #[.val (.int p1), .val (.int (-1 : Int32))] [(.int (-1 : Int32))])) _
                exact retI X0 hx Bd.returns (hb hby d1_66) hr
              · show Q1 Z p1 h0 n0 _ s₁.heap _
                rw [e0]
                refine ⟨?_, N0, rfl⟩
                show (some (.int (-1 : Int32)) : Option Value) = some (.int (F1 p1))
                rw [F1, if_neg hc2, if_pos hc16, if_neg hc18, if_pos hc24, if_neg hc26, if_pos hc28]
            · obtain ⟨fs, hr, hrun, hended, hW, hsame⟩ := X0.leave (v := some (.int ((p1 - (97 : Int32)) + (10 : Int32)))) (fun h => by rw [Bd.returns] at h; cases h)
              refine ⟨_, _, pre27 _ ?_, hrun, hended, _, _, rfl, ?_, ⟨_, rfl⟩, hW, hsame.mono (by decide) (by decide)⟩
              · show Steps p.tables e below (s₁.setTop (mkF m 54 #[.val (.int p1), .val (.int (-1 : Int32))] [(.int (102 : Int32)), (.int p1)])) _
                refine XS.icmpNo X0.here hx rfl (hb hby d1_54) rfl (flt hc28).2.2.1 ?_
                show Steps p.tables e below (s₁.setTop (mkF m 57 #[.val (.int p1), .val (.int (-1 : Int32))] [])) _
                refine XS.iloadN X0.here hx rfl (hb hby d1_57) rfl ?_
                show Steps p.tables e below (s₁.setTop (mkF m 58 #[.val (.int p1), .val (.int (-1 : Int32))] [(.int p1)])) _
                refine XS.bipush X0.here hx rfl (hb hby d1_58) ?_
                show Steps p.tables e below (s₁.setTop (mkF m 60 #[.val (.int p1), .val (.int (-1 : Int32))] [(.int (97 : Int32)), (.int p1)])) _
                refine XS.isub X0.here hx rfl (hb hby d1_60) rfl ?_
                show Steps p.tables e below (s₁.setTop (mkF m 61 #[.val (.int p1), .val (.int (-1 : Int32))] [(.int (p1 - (97 : Int32)))])) _
                refine XS.bipush X0.here hx rfl (hb hby d1_61) ?_
                show Steps p.tables e below (s₁.setTop (mkF m 63 #[.val (.int p1), .val (.int (-1 : Int32))] [(.int (10 : Int32)), (.int (p1 - (97 : Int32)))])) _
                refine XS.iadd X0.here hx rfl (hb hby d1_63) rfl ?_
                show Steps p.tables e below (s₁.setTop (mkF m 64 #[.val (.int p1), .val (.int (-1 : Int32))] [(.int ((p1 - (97 : Int32)) + (10 : Int32)))])) _
                refine XS.istoreN X0.here hx rfl (hb hby d1_64) rfl (l' := #[.val (.int p1), .val (.int ((p1 - (97 : Int32)) + (10 : Int32)))]) rfl ?_
                show Steps p.tables e below (s₁.setTop (mkF m 65 #[.val (.int p1), .val (.int ((p1 - (97 : Int32)) + (10 : Int32)))] [])) _
                refine XS.iloadN X0.here hx rfl (hb hby d1_65) rfl ?_
                show Steps p.tables e below (s₁.setTop (mkF m 66 #[.val (.int p1), .val (.int ((p1 - (97 : Int32)) + (10 : Int32)))] [(.int ((p1 - (97 : Int32)) + (10 : Int32)))])) _
                exact retI X0 hx Bd.returns (hb hby d1_66) hr
              · show Q1 Z p1 h0 n0 _ s₁.heap _
                rw [e0]
                refine ⟨?_, N0, rfl⟩
                show (some (.int ((p1 - (97 : Int32)) + (10 : Int32))) : Option Value) = some (.int (F1 p1))
                rw [F1, if_neg hc2, if_pos hc16, if_neg hc18, if_pos hc24, if_neg hc26, if_neg hc28]
        · obtain ⟨fs, hr, hrun, hended, hW, hsame⟩ := X0.leave (v := some (.int ((p1 - (65 : Int32)) + (10 : Int32)))) (fun h => by rw [Bd.returns] at h; cases h)
          refine ⟨_, _, pre23 _ ?_, hrun, hended, _, _, rfl, ?_, ⟨_, rfl⟩, hW, hsame.mono (by decide) (by decide)⟩
          · show Steps p.tables e below (s₁.setTop (mkF m 31 #[.val (.int p1), .val (.int (-1 : Int32))] [(.int (70 : Int32)), (.int p1)])) _
            refine XS.icmpNo X0.here hx rfl (hb hby d1_31) rfl (flt hc24).2.2.1 ?_
            show Steps p.tables e below (s₁.setTop (mkF m 34 #[.val (.int p1), .val (.int (-1 : Int32))] [])) _
            refine XS.iloadN X0.here hx rfl (hb hby d1_34) rfl ?_
            show Steps p.tables e below (s₁.setTop (mkF m 35 #[.val (.int p1), .val (.int (-1 : Int32))] [(.int p1)])) _
            refine XS.bipush X0.here hx rfl (hb hby d1_35) ?_
            show Steps p.tables e below (s₁.setTop (mkF m 37 #[.val (.int p1), .val (.int (-1 : Int32))] [(.int (65 : Int32)), (.int p1)])) _
            refine XS.isub X0.here hx rfl (hb hby d1_37) rfl ?_
            show Steps p.tables e below (s₁.setTop (mkF m 38 #[.val (.int p1), .val (.int (-1 : Int32))] [(.int (p1 - (65 : Int32)))])) _
            refine XS.bipush X0.here hx rfl (hb hby d1_38) ?_
            show Steps p.tables e below (s₁.setTop (mkF m 40 #[.val (.int p1), .val (.int (-1 : Int32))] [(.int (10 : Int32)), (.int (p1 - (65 : Int32)))])) _
            refine XS.iadd X0.here hx rfl (hb hby d1_40) rfl ?_
            show Steps p.tables e below (s₁.setTop (mkF m 41 #[.val (.int p1), .val (.int (-1 : Int32))] [(.int ((p1 - (65 : Int32)) + (10 : Int32)))])) _
            refine XS.istoreN X0.here hx rfl (hb hby d1_41) rfl (l' := #[.val (.int p1), .val (.int ((p1 - (65 : Int32)) + (10 : Int32)))]) rfl ?_
            show Steps p.tables e below (s₁.setTop (mkF m 42 #[.val (.int p1), .val (.int ((p1 - (65 : Int32)) + (10 : Int32)))] [])) _
            refine XS.goto X0.here hx rfl (pc0 := 42) (pc' := 65) rfl (hb hby d1_42) (by decide) (by decide) ?_
            show Steps p.tables e below (s₁.setTop (mkF m 65 #[.val (.int p1), .val (.int ((p1 - (65 : Int32)) + (10 : Int32)))] [])) _
            refine XS.iloadN X0.here hx rfl (hb hby d1_65) rfl ?_
            show Steps p.tables e below (s₁.setTop (mkF m 66 #[.val (.int p1), .val (.int ((p1 - (65 : Int32)) + (10 : Int32)))] [(.int ((p1 - (65 : Int32)) + (10 : Int32)))])) _
            exact retI X0 hx Bd.returns (hb hby d1_66) hr
          · show Q1 Z p1 h0 n0 _ s₁.heap _
            rw [e0]
            refine ⟨?_, N0, rfl⟩
            show (some (.int ((p1 - (65 : Int32)) + (10 : Int32))) : Option Value) = some (.int (F1 p1))
            rw [F1, if_neg hc2, if_pos hc16, if_neg hc18, if_neg hc24]
    · obtain ⟨fs, hr, hrun, hended, hW, hsame⟩ := X0.leave (v := some (.int (p1 - (48 : Int32)))) (fun h => by rw [Bd.returns] at h; cases h)
      refine ⟨_, _, pre15 _ ?_, hrun, hended, _, _, rfl, ?_, ⟨_, rfl⟩, hW, hsame.mono (by decide) (by decide)⟩
      · show Steps p.tables e below (s₁.setTop (mkF m 11 #[.val (.int p1), .val (.int (-1 : Int32))] [(.int (57 : Int32)), (.int p1)])) _
        refine XS.icmpNo X0.here hx rfl (hb hby d1_11) rfl (flt hc16).2.2.1 ?_
        show Steps p.tables e below (s₁.setTop (mkF m 14 #[.val (.int p1), .val (.int (-1 : Int32))] [])) _
        refine XS.iloadN X0.here hx rfl (hb hby d1_14) rfl ?_
        show Steps p.tables e below (s₁.setTop (mkF m 15 #[.val (.int p1), .val (.int (-1 : Int32))] [(.int p1)])) _
        refine XS.bipush X0.here hx rfl (hb hby d1_15) ?_
        show Steps p.tables e below (s₁.setTop (mkF m 17 #[.val (.int p1), .val (.int (-1 : Int32))] [(.int (48 : Int32)), (.int p1)])) _
        refine XS.isub X0.here hx rfl (hb hby d1_17) rfl ?_
        show Steps p.tables e below (s₁.setTop (mkF m 18 #[.val (.int p1), .val (.int (-1 : Int32))] [(.int (p1 - (48 : Int32)))])) _
        refine XS.istoreN X0.here hx rfl (hb hby d1_18) rfl (l' := #[.val (.int p1), .val (.int (p1 - (48 : Int32)))]) rfl ?_
        show Steps p.tables e below (s₁.setTop (mkF m 19 #[.val (.int p1), .val (.int (p1 - (48 : Int32)))] [])) _
        refine XS.goto X0.here hx rfl (pc0 := 19) (pc' := 65) rfl (hb hby d1_19) (by decide) (by decide) ?_
        show Steps p.tables e below (s₁.setTop (mkF m 65 #[.val (.int p1), .val (.int (p1 - (48 : Int32)))] [])) _
        refine XS.iloadN X0.here hx rfl (hb hby d1_65) rfl ?_
        show Steps p.tables e below (s₁.setTop (mkF m 66 #[.val (.int p1), .val (.int (p1 - (48 : Int32)))] [(.int (p1 - (48 : Int32)))])) _
        exact retI X0 hx Bd.returns (hb hby d1_66) hr
      · show Q1 Z p1 h0 n0 _ s₁.heap _
        rw [e0]
        refine ⟨?_, N0, rfl⟩
        show (some (.int (p1 - (48 : Int32))) : Option Value) = some (.int (F1 p1))
        rw [F1, if_neg hc2, if_neg hc16]
theorem d3_0 : decode jdk_42_method_154_code 0 = .ok (.getstatic 38, 3) := by decide +kernel
theorem d3_3 : decode jdk_42_method_154_code 3 = .ok (.ifCond .eq 14, 3) := by decide +kernel
theorem d3_6 : decode jdk_42_method_154_code 6 = .ok (.aload_n 0, 1) := by decide +kernel
theorem d3_7 : decode jdk_42_method_154_code 7 = .ok (.getfield 15, 3) := by decide +kernel
theorem d3_10 : decode jdk_42_method_154_code 10 = .ok (.ifCond .ne 7, 3) := by decide +kernel
theorem d3_13 : decode jdk_42_method_154_code 13 = .ok (.iconst 1, 1) := by decide +kernel
theorem d3_14 : decode jdk_42_method_154_code 14 = .ok (.goto 4, 3) := by decide +kernel
theorem d3_18 : decode jdk_42_method_154_code 18 = .ok (.ireturn, 1) := by decide +kernel
theorem pn_3 : plainName "java/lang/String" = true := by first | (simp [plainName, overriddenIn]; done) | decide +kernel
theorem ef_3 (m : MethodId) (a1 : Addr) : entryFrame m #[(.ref a1)] 1 = mkF m 0 #[.val (.ref a1)] [] := by first | (simp [entryFrame, mkF, argsToLocals, Value.category]; done) | rfl
def F3 (w_COMPACT_STRINGS : Int32) : Int32 := (1 : Int32)
def Q3 (Z : State) (a1 : Addr) (w_COMPACT_STRINGS : Int32) (h0 : Heap) (n0 : Nat) (v : Option Value) (h : Heap) (L : List Loc) : Prop := v = some (.int (F3 w_COMPACT_STRINGS)) ∧ Fr n0 L ∧ h = h0
set_option maxRecDepth 65536 in
set_option maxHeartbeats 40000000 in
theorem rm3 (l : Launch) (Z : State) (a0 : Array Value) (hw : ∀ d ∈ tables_1, d.before a0 Z = true) (ws : List Jvm.Cond) (a1 : Addr) (w_COMPACT_STRINGS : Int32) (h0 : Heap) (n0 : Nat) (Z0 : n0 ≤ h0.size) (E_a1 : Exa Z h0 a1 "java/lang/String") (F_coder_a1 : Fld Z h0 a1 "java/lang/String" "coder" "B" (.int (0 : Int32))) (S_COMPACT_STRINGS : Sta Z Z.heap "java/lang/String" "COMPACT_STRINGS" "Z" (.int w_COMPACT_STRINGS)) (X00 : Old Z n0 h0) (hcs : ¬ w_COMPACT_STRINGS = (0 : Int32)) :
    MetFree l (⟨"java/lang/String", "isLatin1", "()Z"⟩ : MethodName) (head1 (Jvm.Cond.code (⟨"java/lang/String", "isLatin1", "()Z"⟩ : MethodName) jdk_42_method_154_code 1 (some .boolean) :: ws) ({ frames := 0, cells := 0, slots := 0, locals := 0 } : Room)) (fun a U => a = #[(.ref a1)] ∧ Z.Warmed39 U.vm ∧ U.heap = h0) (fun _ _ _ _ _ => True) (fun _ U o U' => ∃ v L, o = .returned v ∧ Q3 Z a1 w_COMPACT_STRINGS h0 n0 v U'.heap L ∧ FrameEnd U o U' L ({ frames := 0, cells := 0, slots := 0, locals := 0 } : Room).cells ({ frames := 0, cells := 0, slots := 0, locals := 0 } : Room).slots) := by
  refine MetFree.of_bodySF (plainFor_of_name pn_3) hisR ?_
  intro p e s m args below meth c s₁ Bd hml0 hP hK
  obtain ⟨rfl, hZ, hh⟩ := hP
  skip
  skip
  skip
  skip
  skip
  skip
  have hx := Bd.exec
  have hby := Bd.bytes
  have hml : c.maxLocals = 1 := hml0
  have hown : s.vm.findClass "java/lang/String" = some m.cls := findClass_of_methodNamed Bd.named
  have hnm := (name_of_methodNamed Bd.named Bd.method).1
  have X0 : Stand p l e ({ frames := 0, cells := 0, slots := 0, locals := 0 } : Room) s m #[(.ref a1)] below meth c s₁ [] 0 0 := Stand.of_body Bd
  have e0 : s₁.heap = h0 := by rw [← hh, Bd.state]; rfl
  have N0 := Fr.nil n0
  have pre0 : ∀ t, Steps p.tables e below (s₁.setTop (mkF m 0 #[.val (.ref a1)] [])) t → Steps p.tables e below (s₁.setTop (entryFrame m #[(.ref a1)] 1)) t := fun t k => castTop (ef_3 m a1) k
  obtain ⟨T1, X1, e1, st1⟩ := getS2 X0 hx hZ hown (host := "") (Or.inl (hw _ (List.mem_of_getElem? (i := 23) rfl))) Via.refl e0 (S_COMPACT_STRINGS.ext X00.2) (g := (mkF m 0 #[.val (.ref a1)] [])) rfl (hb hby d3_0)
  obtain ⟨T2, X2, e2, st2⟩ := getF X1 hx hZ hown (host := "") (Or.inl (hw _ (List.mem_of_getElem? (i := 24) rfl))) Via.refl e1 F_coder_a1 (g := (mkF m 7 #[.val (.ref a1)] [(.ref a1)])) rfl rfl (hb hby d3_7)
  obtain ⟨fs, hr, hrun, hended, hW, hsame⟩ := X2.leave (v := some (.int (1 : Int32))) (fun h => by rw [Bd.returns] at h; cases h)
  refine ⟨_, _, pre0 _ ?_, hrun, hended, _, _, rfl, ?_, ⟨_, rfl⟩, hW, hsame.mono (by decide) (by decide)⟩
  · show Steps p.tables e below (s₁.setTop (mkF m 0 #[.val (.ref a1)] [])) _
    refine st1 _ ?_
    show Steps p.tables e below (T1.setTop (mkF m 3 #[.val (.ref a1)] [(.int w_COMPACT_STRINGS)])) _
    refine XS.ifNo X1.here hx rfl (hb hby d3_3) rfl ((if0 _ _).trans (feq (hcs : ¬ (w_COMPACT_STRINGS = (0 : Int32)))).1) ?_
    show Steps p.tables e below (T1.setTop (mkF m 6 #[.val (.ref a1)] [])) _
    refine XS.aloadN X1.here hx rfl (hb hby d3_6) rfl rfl ?_
    show Steps p.tables e below (T1.setTop (mkF m 7 #[.val (.ref a1)] [(.ref a1)])) _
    refine st2 _ ?_
    show Steps p.tables e below (T2.setTop (mkF m 10 #[.val (.ref a1)] [(.int (0 : Int32))])) _
    refine XS.ifNo X2.here hx rfl (hb hby d3_10) rfl ((if0 _ _).trans (teq (rfl : (0 : Int32) = (0 : Int32))).2) ?_
    show Steps p.tables e below (T2.setTop (mkF m 13 #[.val (.ref a1)] [])) _
    refine XS.iconst X2.here hx rfl (hb hby d3_13) ?_
    show Steps p.tables e below (T2.setTop (mkF m 14 #[.val (.ref a1)] [(.int (1 : Int32))])) _
    refine XS.goto X2.here hx rfl (pc0 := 14) (pc' := 18) rfl (hb hby d3_14) (by decide) (by decide) ?_
    show Steps p.tables e below (T2.setTop (mkF m 18 #[.val (.ref a1)] [(.int (1 : Int32))])) _
    exact retN X2 hx (t := .boolean) Bd.returns (by simp) (hb hby d3_18) hr
  · show Q3 Z a1 w_COMPACT_STRINGS h0 n0 _ T2.heap _
    rw [e2]
    refine ⟨?_, N0, rfl⟩
    show (some (.int (1 : Int32)) : Option Value) = some (.int (F3 w_COMPACT_STRINGS))
    rw [F3]
theorem d6_0 : decode jdk_41_method_11_code 0 = .ok (.iload_n 0, 1) := by decide +kernel
theorem d6_1 : decode jdk_41_method_11_code 1 = .ok (.ifCond .lt 8, 3) := by decide +kernel
theorem d6_4 : decode jdk_41_method_11_code 4 = .ok (.iload_n 0, 1) := by decide +kernel
theorem d6_5 : decode jdk_41_method_11_code 5 = .ok (.iload_n 1, 1) := by decide +kernel
theorem d6_6 : decode jdk_41_method_11_code 6 = .ok (.if_icmp .lt 10, 3) := by decide +kernel
theorem d6_16 : decode jdk_41_method_11_code 16 = .ok (.iload_n 0, 1) := by decide +kernel
theorem d6_17 : decode jdk_41_method_11_code 17 = .ok (.ireturn, 1) := by decide +kernel
theorem pn_6 : plainName "jdk/internal/util/Preconditions" = true := by first | (simp [plainName, overriddenIn]; done) | decide +kernel
theorem ef_6 (m : MethodId) (p1 : Int32) (u3 : Value) (r_u3 : u3.isRef = true) : entryFrame m #[(.int p1), (.int (16 : Int32)), u3] 3 = mkF m 0 #[.val (.int p1), .val (.int (16 : Int32)), .val u3] [] := by
  rcases ref_cases r_u3 with rfl | ⟨_, rfl⟩ <;> first | (simp [entryFrame, mkF, argsToLocals, Value.category]; done) | rfl
def F6 (p1 : Int32) : Int32 := p1
def Q6 (Z : State) (p1 : Int32) (u3 : Value) (h0 : Heap) (n0 : Nat) (v : Option Value) (h : Heap) (L : List Loc) : Prop := v = some (.int (F6 p1)) ∧ Fr n0 L ∧ h = h0
set_option maxRecDepth 65536 in
set_option maxHeartbeats 40000000 in
theorem rm6 (l : Launch) (Z : State) (a0 : Array Value) (hw : ∀ d ∈ tables_1, d.before a0 Z = true) (ws : List Jvm.Cond) (p1 : Int32) (u3 : Value) (h0 : Heap) (n0 : Nat) (Z0 : n0 ≤ h0.size) (r_u3 : u3.isRef = true) (hbd : ¬ (p1 < (0 : Int32)) ∧ p1 < (16 : Int32)) :
    MetFree l (⟨"jdk/internal/util/Preconditions", "checkIndex", "(IILjava/util/function/BiFunction;)I"⟩ : MethodName) (head1 (Jvm.Cond.code (⟨"jdk/internal/util/Preconditions", "checkIndex", "(IILjava/util/function/BiFunction;)I"⟩ : MethodName) jdk_41_method_11_code 3 (some .int) :: ws) ({ frames := 0, cells := 0, slots := 0, locals := 0 } : Room)) (fun a U => a = #[(.int p1), (.int (16 : Int32)), u3] ∧ Z.Warmed39 U.vm ∧ U.heap = h0) (fun _ _ _ _ _ => True) (fun _ U o U' => ∃ v L, o = .returned v ∧ Q6 Z p1 u3 h0 n0 v U'.heap L ∧ FrameEnd U o U' L ({ frames := 0, cells := 0, slots := 0, locals := 0 } : Room).cells ({ frames := 0, cells := 0, slots := 0, locals := 0 } : Room).slots) := by
  refine MetFree.of_bodySF (plainFor_of_name pn_6) hisR ?_
  intro p e s m args below meth c s₁ Bd hml0 hP hK
  obtain ⟨rfl, hZ, hh⟩ := hP
  skip
  skip
  skip
  skip
  skip
  skip
  have hx := Bd.exec
  have hby := Bd.bytes
  have hml : c.maxLocals = 3 := hml0
  have hown : s.vm.findClass "jdk/internal/util/Preconditions" = some m.cls := findClass_of_methodNamed Bd.named
  have hnm := (name_of_methodNamed Bd.named Bd.method).1
  have X0 : Stand p l e ({ frames := 0, cells := 0, slots := 0, locals := 0 } : Room) s m #[(.int p1), (.int (16 : Int32)), u3] below meth c s₁ [] 0 0 := Stand.of_body Bd
  have e0 : s₁.heap = h0 := by rw [← hh, Bd.state]; rfl
  have N0 := Fr.nil n0
  have pre0 : ∀ t, Steps p.tables e below (s₁.setTop (mkF m 0 #[.val (.int p1), .val (.int (16 : Int32)), .val u3] [])) t → Steps p.tables e below (s₁.setTop (entryFrame m #[(.int p1), (.int (16 : Int32)), u3] 3)) t := fun t k => castTop (ef_6 m p1 u3 r_u3) k
  obtain ⟨fs, hr, hrun, hended, hW, hsame⟩ := X0.leave (v := some (.int p1)) (fun h => by rw [Bd.returns] at h; cases h)
  refine ⟨_, _, pre0 _ ?_, hrun, hended, _, _, rfl, ?_, ⟨_, rfl⟩, hW, hsame.mono (by decide) (by decide)⟩
  · show Steps p.tables e below (s₁.setTop (mkF m 0 #[.val (.int p1), .val (.int (16 : Int32)), .val u3] [])) _
    refine XS.iloadN X0.here hx rfl (hb hby d6_0) rfl ?_
    show Steps p.tables e below (s₁.setTop (mkF m 1 #[.val (.int p1), .val (.int (16 : Int32)), .val u3] [(.int p1)])) _
    refine XS.ifNo X0.here hx rfl (hb hby d6_1) rfl ((if0 _ _).trans (flt (hbd.1 : ¬ (p1 < (0 : Int32)))).1) ?_
    show Steps p.tables e below (s₁.setTop (mkF m 4 #[.val (.int p1), .val (.int (16 : Int32)), .val u3] [])) _
    refine XS.iloadN X0.here hx rfl (hb hby d6_4) rfl ?_
    show Steps p.tables e below (s₁.setTop (mkF m 5 #[.val (.int p1), .val (.int (16 : Int32)), .val u3] [(.int p1)])) _
    refine XS.iloadN X0.here hx rfl (hb hby d6_5) rfl ?_
    show Steps p.tables e below (s₁.setTop (mkF m 6 #[.val (.int p1), .val (.int (16 : Int32)), .val u3] [(.int (16 : Int32)), (.int p1)])) _
    refine XS.icmpYes X0.here hx rfl (pc0 := 6) (pc' := 16) rfl (hb hby d6_6) rfl (tlt (hbd.2 : p1 < (16 : Int32))).1 (by decide) (by decide) ?_
    show Steps p.tables e below (s₁.setTop (mkF m 16 #[.val (.int p1), .val (.int (16 : Int32)), .val u3] [])) _
    refine XS.iloadN X0.here hx rfl (hb hby d6_16) rfl ?_
    show Steps p.tables e below (s₁.setTop (mkF m 17 #[.val (.int p1), .val (.int (16 : Int32)), .val u3] [(.int p1)])) _
    exact retI X0 hx Bd.returns (hb hby d6_17) hr
  · show Q6 Z p1 u3 h0 n0 _ s₁.heap _
    rw [e0]
    refine ⟨?_, N0, rfl⟩
    show (some (.int p1) : Option Value) = some (.int (F6 p1))
    rw [F6]
theorem d5_0 : decode jdk_42_method_155_code 0 = .ok (.iload_n 0, 1) := by decide +kernel
theorem d5_1 : decode jdk_42_method_155_code 1 = .ok (.iload_n 1, 1) := by decide +kernel
theorem d5_2 : decode jdk_42_method_155_code 2 = .ok (.getstatic 1053, 3) := by decide +kernel
theorem d5_5 : decode jdk_42_method_155_code 5 = .ok (.invokestatic 1059, 3) := by decide +kernel
theorem d5_8 : decode jdk_42_method_155_code 8 = .ok (.pop, 1) := by decide +kernel
theorem d5_9 : decode jdk_42_method_155_code 9 = .ok (.return_, 1) := by decide +kernel
theorem pn_5 : plainName "java/lang/String" = true := by first | (simp [plainName, overriddenIn]; done) | decide +kernel
theorem pd_5_5 : parseMethodDescriptor "(IILjava/util/function/BiFunction;)I" = some ⟨[.int, .int, (.object "java/util/function/BiFunction")], some .int⟩ := by decide +kernel
theorem ef_5 (m : MethodId) (p1 : Int32) : entryFrame m #[(.int p1), (.int (16 : Int32))] 2 = mkF m 0 #[.val (.int p1), .val (.int (16 : Int32))] [] := by first | (simp [entryFrame, mkF, argsToLocals, Value.category]; done) | rfl
def Q5 (Z : State) (p1 : Int32) (w_SIOOBE_FORMATTER : Value) (h0 : Heap) (n0 : Nat) (v : Option Value) (h : Heap) (L : List Loc) : Prop := v = none ∧ Fr n0 L ∧ h = h0
set_option maxRecDepth 65536 in
set_option maxHeartbeats 40000000 in
theorem rm5 (l : Launch) (Z : State) (a0 : Array Value) (hw : ∀ d ∈ tables_1, d.before a0 Z = true) (ws : List Jvm.Cond) (p1 : Int32) (w_SIOOBE_FORMATTER : Value) (h0 : Heap) (n0 : Nat) (Z0 : n0 ≤ h0.size) (hbd : ¬ (p1 < (0 : Int32)) ∧ p1 < (16 : Int32)) (r_w_SIOOBE_FORMATTER : w_SIOOBE_FORMATTER.isRef = true) (S_SIOOBE_FORMATTER : Sta Z Z.heap "jdk/internal/util/Preconditions" "SIOOBE_FORMATTER" "Ljava/util/function/BiFunction;" w_SIOOBE_FORMATTER) (X00 : Old Z n0 h0) :
    MetFree l (⟨"java/lang/String", "checkIndex", "(II)V"⟩ : MethodName) (head1 (Jvm.Cond.code (⟨"java/lang/String", "checkIndex", "(II)V"⟩ : MethodName) jdk_42_method_155_code 2 none :: ws) ({ frames := 1, cells := 0, slots := 0, locals := 14 } : Room)) (fun a U => a = #[(.int p1), (.int (16 : Int32))] ∧ Z.Warmed39 U.vm ∧ U.heap = h0) (fun _ _ _ _ _ => True) (fun _ U o U' => ∃ v L, o = .returned v ∧ Q5 Z p1 w_SIOOBE_FORMATTER h0 n0 v U'.heap L ∧ FrameEnd U o U' L ({ frames := 1, cells := 0, slots := 0, locals := 14 } : Room).cells ({ frames := 1, cells := 0, slots := 0, locals := 14 } : Room).slots) := by
  refine MetFree.of_bodySF (plainFor_of_name pn_5) hisR ?_
  intro p e s m args below meth c s₁ Bd hml0 hP hK
  obtain ⟨rfl, hZ, hh⟩ := hP
  skip
  skip
  skip
  skip
  skip
  skip
  have hx := Bd.exec
  have hby := Bd.bytes
  have hml : c.maxLocals = 2 := hml0
  have hown : s.vm.findClass "java/lang/String" = some m.cls := findClass_of_methodNamed Bd.named
  have hnm := (name_of_methodNamed Bd.named Bd.method).1
  have X0 : Stand p l e ({ frames := 1, cells := 0, slots := 0, locals := 14 } : Room) s m #[(.int p1), (.int (16 : Int32))] below meth c s₁ [] 0 0 := Stand.of_body Bd
  have e0 : s₁.heap = h0 := by rw [← hh, Bd.state]; rfl
  have N0 := Fr.nil n0
  have pre0 : ∀ t, Steps p.tables e below (s₁.setTop (mkF m 0 #[.val (.int p1), .val (.int (16 : Int32))] [])) t → Steps p.tables e below (s₁.setTop (entryFrame m #[(.int p1), (.int (16 : Int32))] 2)) t := fun t k => castTop (ef_5 m p1) k
  obtain ⟨T1, X1, e1, st1⟩ := getS2 X0 hx hZ hown (host := "") (Or.inl (hw _ (List.mem_of_getElem? (i := 33) rfl))) Via.refl e0 (S_SIOOBE_FORMATTER.ext X00.2) (g := (mkF m 2 #[.val (.int p1), .val (.int (16 : Int32))] [(.int (16 : Int32)), (.int p1)])) rfl (hb hby d5_2)
  obtain ⟨_, _, ⟨T2, L2, k2, n2⟩, -, X2, ⟨Lc2, hQ2, l2, y2, z2⟩, st2⟩ := Jvm.LawKit.callS X1 hx (y := (⟨"jdk/internal/util/Preconditions", "checkIndex", "(IILjava/util/function/BiFunction;)I"⟩ : MethodName)) hown (mvT hZ (hw _ (List.mem_of_getElem? (i := 35) rfl))) (mvT hZ (hw _ (List.mem_of_getElem? (i := 36) rfl))) (mvT hZ (hw _ (List.mem_of_getElem? (i := 34) rfl))) (mvT hZ (hw _ (List.mem_of_getElem? (i := 37) rfl))) (by decide) (backOf (W := 0) (rm6 l Z a0 hw [] p1 w_SIOOBE_FORMATTER h0 n0 Z0 r_w_SIOOBE_FORMATTER hbd) hZ (hw _ (List.mem_of_getElem? (i := 37) rfl)) (hw _ (List.mem_of_getElem? (i := 34) rfl)) (by decide) (by decide)) (g := (mkF m 5 #[.val (.int p1), .val (.int (16 : Int32))] [w_SIOOBE_FORMATTER, (.int (16 : Int32)), (.int p1)])) rfl (by rw [hml]; rfl) (argsL := [(.int p1), (.int (16 : Int32)), w_SIOOBE_FORMATTER]) (rest := []) (lenOf pd_5_5 rfl) rfl (by show 2 * 0 + _ ≤ _; exact Nat.le_of_eq rfl) (hb hby d5_5) (fun _ _ => ⟨rfl, e1, (by decide : 0 + 0 ≤ _), (by decide : 0 + 0 ≤ _)⟩)
  dsimp only [Pt.U, Pt.locs, Pt.cells, Pt.slots] at X2 l2 y2 z2 st2 hQ2
  subst l2 y2 z2
  obtain ⟨rfl, N2q, e2⟩ := hQ2
  have N2 := Fr.app N0 N2q
  obtain ⟨fs, hr, hrun, hended, hW, hsame⟩ := X2.leave (v := none) (fun _ => rfl)
  refine ⟨_, _, pre0 _ ?_, hrun, hended, _, _, rfl, ?_, ⟨_, rfl⟩, hW, hsame.mono (by decide) (by decide)⟩
  · show Steps p.tables e below (s₁.setTop (mkF m 0 #[.val (.int p1), .val (.int (16 : Int32))] [])) _
    refine XS.iloadN X0.here hx rfl (hb hby d5_0) rfl ?_
    show Steps p.tables e below (s₁.setTop (mkF m 1 #[.val (.int p1), .val (.int (16 : Int32))] [(.int p1)])) _
    refine XS.iloadN X0.here hx rfl (hb hby d5_1) rfl ?_
    show Steps p.tables e below (s₁.setTop (mkF m 2 #[.val (.int p1), .val (.int (16 : Int32))] [(.int (16 : Int32)), (.int p1)])) _
    refine st1 _ ?_
    show Steps p.tables e below (T1.setTop (mkF m 5 #[.val (.int p1), .val (.int (16 : Int32))] [w_SIOOBE_FORMATTER, (.int (16 : Int32)), (.int p1)])) _
    refine st2 _ ?_
    show Steps p.tables e below (T2.setTop (mkF m 8 #[.val (.int p1), .val (.int (16 : Int32))] [(.int (F6 p1))])) _
    refine XS.pop X2.here hx rfl (hb hby d5_8) rfl rfl ?_
    show Steps p.tables e below (T2.setTop (mkF m 9 #[.val (.int p1), .val (.int (16 : Int32))] [])) _
    exact X2.returnOut hx Bd.returns (hb hby d5_9) hr
  · show Q5 Z p1 w_SIOOBE_FORMATTER h0 n0 _ T2.heap _
    rw [e2]
    exact ⟨rfl, N2, rfl⟩
theorem d4_0 : decode jdk_43_method_2_code 0 = .ok (.iload_n 1, 1) := by decide +kernel
theorem d4_1 : decode jdk_43_method_2_code 1 = .ok (.aload_n 0, 1) := by decide +kernel
theorem d4_2 : decode jdk_43_method_2_code 2 = .ok (.arraylength, 1) := by decide +kernel
theorem d4_3 : decode jdk_43_method_2_code 3 = .ok (.invokestatic 9, 3) := by decide +kernel
theorem d4_6 : decode jdk_43_method_2_code 6 = .ok (.aload_n 0, 1) := by decide +kernel
theorem d4_7 : decode jdk_43_method_2_code 7 = .ok (.iload_n 1, 1) := by decide +kernel
theorem d4_8 : decode jdk_43_method_2_code 8 = .ok (.baload, 1) := by decide +kernel
theorem d4_9 : decode jdk_43_method_2_code 9 = .ok (.sipush 255, 3) := by decide +kernel
theorem d4_12 : decode jdk_43_method_2_code 12 = .ok (.iand, 1) := by decide +kernel
theorem d4_13 : decode jdk_43_method_2_code 13 = .ok (.i2c, 1) := by decide +kernel
theorem d4_14 : decode jdk_43_method_2_code 14 = .ok (.ireturn, 1) := by decide +kernel
theorem pn_4 : plainName "java/lang/StringLatin1" = true := by first | (simp [plainName, overriddenIn]; done) | decide +kernel
theorem pd_4_4 : parseMethodDescriptor "(II)V" = some ⟨[.int, .int], none⟩ := by decide +kernel
theorem ef_4 (m : MethodId) (a1 : Addr) (p2 : Int32) : entryFrame m #[(.ref a1), (.int p2)] 2 = mkF m 0 #[.val (.ref a1), .val (.int p2)] [] := by first | (simp [entryFrame, mkF, argsToLocals, Value.category]; done) | rfl
def own_tab_4_8 : List Int32 := [(48 : Int32), (49 : Int32), (50 : Int32), (51 : Int32), (52 : Int32), (53 : Int32), (54 : Int32), (55 : Int32), (56 : Int32), (57 : Int32), (97 : Int32), (98 : Int32), (99 : Int32), (100 : Int32), (101 : Int32), (102 : Int32)]
def F4 (p2 : Int32) : Int32 := (nar .char (((own_at own_tab_4_8 p2) &&& (255 : Int32)).toUInt32.toUInt16.toUInt32.toInt32))
set_option maxRecDepth 65536 in
set_option maxHeartbeats 40000000 in
theorem side_4_8 (p2 : Int32) (hbd : ¬ (p2 < (0 : Int32)) ∧ p2 < (16 : Int32)) : ¬ (p2 < 0) ∧ p2 < (16 : Int32) := by
  exact hbd
def Q4 (Z : State) (a1 : Addr) (p2 : Int32) (k_a1 : ClassId) (w_SIOOBE_FORMATTER : Value) (h0 : Heap) (n0 : Nat) (v : Option Value) (h : Heap) (L : List Loc) : Prop := v = some (.int (F4 p2)) ∧ Fr n0 L ∧ h = h0
set_option maxRecDepth 65536 in
set_option maxHeartbeats 40000000 in
theorem rm4 (l : Launch) (Z : State) (a0 : Array Value) (hw : ∀ d ∈ tables_1, d.before a0 Z = true) (ws : List Jvm.Cond) (a1 : Addr) (p2 : Int32) (k_a1 : ClassId) (w_SIOOBE_FORMATTER : Value) (h0 : Heap) (n0 : Nat) (Z0 : n0 ≤ h0.size) (V_a1 : Arv Z h0 a1 k_a1 .byte (16 : Int32) [(.int (48 : Int32)), (.int (49 : Int32)), (.int (50 : Int32)), (.int (51 : Int32)), (.int (52 : Int32)), (.int (53 : Int32)), (.int (54 : Int32)), (.int (55 : Int32)), (.int (56 : Int32)), (.int (57 : Int32)), (.int (97 : Int32)), (.int (98 : Int32)), (.int (99 : Int32)), (.int (100 : Int32)), (.int (101 : Int32)), (.int (102 : Int32))] (.int (0 : Int32))) (hbd : ¬ (p2 < (0 : Int32)) ∧ p2 < (16 : Int32)) (S_SIOOBE_FORMATTER : Sta Z Z.heap "jdk/internal/util/Preconditions" "SIOOBE_FORMATTER" "Ljava/util/function/BiFunction;" w_SIOOBE_FORMATTER) (r_w_SIOOBE_FORMATTER : w_SIOOBE_FORMATTER.isRef = true) (X00 : Old Z n0 h0) :
    MetFree l (⟨"java/lang/StringLatin1", "charAt", "([BI)C"⟩ : MethodName) (head1 (Jvm.Cond.code (⟨"java/lang/StringLatin1", "charAt", "([BI)C"⟩ : MethodName) jdk_43_method_2_code 2 (some .char) :: ws) ({ frames := 2, cells := 0, slots := 0, locals := 27 } : Room)) (fun a U => a = #[(.ref a1), (.int p2)] ∧ Z.Warmed39 U.vm ∧ U.heap = h0) (fun _ _ _ _ _ => True) (fun _ U o U' => ∃ v L, o = .returned v ∧ Q4 Z a1 p2 k_a1 w_SIOOBE_FORMATTER h0 n0 v U'.heap L ∧ FrameEnd U o U' L ({ frames := 2, cells := 0, slots := 0, locals := 27 } : Room).cells ({ frames := 2, cells := 0, slots := 0, locals := 27 } : Room).slots) := by
  refine MetFree.of_bodySF (plainFor_of_name pn_4) hisR ?_
  intro p e s m args below meth c s₁ Bd hml0 hP hK
  obtain ⟨rfl, hZ, hh⟩ := hP
  skip
  skip
  skip
  skip
  skip
  skip
  have hx := Bd.exec
  have hby := Bd.bytes
  have hml : c.maxLocals = 2 := hml0
  have hown : s.vm.findClass "java/lang/StringLatin1" = some m.cls := findClass_of_methodNamed Bd.named
  have hnm := (name_of_methodNamed Bd.named Bd.method).1
  have X0 : Stand p l e ({ frames := 2, cells := 0, slots := 0, locals := 27 } : Room) s m #[(.ref a1), (.int p2)] below meth c s₁ [] 0 0 := Stand.of_body Bd
  have e0 : s₁.heap = h0 := by rw [← hh, Bd.state]; rfl
  have N0 := Fr.nil n0
  have pre0 : ∀ t, Steps p.tables e below (s₁.setTop (mkF m 0 #[.val (.ref a1), .val (.int p2)] [])) t → Steps p.tables e below (s₁.setTop (entryFrame m #[(.ref a1), (.int p2)] 2)) t := fun t k => castTop (ef_4 m a1 p2) k
  obtain ⟨cl1, Ar1, aq1, S1, M1, H1, G1⟩ := id V_a1
  obtain ⟨_, _, ⟨T2, L2, k2, n2⟩, -, X2, ⟨Lc2, hQ2, l2, y2, z2⟩, st2⟩ := Jvm.LawKit.callS X0 hx (y := (⟨"java/lang/String", "checkIndex", "(II)V"⟩ : MethodName)) hown (mvT hZ (hw _ (List.mem_of_getElem? (i := 30) rfl))) (mvT hZ (hw _ (List.mem_of_getElem? (i := 31) rfl))) (mvT hZ (hw _ (List.mem_of_getElem? (i := 1) rfl))) (mvT hZ (hw _ (List.mem_of_getElem? (i := 32) rfl))) (by decide) (backOf (W := 0) (rm5 l Z a0 hw [] p2 w_SIOOBE_FORMATTER h0 n0 Z0 hbd r_w_SIOOBE_FORMATTER S_SIOOBE_FORMATTER X00) hZ (hw _ (List.mem_of_getElem? (i := 32) rfl)) (hw _ (List.mem_of_getElem? (i := 1) rfl)) (by decide) (by decide)) (g := (mkF m 3 #[.val (.ref a1), .val (.int p2)] [(.int (16 : Int32)), (.int p2)])) rfl (by rw [hml]; rfl) (argsL := [(.int p2), (.int (16 : Int32))]) (rest := []) (lenOf pd_4_4 rfl) rfl (by show 2 * 0 + _ ≤ _; exact Nat.le_of_eq rfl) (hb hby d4_3) (fun _ _ => ⟨rfl, e0, (by decide : 0 + 0 ≤ _), (by decide : 0 + 0 ≤ _)⟩)
  dsimp only [Pt.U, Pt.locs, Pt.cells, Pt.slots] at X2 l2 y2 z2 st2 hQ2
  subst l2 y2 z2
  obtain ⟨rfl, N2q, e2⟩ := hQ2
  have N2 := Fr.app N0 N2q
  obtain ⟨cl3, Ar3, aq3, S3, M3, H3, G3⟩ := id V_a1
  have hin3 : ¬ (p2 < 0 ∨ cl3.slots.size ≤ (p2).toNatClampNeg) := inb_of S3 (side_4_8 p2 hbd)
  have hat3 : cl3.slots[(p2).toNatClampNeg]? = some (.int (own_at own_tab_4_8 p2)) := Has.at H3 hin3 (own_getD own_tab_4_8 (p2).toNatClampNeg)
  obtain ⟨fs, hr, hrun, hended, hW, hsame⟩ := X2.leave (v := some (.int (nar .char (((own_at own_tab_4_8 p2) &&& (255 : Int32)).toUInt32.toUInt16.toUInt32.toInt32)))) (fun h => by rw [Bd.returns] at h; cases h)
  refine ⟨_, _, pre0 _ ?_, hrun, hended, _, _, rfl, ?_, ⟨_, rfl⟩, hW, hsame.mono (by decide) (by decide)⟩
  · show Steps p.tables e below (s₁.setTop (mkF m 0 #[.val (.ref a1), .val (.int p2)] [])) _
    refine XS.iloadN X0.here hx rfl (hb hby d4_0) rfl ?_
    show Steps p.tables e below (s₁.setTop (mkF m 1 #[.val (.ref a1), .val (.int p2)] [(.int p2)])) _
    refine XS.aloadN X0.here hx rfl (hb hby d4_1) rfl rfl ?_
    show Steps p.tables e below (s₁.setTop (mkF m 2 #[.val (.ref a1), .val (.int p2)] [(.ref a1), (.int p2)])) _
    refine X0.arraylength hx (by rw [e0]; exact Ar1.1) (State.isArrayOf_alike hZ.alike Ar1.2.1) (g := (mkF m 2 #[.val (.ref a1), .val (.int p2)] [(.ref a1), (.int p2)])) rfl rfl (hb hby d4_2) _ ?_
    rw [len_of S1 M1]
    show Steps p.tables e below (s₁.setTop (mkF m 3 #[.val (.ref a1), .val (.int p2)] [(.int (16 : Int32)), (.int p2)])) _
    refine st2 _ ?_
    show Steps p.tables e below (T2.setTop (mkF m 6 #[.val (.ref a1), .val (.int p2)] [])) _
    refine XS.aloadN X2.here hx rfl (hb hby d4_6) rfl rfl ?_
    show Steps p.tables e below (T2.setTop (mkF m 7 #[.val (.ref a1), .val (.int p2)] [(.ref a1)])) _
    refine XS.iloadN X2.here hx rfl (hb hby d4_7) rfl ?_
    show Steps p.tables e below (T2.setTop (mkF m 8 #[.val (.ref a1), .val (.int p2)] [(.int p2), (.ref a1)])) _
    refine X2.baloadBytes hx (j := p2) (v := (.int (own_at own_tab_4_8 p2))) (by rw [e2]; exact Ar3.1) (State.isArrayOf_alike hZ.alike Ar3.2.1) Ar3.2.2 hin3 hat3 (g := (mkF m 8 #[.val (.ref a1), .val (.int p2)] [(.int p2), (.ref a1)])) rfl rfl (hb hby d4_8) _ ?_
    show Steps p.tables e below (T2.setTop (mkF m 9 #[.val (.ref a1), .val (.int p2)] [(.int (own_at own_tab_4_8 p2))])) _
    refine XS.sipush X2.here hx rfl (hb hby d4_9) ?_
    show Steps p.tables e below (T2.setTop (mkF m 12 #[.val (.ref a1), .val (.int p2)] [(.int (255 : Int32)), (.int (own_at own_tab_4_8 p2))])) _
    refine XS.iand X2.here hx rfl (hb hby d4_12) rfl ?_
    show Steps p.tables e below (T2.setTop (mkF m 13 #[.val (.ref a1), .val (.int p2)] [(.int ((own_at own_tab_4_8 p2) &&& (255 : Int32)))])) _
    refine XS.i2c X2.here hx rfl (hb hby d4_13) rfl ?_
    show Steps p.tables e below (T2.setTop (mkF m 14 #[.val (.ref a1), .val (.int p2)] [(.int (((own_at own_tab_4_8 p2) &&& (255 : Int32)).toUInt32.toUInt16.toUInt32.toInt32))])) _
    exact retN X2 hx (t := .char) Bd.returns (by simp) (hb hby d4_14) hr
  · show Q4 Z a1 p2 k_a1 w_SIOOBE_FORMATTER h0 n0 _ T2.heap _
    rw [e2]
    refine ⟨?_, N2, rfl⟩
    show (some (.int (nar .char (((own_at own_tab_4_8 p2) &&& (255 : Int32)).toUInt32.toUInt16.toUInt32.toInt32))) : Option Value) = some (.int (F4 p2))
    rw [F4]
theorem d1004_0 : decode jdk_43_method_2_code 0 = .ok (.iload_n 1, 1) := by decide +kernel
theorem d1004_1 : decode jdk_43_method_2_code 1 = .ok (.aload_n 0, 1) := by decide +kernel
theorem d1004_2 : decode jdk_43_method_2_code 2 = .ok (.arraylength, 1) := by decide +kernel
theorem d1004_3 : decode jdk_43_method_2_code 3 = .ok (.invokestatic 9, 3) := by decide +kernel
theorem d1004_6 : decode jdk_43_method_2_code 6 = .ok (.aload_n 0, 1) := by decide +kernel
theorem d1004_7 : decode jdk_43_method_2_code 7 = .ok (.iload_n 1, 1) := by decide +kernel
theorem d1004_8 : decode jdk_43_method_2_code 8 = .ok (.baload, 1) := by decide +kernel
theorem d1004_9 : decode jdk_43_method_2_code 9 = .ok (.sipush 255, 3) := by decide +kernel
theorem d1004_12 : decode jdk_43_method_2_code 12 = .ok (.iand, 1) := by decide +kernel
theorem d1004_13 : decode jdk_43_method_2_code 13 = .ok (.i2c, 1) := by decide +kernel
theorem d1004_14 : decode jdk_43_method_2_code 14 = .ok (.ireturn, 1) := by decide +kernel
theorem pn_1004 : plainName "java/lang/StringLatin1" = true := by first | (simp [plainName, overriddenIn]; done) | decide +kernel
theorem pd_1004_4 : parseMethodDescriptor "(II)V" = some ⟨[.int, .int], none⟩ := by decide +kernel
theorem ef_1004 (m : MethodId) (a1 : Addr) (p2 : Int32) : entryFrame m #[(.ref a1), (.int p2)] 2 = mkF m 0 #[.val (.ref a1), .val (.int p2)] [] := by first | (simp [entryFrame, mkF, argsToLocals, Value.category]; done) | rfl
def own_tab_1004_8 : List Int32 := [(48 : Int32), (49 : Int32), (50 : Int32), (51 : Int32), (52 : Int32), (53 : Int32), (54 : Int32), (55 : Int32), (56 : Int32), (57 : Int32), (65 : Int32), (66 : Int32), (67 : Int32), (68 : Int32), (69 : Int32), (70 : Int32)]
def F1004 (p2 : Int32) : Int32 := (nar .char (((own_at own_tab_1004_8 p2) &&& (255 : Int32)).toUInt32.toUInt16.toUInt32.toInt32))
set_option maxRecDepth 65536 in
set_option maxHeartbeats 40000000 in
theorem side_1004_8 (p2 : Int32) (hbd : ¬ (p2 < (0 : Int32)) ∧ p2 < (16 : Int32)) : ¬ (p2 < 0) ∧ p2 < (16 : Int32) := by
  exact hbd
def Q1004 (Z : State) (a1 : Addr) (p2 : Int32) (k_a1 : ClassId) (w_SIOOBE_FORMATTER : Value) (h0 : Heap) (n0 : Nat) (v : Option Value) (h : Heap) (L : List Loc) : Prop := v = some (.int (F1004 p2)) ∧ Fr n0 L ∧ h = h0
set_option maxRecDepth 65536 in
set_option maxHeartbeats 40000000 in
theorem rm1004 (l : Launch) (Z : State) (a0 : Array Value) (hw : ∀ d ∈ tables_1, d.before a0 Z = true) (ws : List Jvm.Cond) (a1 : Addr) (p2 : Int32) (k_a1 : ClassId) (w_SIOOBE_FORMATTER : Value) (h0 : Heap) (n0 : Nat) (Z0 : n0 ≤ h0.size) (V_a1 : Arv Z h0 a1 k_a1 .byte (16 : Int32) [(.int (48 : Int32)), (.int (49 : Int32)), (.int (50 : Int32)), (.int (51 : Int32)), (.int (52 : Int32)), (.int (53 : Int32)), (.int (54 : Int32)), (.int (55 : Int32)), (.int (56 : Int32)), (.int (57 : Int32)), (.int (65 : Int32)), (.int (66 : Int32)), (.int (67 : Int32)), (.int (68 : Int32)), (.int (69 : Int32)), (.int (70 : Int32))] (.int (0 : Int32))) (hbd : ¬ (p2 < (0 : Int32)) ∧ p2 < (16 : Int32)) (S_SIOOBE_FORMATTER : Sta Z Z.heap "jdk/internal/util/Preconditions" "SIOOBE_FORMATTER" "Ljava/util/function/BiFunction;" w_SIOOBE_FORMATTER) (r_w_SIOOBE_FORMATTER : w_SIOOBE_FORMATTER.isRef = true) (X00 : Old Z n0 h0) :
    MetFree l (⟨"java/lang/StringLatin1", "charAt", "([BI)C"⟩ : MethodName) (head1 (Jvm.Cond.code (⟨"java/lang/StringLatin1", "charAt", "([BI)C"⟩ : MethodName) jdk_43_method_2_code 2 (some .char) :: ws) ({ frames := 2, cells := 0, slots := 0, locals := 27 } : Room)) (fun a U => a = #[(.ref a1), (.int p2)] ∧ Z.Warmed39 U.vm ∧ U.heap = h0) (fun _ _ _ _ _ => True) (fun _ U o U' => ∃ v L, o = .returned v ∧ Q1004 Z a1 p2 k_a1 w_SIOOBE_FORMATTER h0 n0 v U'.heap L ∧ FrameEnd U o U' L ({ frames := 2, cells := 0, slots := 0, locals := 27 } : Room).cells ({ frames := 2, cells := 0, slots := 0, locals := 27 } : Room).slots) := by
  refine MetFree.of_bodySF (plainFor_of_name pn_1004) hisR ?_
  intro p e s m args below meth c s₁ Bd hml0 hP hK
  obtain ⟨rfl, hZ, hh⟩ := hP
  skip
  skip
  skip
  skip
  skip
  skip
  have hx := Bd.exec
  have hby := Bd.bytes
  have hml : c.maxLocals = 2 := hml0
  have hown : s.vm.findClass "java/lang/StringLatin1" = some m.cls := findClass_of_methodNamed Bd.named
  have hnm := (name_of_methodNamed Bd.named Bd.method).1
  have X0 : Stand p l e ({ frames := 2, cells := 0, slots := 0, locals := 27 } : Room) s m #[(.ref a1), (.int p2)] below meth c s₁ [] 0 0 := Stand.of_body Bd
  have e0 : s₁.heap = h0 := by rw [← hh, Bd.state]; rfl
  have N0 := Fr.nil n0
  have pre0 : ∀ t, Steps p.tables e below (s₁.setTop (mkF m 0 #[.val (.ref a1), .val (.int p2)] [])) t → Steps p.tables e below (s₁.setTop (entryFrame m #[(.ref a1), (.int p2)] 2)) t := fun t k => castTop (ef_1004 m a1 p2) k
  obtain ⟨cl1, Ar1, aq1, S1, M1, H1, G1⟩ := id V_a1
  obtain ⟨_, _, ⟨T2, L2, k2, n2⟩, -, X2, ⟨Lc2, hQ2, l2, y2, z2⟩, st2⟩ := Jvm.LawKit.callS X0 hx (y := (⟨"java/lang/String", "checkIndex", "(II)V"⟩ : MethodName)) hown (mvT hZ (hw _ (List.mem_of_getElem? (i := 30) rfl))) (mvT hZ (hw _ (List.mem_of_getElem? (i := 31) rfl))) (mvT hZ (hw _ (List.mem_of_getElem? (i := 1) rfl))) (mvT hZ (hw _ (List.mem_of_getElem? (i := 32) rfl))) (by decide) (backOf (W := 0) (rm5 l Z a0 hw [] p2 w_SIOOBE_FORMATTER h0 n0 Z0 hbd r_w_SIOOBE_FORMATTER S_SIOOBE_FORMATTER X00) hZ (hw _ (List.mem_of_getElem? (i := 32) rfl)) (hw _ (List.mem_of_getElem? (i := 1) rfl)) (by decide) (by decide)) (g := (mkF m 3 #[.val (.ref a1), .val (.int p2)] [(.int (16 : Int32)), (.int p2)])) rfl (by rw [hml]; rfl) (argsL := [(.int p2), (.int (16 : Int32))]) (rest := []) (lenOf pd_1004_4 rfl) rfl (by show 2 * 0 + _ ≤ _; exact Nat.le_of_eq rfl) (hb hby d1004_3) (fun _ _ => ⟨rfl, e0, (by decide : 0 + 0 ≤ _), (by decide : 0 + 0 ≤ _)⟩)
  dsimp only [Pt.U, Pt.locs, Pt.cells, Pt.slots] at X2 l2 y2 z2 st2 hQ2
  subst l2 y2 z2
  obtain ⟨rfl, N2q, e2⟩ := hQ2
  have N2 := Fr.app N0 N2q
  obtain ⟨cl3, Ar3, aq3, S3, M3, H3, G3⟩ := id V_a1
  have hin3 : ¬ (p2 < 0 ∨ cl3.slots.size ≤ (p2).toNatClampNeg) := inb_of S3 (side_1004_8 p2 hbd)
  have hat3 : cl3.slots[(p2).toNatClampNeg]? = some (.int (own_at own_tab_1004_8 p2)) := Has.at H3 hin3 (own_getD own_tab_1004_8 (p2).toNatClampNeg)
  obtain ⟨fs, hr, hrun, hended, hW, hsame⟩ := X2.leave (v := some (.int (nar .char (((own_at own_tab_1004_8 p2) &&& (255 : Int32)).toUInt32.toUInt16.toUInt32.toInt32)))) (fun h => by rw [Bd.returns] at h; cases h)
  refine ⟨_, _, pre0 _ ?_, hrun, hended, _, _, rfl, ?_, ⟨_, rfl⟩, hW, hsame.mono (by decide) (by decide)⟩
  · show Steps p.tables e below (s₁.setTop (mkF m 0 #[.val (.ref a1), .val (.int p2)] [])) _
    refine XS.iloadN X0.here hx rfl (hb hby d1004_0) rfl ?_
    show Steps p.tables e below (s₁.setTop (mkF m 1 #[.val (.ref a1), .val (.int p2)] [(.int p2)])) _
    refine XS.aloadN X0.here hx rfl (hb hby d1004_1) rfl rfl ?_
    show Steps p.tables e below (s₁.setTop (mkF m 2 #[.val (.ref a1), .val (.int p2)] [(.ref a1), (.int p2)])) _
    refine X0.arraylength hx (by rw [e0]; exact Ar1.1) (State.isArrayOf_alike hZ.alike Ar1.2.1) (g := (mkF m 2 #[.val (.ref a1), .val (.int p2)] [(.ref a1), (.int p2)])) rfl rfl (hb hby d1004_2) _ ?_
    rw [len_of S1 M1]
    show Steps p.tables e below (s₁.setTop (mkF m 3 #[.val (.ref a1), .val (.int p2)] [(.int (16 : Int32)), (.int p2)])) _
    refine st2 _ ?_
    show Steps p.tables e below (T2.setTop (mkF m 6 #[.val (.ref a1), .val (.int p2)] [])) _
    refine XS.aloadN X2.here hx rfl (hb hby d1004_6) rfl rfl ?_
    show Steps p.tables e below (T2.setTop (mkF m 7 #[.val (.ref a1), .val (.int p2)] [(.ref a1)])) _
    refine XS.iloadN X2.here hx rfl (hb hby d1004_7) rfl ?_
    show Steps p.tables e below (T2.setTop (mkF m 8 #[.val (.ref a1), .val (.int p2)] [(.int p2), (.ref a1)])) _
    refine X2.baloadBytes hx (j := p2) (v := (.int (own_at own_tab_1004_8 p2))) (by rw [e2]; exact Ar3.1) (State.isArrayOf_alike hZ.alike Ar3.2.1) Ar3.2.2 hin3 hat3 (g := (mkF m 8 #[.val (.ref a1), .val (.int p2)] [(.int p2), (.ref a1)])) rfl rfl (hb hby d1004_8) _ ?_
    show Steps p.tables e below (T2.setTop (mkF m 9 #[.val (.ref a1), .val (.int p2)] [(.int (own_at own_tab_1004_8 p2))])) _
    refine XS.sipush X2.here hx rfl (hb hby d1004_9) ?_
    show Steps p.tables e below (T2.setTop (mkF m 12 #[.val (.ref a1), .val (.int p2)] [(.int (255 : Int32)), (.int (own_at own_tab_1004_8 p2))])) _
    refine XS.iand X2.here hx rfl (hb hby d1004_12) rfl ?_
    show Steps p.tables e below (T2.setTop (mkF m 13 #[.val (.ref a1), .val (.int p2)] [(.int ((own_at own_tab_1004_8 p2) &&& (255 : Int32)))])) _
    refine XS.i2c X2.here hx rfl (hb hby d1004_13) rfl ?_
    show Steps p.tables e below (T2.setTop (mkF m 14 #[.val (.ref a1), .val (.int p2)] [(.int (((own_at own_tab_1004_8 p2) &&& (255 : Int32)).toUInt32.toUInt16.toUInt32.toInt32))])) _
    exact retN X2 hx (t := .char) Bd.returns (by simp) (hb hby d1004_14) hr
  · show Q1004 Z a1 p2 k_a1 w_SIOOBE_FORMATTER h0 n0 _ T2.heap _
    rw [e2]
    refine ⟨?_, N2, rfl⟩
    show (some (.int (nar .char (((own_at own_tab_1004_8 p2) &&& (255 : Int32)).toUInt32.toUInt16.toUInt32.toInt32))) : Option Value) = some (.int (F1004 p2))
    rw [F1004]
theorem d2_0 : decode jdk_42_method_56_code 0 = .ok (.aload_n 0, 1) := by decide +kernel
theorem d2_1 : decode jdk_42_method_56_code 1 = .ok (.invokevirtual 492, 3) := by decide +kernel
theorem d2_4 : decode jdk_42_method_56_code 4 = .ok (.ifCond .eq 12, 3) := by decide +kernel
theorem d2_7 : decode jdk_42_method_56_code 7 = .ok (.aload_n 0, 1) := by decide +kernel
theorem d2_8 : decode jdk_42_method_56_code 8 = .ok (.getfield 9, 3) := by decide +kernel
theorem d2_11 : decode jdk_42_method_56_code 11 = .ok (.iload_n 1, 1) := by decide +kernel
theorem d2_12 : decode jdk_42_method_56_code 12 = .ok (.invokestatic 495, 3) := by decide +kernel
theorem d2_15 : decode jdk_42_method_56_code 15 = .ok (.ireturn, 1) := by decide +kernel
theorem pn_2 : plainName "java/lang/String" = true := by first | (simp [plainName, overriddenIn]; done) | decide +kernel
theorem pd_2_2 : parseMethodDescriptor "()Z" = some ⟨[], some .boolean⟩ := by decide +kernel
theorem pd_2_3 : parseMethodDescriptor "([BI)C" = some ⟨[(.array .byte), .int], some .char⟩ := by decide +kernel
theorem ef_2 (m : MethodId) (a1 : Addr) (p2 : Int32) : entryFrame m #[(.ref a1), (.int p2)] 2 = mkF m 0 #[.val (.ref a1), .val (.int p2)] [] := by first | (simp [entryFrame, mkF, argsToLocals, Value.category]; done) | rfl
def F2 (p2 : Int32) (w_COMPACT_STRINGS : Int32) : Int32 := (nar .char (F4 p2))
def Q2 (Z : State) (a1 : Addr) (p2 : Int32) (c1 : Addr) (k_c1 : ClassId) (w_COMPACT_STRINGS : Int32) (w_SIOOBE_FORMATTER : Value) (h0 : Heap) (n0 : Nat) (v : Option Value) (h : Heap) (L : List Loc) : Prop := v = some (.int (F2 p2 w_COMPACT_STRINGS)) ∧ Fr n0 L ∧ h = h0
set_option maxRecDepth 65536 in
set_option maxHeartbeats 40000000 in
theorem rm2 (l : Launch) (Z : State) (a0 : Array Value) (hw : ∀ d ∈ tables_1, d.before a0 Z = true) (ws : List Jvm.Cond) (a1 : Addr) (p2 : Int32) (c1 : Addr) (k_c1 : ClassId) (w_COMPACT_STRINGS : Int32) (w_SIOOBE_FORMATTER : Value) (h0 : Heap) (n0 : Nat) (Z0 : n0 ≤ h0.size) (E_a1 : Exa Z h0 a1 "java/lang/String") (F_coder_a1 : Fld Z h0 a1 "java/lang/String" "coder" "B" (.int (0 : Int32))) (F_value_a1 : Fld Z h0 a1 "java/lang/String" "value" "[B" (.ref c1)) (V_c1 : Arv Z h0 c1 k_c1 .byte (16 : Int32) [(.int (48 : Int32)), (.int (49 : Int32)), (.int (50 : Int32)), (.int (51 : Int32)), (.int (52 : Int32)), (.int (53 : Int32)), (.int (54 : Int32)), (.int (55 : Int32)), (.int (56 : Int32)), (.int (57 : Int32)), (.int (97 : Int32)), (.int (98 : Int32)), (.int (99 : Int32)), (.int (100 : Int32)), (.int (101 : Int32)), (.int (102 : Int32))] (.int (0 : Int32))) (hbd : ¬ (p2 < (0 : Int32)) ∧ p2 < (16 : Int32)) (S_COMPACT_STRINGS : Sta Z Z.heap "java/lang/String" "COMPACT_STRINGS" "Z" (.int w_COMPACT_STRINGS)) (X00 : Old Z n0 h0) (hcs : ¬ w_COMPACT_STRINGS = (0 : Int32)) (S_SIOOBE_FORMATTER : Sta Z Z.heap "jdk/internal/util/Preconditions" "SIOOBE_FORMATTER" "Ljava/util/function/BiFunction;" w_SIOOBE_FORMATTER) (r_w_SIOOBE_FORMATTER : w_SIOOBE_FORMATTER.isRef = true) :
    MetFree l (⟨"java/lang/String", "charAt", "(I)C"⟩ : MethodName) (head1 (Jvm.Cond.code (⟨"java/lang/String", "charAt", "(I)C"⟩ : MethodName) jdk_42_method_56_code 2 (some .char) :: ws) ({ frames := 3, cells := 0, slots := 0, locals := 40 } : Room)) (fun a U => a = #[(.ref a1), (.int p2)] ∧ Z.Warmed39 U.vm ∧ U.heap = h0) (fun _ _ _ _ _ => True) (fun _ U o U' => ∃ v L, o = .returned v ∧ Q2 Z a1 p2 c1 k_c1 w_COMPACT_STRINGS w_SIOOBE_FORMATTER h0 n0 v U'.heap L ∧ FrameEnd U o U' L ({ frames := 3, cells := 0, slots := 0, locals := 40 } : Room).cells ({ frames := 3, cells := 0, slots := 0, locals := 40 } : Room).slots) := by
  refine MetFree.of_bodySF (plainFor_of_name pn_2) hisR ?_
  intro p e s m args below meth c s₁ Bd hml0 hP hK
  obtain ⟨rfl, hZ, hh⟩ := hP
  skip
  skip
  skip
  skip
  skip
  skip
  have hx := Bd.exec
  have hby := Bd.bytes
  have hml : c.maxLocals = 2 := hml0
  have hown : s.vm.findClass "java/lang/String" = some m.cls := findClass_of_methodNamed Bd.named
  have hnm := (name_of_methodNamed Bd.named Bd.method).1
  have X0 : Stand p l e ({ frames := 3, cells := 0, slots := 0, locals := 40 } : Room) s m #[(.ref a1), (.int p2)] below meth c s₁ [] 0 0 := Stand.of_body Bd
  have e0 : s₁.heap = h0 := by rw [← hh, Bd.state]; rfl
  have N0 := Fr.nil n0
  have pre0 : ∀ t, Steps p.tables e below (s₁.setTop (mkF m 0 #[.val (.ref a1), .val (.int p2)] [])) t → Steps p.tables e below (s₁.setTop (entryFrame m #[(.ref a1), (.int p2)] 2)) t := fun t k => castTop (ef_2 m a1 p2) k
  obtain ⟨cq1, kq1, iq1a, iq1b, iq1c⟩ := isOf hZ e0 E_a1
  obtain ⟨_, _, ⟨T1, L1, k1, n1⟩, -, X1, ⟨Lc1, hQ1, l1, y1, z1⟩, st1⟩ := X0.virtualBack hx (y := (⟨"java/lang/String", "isLatin1", "()Z"⟩ : MethodName)) (z := (⟨"java/lang/String", "isLatin1", "()Z"⟩ : MethodName)) hown (mvT hZ (hw _ (List.mem_of_getElem? (i := 18) rfl))) (mvT hZ (hw _ (List.mem_of_getElem? (i := 19) rfl))) (notFace_of_selects (args := #[]) (mvT hZ (hw _ (List.mem_of_getElem? (i := 21) rfl)))) (mvT hZ (hw _ (List.mem_of_getElem? (i := 21) rfl))) (mvT hZ (hw _ (List.mem_of_getElem? (i := 20) rfl))) (by decide) (backOf (W := 0) (rm3 l Z a0 hw [] a1 w_COMPACT_STRINGS h0 n0 Z0 E_a1 F_coder_a1 S_COMPACT_STRINGS X00 hcs) hZ (hw _ (List.mem_of_getElem? (i := 22) rfl)) (hw _ (List.mem_of_getElem? (i := 1) rfl)) (by decide) (by decide)) iq1a iq1c (g := (mkF m 1 #[.val (.ref a1), .val (.int p2)] [(.ref a1)])) rfl (by rw [hml]; rfl) (Steps.refl _) (argsL := []) (rest := []) (lenOf pd_2_2 rfl) rfl (by show 2 * 0 + _ ≤ _; exact Nat.le_of_eq rfl) (hb hby d2_1) (fun _ _ => ⟨rfl, e0, (by decide : 0 + 0 ≤ _), (by decide : 0 + 0 ≤ _)⟩)
  dsimp only [Pt.U, Pt.locs, Pt.cells, Pt.slots] at X1 l1 y1 z1 st1 hQ1
  subst l1 y1 z1
  obtain ⟨rfl, N1q, e1⟩ := hQ1
  rw [show (F3 w_COMPACT_STRINGS) = (1 : Int32) from by first | decide | (unfold F3; repeat' split) <;> first | rfl | simp_all] at st1
  have N1 := Fr.app N0 N1q
  obtain ⟨T2, X2, e2, st2⟩ := getF X1 hx hZ hown (host := "") (Or.inl (hw _ (List.mem_of_getElem? (i := 25) rfl))) Via.refl e1 F_value_a1 (g := (mkF m 8 #[.val (.ref a1), .val (.int p2)] [(.ref a1)])) rfl rfl (hb hby d2_8)
  obtain ⟨_, _, ⟨T3, L3, k3, n3⟩, -, X3, ⟨Lc3, hQ3, l3, y3, z3⟩, st3⟩ := Jvm.LawKit.callS X2 hx (y := (⟨"java/lang/StringLatin1", "charAt", "([BI)C"⟩ : MethodName)) hown (mvT hZ (hw _ (List.mem_of_getElem? (i := 26) rfl))) (mvT hZ (hw _ (List.mem_of_getElem? (i := 27) rfl))) (mvT hZ (hw _ (List.mem_of_getElem? (i := 28) rfl))) (mvT hZ (hw _ (List.mem_of_getElem? (i := 29) rfl))) (by decide) (backOf (W := 0) (rm4 l Z a0 hw [] c1 p2 k_c1 w_SIOOBE_FORMATTER h0 n0 Z0 V_c1 hbd S_SIOOBE_FORMATTER r_w_SIOOBE_FORMATTER X00) hZ (hw _ (List.mem_of_getElem? (i := 29) rfl)) (hw _ (List.mem_of_getElem? (i := 28) rfl)) (by decide) (by decide)) (g := (mkF m 12 #[.val (.ref a1), .val (.int p2)] [(.int p2), (.ref c1)])) rfl (by rw [hml]; rfl) (argsL := [(.ref c1), (.int p2)]) (rest := []) (lenOf pd_2_3 rfl) rfl (by show 2 * 0 + _ ≤ _; exact Nat.le_of_eq rfl) (hb hby d2_12) (fun _ _ => ⟨rfl, e2, (by decide : 0 + 0 ≤ _), (by decide : 0 + 0 ≤ _)⟩)
  dsimp only [Pt.U, Pt.locs, Pt.cells, Pt.slots] at X3 l3 y3 z3 st3 hQ3
  subst l3 y3 z3
  obtain ⟨rfl, N3q, e3⟩ := hQ3
  have N3 := Fr.app N1 N3q
  obtain ⟨fs, hr, hrun, hended, hW, hsame⟩ := X3.leave (v := some (.int (nar .char (F4 p2)))) (fun h => by rw [Bd.returns] at h; cases h)
  refine ⟨_, _, pre0 _ ?_, hrun, hended, _, _, rfl, ?_, ⟨_, rfl⟩, hW, hsame.mono (by decide) (by decide)⟩
  · show Steps p.tables e below (s₁.setTop (mkF m 0 #[.val (.ref a1), .val (.int p2)] [])) _
    refine XS.aloadN X0.here hx rfl (hb hby d2_0) rfl rfl ?_
    show Steps p.tables e below (s₁.setTop (mkF m 1 #[.val (.ref a1), .val (.int p2)] [(.ref a1)])) _
    refine st1.trans ?_
    show Steps p.tables e below (T1.setTop (mkF m 4 #[.val (.ref a1), .val (.int p2)] [(.int (1 : Int32))])) _
    refine XS.ifNo X1.here hx rfl (hb hby d2_4) rfl ((if0 _ _).trans (feq (by decide : ¬ ((1 : Int32) = (0 : Int32)))).1) ?_
    show Steps p.tables e below (T1.setTop (mkF m 7 #[.val (.ref a1), .val (.int p2)] [])) _
    refine XS.aloadN X1.here hx rfl (hb hby d2_7) rfl rfl ?_
    show Steps p.tables e below (T1.setTop (mkF m 8 #[.val (.ref a1), .val (.int p2)] [(.ref a1)])) _
    refine st2 _ ?_
    show Steps p.tables e below (T2.setTop (mkF m 11 #[.val (.ref a1), .val (.int p2)] [(.ref c1)])) _
    refine XS.iloadN X2.here hx rfl (hb hby d2_11) rfl ?_
    show Steps p.tables e below (T2.setTop (mkF m 12 #[.val (.ref a1), .val (.int p2)] [(.int p2), (.ref c1)])) _
    refine st3 _ ?_
    show Steps p.tables e below (T3.setTop (mkF m 15 #[.val (.ref a1), .val (.int p2)] [(.int (F4 p2))])) _
    exact retN X3 hx (t := .char) Bd.returns (by simp) (hb hby d2_15) hr
  · show Q2 Z a1 p2 c1 k_c1 w_COMPACT_STRINGS w_SIOOBE_FORMATTER h0 n0 _ T3.heap _
    rw [e3]
    refine ⟨?_, N3, rfl⟩
    show (some (.int (nar .char (F4 p2))) : Option Value) = some (.int (F2 p2 w_COMPACT_STRINGS))
    rw [F2]
theorem d1002_0 : decode jdk_42_method_56_code 0 = .ok (.aload_n 0, 1) := by decide +kernel
theorem d1002_1 : decode jdk_42_method_56_code 1 = .ok (.invokevirtual 492, 3) := by decide +kernel
theorem d1002_4 : decode jdk_42_method_56_code 4 = .ok (.ifCond .eq 12, 3) := by decide +kernel
theorem d1002_7 : decode jdk_42_method_56_code 7 = .ok (.aload_n 0, 1) := by decide +kernel
theorem d1002_8 : decode jdk_42_method_56_code 8 = .ok (.getfield 9, 3) := by decide +kernel
theorem d1002_11 : decode jdk_42_method_56_code 11 = .ok (.iload_n 1, 1) := by decide +kernel
theorem d1002_12 : decode jdk_42_method_56_code 12 = .ok (.invokestatic 495, 3) := by decide +kernel
theorem d1002_15 : decode jdk_42_method_56_code 15 = .ok (.ireturn, 1) := by decide +kernel
theorem pn_1002 : plainName "java/lang/String" = true := by first | (simp [plainName, overriddenIn]; done) | decide +kernel
theorem pd_1002_2 : parseMethodDescriptor "()Z" = some ⟨[], some .boolean⟩ := by decide +kernel
theorem pd_1002_3 : parseMethodDescriptor "([BI)C" = some ⟨[(.array .byte), .int], some .char⟩ := by decide +kernel
theorem ef_1002 (m : MethodId) (a1 : Addr) (p2 : Int32) : entryFrame m #[(.ref a1), (.int p2)] 2 = mkF m 0 #[.val (.ref a1), .val (.int p2)] [] := by first | (simp [entryFrame, mkF, argsToLocals, Value.category]; done) | rfl
def F1002 (p2 : Int32) (w_COMPACT_STRINGS : Int32) : Int32 := (nar .char (F1004 p2))
def Q1002 (Z : State) (a1 : Addr) (p2 : Int32) (c1 : Addr) (k_c1 : ClassId) (w_COMPACT_STRINGS : Int32) (w_SIOOBE_FORMATTER : Value) (h0 : Heap) (n0 : Nat) (v : Option Value) (h : Heap) (L : List Loc) : Prop := v = some (.int (F1002 p2 w_COMPACT_STRINGS)) ∧ Fr n0 L ∧ h = h0
set_option maxRecDepth 65536 in
set_option maxHeartbeats 40000000 in
theorem rm1002 (l : Launch) (Z : State) (a0 : Array Value) (hw : ∀ d ∈ tables_1, d.before a0 Z = true) (ws : List Jvm.Cond) (a1 : Addr) (p2 : Int32) (c1 : Addr) (k_c1 : ClassId) (w_COMPACT_STRINGS : Int32) (w_SIOOBE_FORMATTER : Value) (h0 : Heap) (n0 : Nat) (Z0 : n0 ≤ h0.size) (E_a1 : Exa Z h0 a1 "java/lang/String") (F_coder_a1 : Fld Z h0 a1 "java/lang/String" "coder" "B" (.int (0 : Int32))) (F_value_a1 : Fld Z h0 a1 "java/lang/String" "value" "[B" (.ref c1)) (V_c1 : Arv Z h0 c1 k_c1 .byte (16 : Int32) [(.int (48 : Int32)), (.int (49 : Int32)), (.int (50 : Int32)), (.int (51 : Int32)), (.int (52 : Int32)), (.int (53 : Int32)), (.int (54 : Int32)), (.int (55 : Int32)), (.int (56 : Int32)), (.int (57 : Int32)), (.int (65 : Int32)), (.int (66 : Int32)), (.int (67 : Int32)), (.int (68 : Int32)), (.int (69 : Int32)), (.int (70 : Int32))] (.int (0 : Int32))) (hbd : ¬ (p2 < (0 : Int32)) ∧ p2 < (16 : Int32)) (S_COMPACT_STRINGS : Sta Z Z.heap "java/lang/String" "COMPACT_STRINGS" "Z" (.int w_COMPACT_STRINGS)) (X00 : Old Z n0 h0) (hcs : ¬ w_COMPACT_STRINGS = (0 : Int32)) (S_SIOOBE_FORMATTER : Sta Z Z.heap "jdk/internal/util/Preconditions" "SIOOBE_FORMATTER" "Ljava/util/function/BiFunction;" w_SIOOBE_FORMATTER) (r_w_SIOOBE_FORMATTER : w_SIOOBE_FORMATTER.isRef = true) :
    MetFree l (⟨"java/lang/String", "charAt", "(I)C"⟩ : MethodName) (head1 (Jvm.Cond.code (⟨"java/lang/String", "charAt", "(I)C"⟩ : MethodName) jdk_42_method_56_code 2 (some .char) :: ws) ({ frames := 3, cells := 0, slots := 0, locals := 40 } : Room)) (fun a U => a = #[(.ref a1), (.int p2)] ∧ Z.Warmed39 U.vm ∧ U.heap = h0) (fun _ _ _ _ _ => True) (fun _ U o U' => ∃ v L, o = .returned v ∧ Q1002 Z a1 p2 c1 k_c1 w_COMPACT_STRINGS w_SIOOBE_FORMATTER h0 n0 v U'.heap L ∧ FrameEnd U o U' L ({ frames := 3, cells := 0, slots := 0, locals := 40 } : Room).cells ({ frames := 3, cells := 0, slots := 0, locals := 40 } : Room).slots) := by
  refine MetFree.of_bodySF (plainFor_of_name pn_1002) hisR ?_
  intro p e s m args below meth c s₁ Bd hml0 hP hK
  obtain ⟨rfl, hZ, hh⟩ := hP
  skip
  skip
  skip
  skip
  skip
  skip
  have hx := Bd.exec
  have hby := Bd.bytes
  have hml : c.maxLocals = 2 := hml0
  have hown : s.vm.findClass "java/lang/String" = some m.cls := findClass_of_methodNamed Bd.named
  have hnm := (name_of_methodNamed Bd.named Bd.method).1
  have X0 : Stand p l e ({ frames := 3, cells := 0, slots := 0, locals := 40 } : Room) s m #[(.ref a1), (.int p2)] below meth c s₁ [] 0 0 := Stand.of_body Bd
  have e0 : s₁.heap = h0 := by rw [← hh, Bd.state]; rfl
  have N0 := Fr.nil n0
  have pre0 : ∀ t, Steps p.tables e below (s₁.setTop (mkF m 0 #[.val (.ref a1), .val (.int p2)] [])) t → Steps p.tables e below (s₁.setTop (entryFrame m #[(.ref a1), (.int p2)] 2)) t := fun t k => castTop (ef_1002 m a1 p2) k
  obtain ⟨cq1, kq1, iq1a, iq1b, iq1c⟩ := isOf hZ e0 E_a1
  obtain ⟨_, _, ⟨T1, L1, k1, n1⟩, -, X1, ⟨Lc1, hQ1, l1, y1, z1⟩, st1⟩ := X0.virtualBack hx (y := (⟨"java/lang/String", "isLatin1", "()Z"⟩ : MethodName)) (z := (⟨"java/lang/String", "isLatin1", "()Z"⟩ : MethodName)) hown (mvT hZ (hw _ (List.mem_of_getElem? (i := 18) rfl))) (mvT hZ (hw _ (List.mem_of_getElem? (i := 19) rfl))) (notFace_of_selects (args := #[]) (mvT hZ (hw _ (List.mem_of_getElem? (i := 21) rfl)))) (mvT hZ (hw _ (List.mem_of_getElem? (i := 21) rfl))) (mvT hZ (hw _ (List.mem_of_getElem? (i := 20) rfl))) (by decide) (backOf (W := 0) (rm3 l Z a0 hw [] a1 w_COMPACT_STRINGS h0 n0 Z0 E_a1 F_coder_a1 S_COMPACT_STRINGS X00 hcs) hZ (hw _ (List.mem_of_getElem? (i := 22) rfl)) (hw _ (List.mem_of_getElem? (i := 1) rfl)) (by decide) (by decide)) iq1a iq1c (g := (mkF m 1 #[.val (.ref a1), .val (.int p2)] [(.ref a1)])) rfl (by rw [hml]; rfl) (Steps.refl _) (argsL := []) (rest := []) (lenOf pd_1002_2 rfl) rfl (by show 2 * 0 + _ ≤ _; exact Nat.le_of_eq rfl) (hb hby d1002_1) (fun _ _ => ⟨rfl, e0, (by decide : 0 + 0 ≤ _), (by decide : 0 + 0 ≤ _)⟩)
  dsimp only [Pt.U, Pt.locs, Pt.cells, Pt.slots] at X1 l1 y1 z1 st1 hQ1
  subst l1 y1 z1
  obtain ⟨rfl, N1q, e1⟩ := hQ1
  rw [show (F3 w_COMPACT_STRINGS) = (1 : Int32) from by first | decide | (unfold F3; repeat' split) <;> first | rfl | simp_all] at st1
  have N1 := Fr.app N0 N1q
  obtain ⟨T2, X2, e2, st2⟩ := getF X1 hx hZ hown (host := "") (Or.inl (hw _ (List.mem_of_getElem? (i := 25) rfl))) Via.refl e1 F_value_a1 (g := (mkF m 8 #[.val (.ref a1), .val (.int p2)] [(.ref a1)])) rfl rfl (hb hby d1002_8)
  obtain ⟨_, _, ⟨T3, L3, k3, n3⟩, -, X3, ⟨Lc3, hQ3, l3, y3, z3⟩, st3⟩ := Jvm.LawKit.callS X2 hx (y := (⟨"java/lang/StringLatin1", "charAt", "([BI)C"⟩ : MethodName)) hown (mvT hZ (hw _ (List.mem_of_getElem? (i := 26) rfl))) (mvT hZ (hw _ (List.mem_of_getElem? (i := 27) rfl))) (mvT hZ (hw _ (List.mem_of_getElem? (i := 28) rfl))) (mvT hZ (hw _ (List.mem_of_getElem? (i := 29) rfl))) (by decide) (backOf (W := 0) (rm1004 l Z a0 hw [] c1 p2 k_c1 w_SIOOBE_FORMATTER h0 n0 Z0 V_c1 hbd S_SIOOBE_FORMATTER r_w_SIOOBE_FORMATTER X00) hZ (hw _ (List.mem_of_getElem? (i := 29) rfl)) (hw _ (List.mem_of_getElem? (i := 28) rfl)) (by decide) (by decide)) (g := (mkF m 12 #[.val (.ref a1), .val (.int p2)] [(.int p2), (.ref c1)])) rfl (by rw [hml]; rfl) (argsL := [(.ref c1), (.int p2)]) (rest := []) (lenOf pd_1002_3 rfl) rfl (by show 2 * 0 + _ ≤ _; exact Nat.le_of_eq rfl) (hb hby d1002_12) (fun _ _ => ⟨rfl, e2, (by decide : 0 + 0 ≤ _), (by decide : 0 + 0 ≤ _)⟩)
  dsimp only [Pt.U, Pt.locs, Pt.cells, Pt.slots] at X3 l3 y3 z3 st3 hQ3
  subst l3 y3 z3
  obtain ⟨rfl, N3q, e3⟩ := hQ3
  have N3 := Fr.app N1 N3q
  obtain ⟨fs, hr, hrun, hended, hW, hsame⟩ := X3.leave (v := some (.int (nar .char (F1004 p2)))) (fun h => by rw [Bd.returns] at h; cases h)
  refine ⟨_, _, pre0 _ ?_, hrun, hended, _, _, rfl, ?_, ⟨_, rfl⟩, hW, hsame.mono (by decide) (by decide)⟩
  · show Steps p.tables e below (s₁.setTop (mkF m 0 #[.val (.ref a1), .val (.int p2)] [])) _
    refine XS.aloadN X0.here hx rfl (hb hby d1002_0) rfl rfl ?_
    show Steps p.tables e below (s₁.setTop (mkF m 1 #[.val (.ref a1), .val (.int p2)] [(.ref a1)])) _
    refine st1.trans ?_
    show Steps p.tables e below (T1.setTop (mkF m 4 #[.val (.ref a1), .val (.int p2)] [(.int (1 : Int32))])) _
    refine XS.ifNo X1.here hx rfl (hb hby d1002_4) rfl ((if0 _ _).trans (feq (by decide : ¬ ((1 : Int32) = (0 : Int32)))).1) ?_
    show Steps p.tables e below (T1.setTop (mkF m 7 #[.val (.ref a1), .val (.int p2)] [])) _
    refine XS.aloadN X1.here hx rfl (hb hby d1002_7) rfl rfl ?_
    show Steps p.tables e below (T1.setTop (mkF m 8 #[.val (.ref a1), .val (.int p2)] [(.ref a1)])) _
    refine st2 _ ?_
    show Steps p.tables e below (T2.setTop (mkF m 11 #[.val (.ref a1), .val (.int p2)] [(.ref c1)])) _
    refine XS.iloadN X2.here hx rfl (hb hby d1002_11) rfl ?_
    show Steps p.tables e below (T2.setTop (mkF m 12 #[.val (.ref a1), .val (.int p2)] [(.int p2), (.ref c1)])) _
    refine st3 _ ?_
    show Steps p.tables e below (T3.setTop (mkF m 15 #[.val (.ref a1), .val (.int p2)] [(.int (F1004 p2))])) _
    exact retN X3 hx (t := .char) Bd.returns (by simp) (hb hby d1002_15) hr
  · show Q1002 Z a1 p2 c1 k_c1 w_COMPACT_STRINGS w_SIOOBE_FORMATTER h0 n0 _ T3.heap _
    rw [e3]
    refine ⟨?_, N3, rfl⟩
    show (some (.int (nar .char (F1004 p2))) : Option Value) = some (.int (F1002 p2 w_COMPACT_STRINGS))
    rw [F1002]
theorem own_c1 : ∀ n : Nat, n < 128 → (if (F1 (Int32.ofNat n)) = (-1 : Int32) then (1 : Int32) else (if (F1 (Int32.ofNat n)) < (0 : Int32) then (0 : Int32) else (if (15 : Int32) < (F1 (Int32.ofNat n)) then (0 : Int32) else (if (Int32.ofNat n) = (nar .char (F4 (F1 (Int32.ofNat n)))) then (1 : Int32) else (if (Int32.ofNat n) = (nar .char (F1004 (F1 (Int32.ofNat n)))) then (1 : Int32) else (0 : Int32)))))) = 1 := by decide +kernel
theorem own_c2 : ∀ n : Nat, n < 16 → F1 (nar .char (F4 (Int32.ofNat n))) = Int32.ofNat n ∧ F1 (nar .char (F1004 (Int32.ofNat n))) = Int32.ofNat n := by decide +kernel
theorem own_far (c : Int32) (h : ¬ (0 ≤ c.toInt ∧ c.toInt < 128)) : F1 c = -1 := by
  rw [own_eqI]
  simp only [F1, own_ltI, own_eqI, apply_ite Int32.toInt, Int32.reduceToInt]
  generalize hx : c.toInt = x at *
  have b := own_bd c
  repeat' split
  all_goals first | rfl | (exfalso; omega)
theorem own_nat (c : Int32) (h : 0 ≤ c.toInt) : c = Int32.ofNat c.toInt.toNat := by
  have b := own_bd c
  rw [own_eqI, Int32.toInt_ofNat_of_lt (by omega)]; omega
theorem own_all (c w : Int32) : (if (F1 c) = (-1 : Int32) then (1 : Int32) else (if (F1 c) < (0 : Int32) then (0 : Int32) else (if (15 : Int32) < (F1 c) then (0 : Int32) else (if c = (F2 (F1 c) w) then (1 : Int32) else (if c = (F1002 (F1 c) w) then (1 : Int32) else (0 : Int32)))))) = 1 := by
  by_cases h : 0 ≤ c.toInt ∧ c.toInt < 128
  · have e := own_nat c h.1
    have q := own_c1 c.toInt.toNat (by omega)
    rw [← e] at q
    exact q
  · rw [if_pos (own_far c h)]
theorem own_v (p2 : Int32) (w : Int32) : F1 (F2 (p2 &&& 15) w) = (p2 &&& 15) ∧ F1 (F1002 (p2 &&& 15) w) = (p2 &&& 15) := by
  have m := Jvm.Kit.i32_mask p2 15 (k := 4) (by decide) (by decide)
  have e := own_nat (p2 &&& 15) (by omega)
  have q := own_c2 (p2 &&& 15).toInt.toNat (by omega)
  rw [← e] at q
  exact q
theorem pn_0 : plainName "com/example/lofu/lofu/text/AsciiTableHexValuePinLaw" = true := by first | (simp [plainName, overriddenIn]; done) | decide +kernel
theorem pd_0_0 : parseMethodDescriptor "(C)I" = some ⟨[.char], some .int⟩ := by decide +kernel
theorem pd_0_1 : parseMethodDescriptor "(I)C" = some ⟨[.int], some .char⟩ := by decide +kernel
theorem ef_0 (m : MethodId) (p1 : Int32) (p2 : Int32) : entryFrame m #[(.int p1), (.int p2)] maxLocals = mkF m 0 #[.val (.int p1), .val (.int p2), .unset, .unset, .unset, .unset, .unset, .unset, .unset, .unset] [] := by first | (simp [entryFrame, mkF, argsToLocals, Value.category, maxLocals]; done) | rfl
set_option maxRecDepth 65536 in
set_option maxHeartbeats 40000000 in
theorem side_0_46 (p1 : Int32) (p2 : Int32) (w_COMPACT_STRINGS : Int32) (hc7 : ¬ ((F1 (p1.toUInt32.toUInt16.toUInt32.toInt32)) = (-1 : Int32))) (hc9 : ¬ ((F1 (p1.toUInt32.toUInt16.toUInt32.toInt32)) < (0 : Int32))) (hc11 : ¬ ((15 : Int32) < (F1 (p1.toUInt32.toUInt16.toUInt32.toInt32)))) : ¬ ((F1 (p1.toUInt32.toUInt16.toUInt32.toInt32)) < (0 : Int32)) ∧ (F1 (p1.toUInt32.toUInt16.toUInt32.toInt32)) < (16 : Int32) := by
  refine ⟨hc9, ?_⟩
  simp only [own_ltI, own_eqI, Int32.reduceToInt] at *
  omega
set_option maxRecDepth 65536 in
set_option maxHeartbeats 40000000 in
theorem side_0_57 (p1 : Int32) (p2 : Int32) (w_COMPACT_STRINGS : Int32) (hc7 : ¬ ((F1 (p1.toUInt32.toUInt16.toUInt32.toInt32)) = (-1 : Int32))) (hc9 : ¬ ((F1 (p1.toUInt32.toUInt16.toUInt32.toInt32)) < (0 : Int32))) (hc11 : ¬ ((15 : Int32) < (F1 (p1.toUInt32.toUInt16.toUInt32.toInt32)))) (hc19 : ¬ ((p1.toUInt32.toUInt16.toUInt32.toInt32) = (F2 (F1 (p1.toUInt32.toUInt16.toUInt32.toInt32)) w_COMPACT_STRINGS))) : ¬ ((F1 (p1.toUInt32.toUInt16.toUInt32.toInt32)) < (0 : Int32)) ∧ (F1 (p1.toUInt32.toUInt16.toUInt32.toInt32)) < (16 : Int32) := by
  refine ⟨hc9, ?_⟩
  clear hc19
  simp only [own_ltI, own_eqI, Int32.reduceToInt] at *
  omega
set_option maxRecDepth 65536 in
set_option maxHeartbeats 40000000 in
theorem side_0_102 (p1 : Int32) (p2 : Int32) (w_COMPACT_STRINGS : Int32) (v25 : Int32) (hv25 : v25 = (if (F1 (p1.toUInt32.toUInt16.toUInt32.toInt32)) = (-1 : Int32) then (1 : Int32) else (if (F1 (p1.toUInt32.toUInt16.toUInt32.toInt32)) < (0 : Int32) then (0 : Int32) else (if (15 : Int32) < (F1 (p1.toUInt32.toUInt16.toUInt32.toInt32)) then (0 : Int32) else (if (p1.toUInt32.toUInt16.toUInt32.toInt32) = (F2 (F1 (p1.toUInt32.toUInt16.toUInt32.toInt32)) w_COMPACT_STRINGS) then (1 : Int32) else (if (p1.toUInt32.toUInt16.toUInt32.toInt32) = (F1002 (F1 (p1.toUInt32.toUInt16.toUInt32.toInt32)) w_COMPACT_STRINGS) then (1 : Int32) else (0 : Int32))))))) (hc27 : (((p2.toUInt32 >>> ((4 : Int32) &&& 31).toUInt32).toInt32) &&& (1 : Int32)) = (0 : Int32)) : ¬ ((p2 &&& (15 : Int32)) < (0 : Int32)) ∧ (p2 &&& (15 : Int32)) < (16 : Int32) := by
  have m := Jvm.Kit.i32_mask p2 15 (k := 4) (by decide) (by decide)
  simp only [own_ltI, Int32.reduceToInt]
  omega
set_option maxRecDepth 65536 in
set_option maxHeartbeats 40000000 in
theorem side_0_93 (p1 : Int32) (p2 : Int32) (w_COMPACT_STRINGS : Int32) (v25 : Int32) (hv25 : v25 = (if (F1 (p1.toUInt32.toUInt16.toUInt32.toInt32)) = (-1 : Int32) then (1 : Int32) else (if (F1 (p1.toUInt32.toUInt16.toUInt32.toInt32)) < (0 : Int32) then (0 : Int32) else (if (15 : Int32) < (F1 (p1.toUInt32.toUInt16.toUInt32.toInt32)) then (0 : Int32) else (if (p1.toUInt32.toUInt16.toUInt32.toInt32) = (F2 (F1 (p1.toUInt32.toUInt16.toUInt32.toInt32)) w_COMPACT_STRINGS) then (1 : Int32) else (if (p1.toUInt32.toUInt16.toUInt32.toInt32) = (F1002 (F1 (p1.toUInt32.toUInt16.toUInt32.toInt32)) w_COMPACT_STRINGS) then (1 : Int32) else (0 : Int32))))))) (hc27 : ¬ ((((p2.toUInt32 >>> ((4 : Int32) &&& 31).toUInt32).toInt32) &&& (1 : Int32)) = (0 : Int32))) : ¬ ((p2 &&& (15 : Int32)) < (0 : Int32)) ∧ (p2 &&& (15 : Int32)) < (16 : Int32) := by
  have m := Jvm.Kit.i32_mask p2 15 (k := 4) (by decide) (by decide)
  simp only [own_ltI, Int32.reduceToInt]
  omega
set_option maxRecDepth 65536 in
set_option maxHeartbeats 40000000 in
theorem leaf_0_1 (p1 : Int32) (p2 : Int32) (w_COMPACT_STRINGS : Int32) (v25 : Int32) (hv25 : v25 = (if (F1 (p1.toUInt32.toUInt16.toUInt32.toInt32)) = (-1 : Int32) then (1 : Int32) else (if (F1 (p1.toUInt32.toUInt16.toUInt32.toInt32)) < (0 : Int32) then (0 : Int32) else (if (15 : Int32) < (F1 (p1.toUInt32.toUInt16.toUInt32.toInt32)) then (0 : Int32) else (if (p1.toUInt32.toUInt16.toUInt32.toInt32) = (F2 (F1 (p1.toUInt32.toUInt16.toUInt32.toInt32)) w_COMPACT_STRINGS) then (1 : Int32) else (if (p1.toUInt32.toUInt16.toUInt32.toInt32) = (F1002 (F1 (p1.toUInt32.toUInt16.toUInt32.toInt32)) w_COMPACT_STRINGS) then (1 : Int32) else (0 : Int32))))))) (v37 : Int32) (hv37 : v37 = (if (((p2.toUInt32 >>> ((4 : Int32) &&& 31).toUInt32).toInt32) &&& (1 : Int32)) = (0 : Int32) then (F2 (p2 &&& (15 : Int32)) w_COMPACT_STRINGS) else (F1002 (p2 &&& (15 : Int32)) w_COMPACT_STRINGS))) (v42 : Int32) (hv42 : v42 = (if (F1 v37) = (p2 &&& (15 : Int32)) then (1 : Int32) else (0 : Int32))) (hc44 : v25 = (0 : Int32)) : False := by
  rw [own_all] at hv25
  rw [hv25] at hc44
  exact absurd hc44 (by decide)
set_option maxRecDepth 65536 in
set_option maxHeartbeats 40000000 in
theorem leaf_0_2 (p1 : Int32) (p2 : Int32) (w_COMPACT_STRINGS : Int32) (v25 : Int32) (hv25 : v25 = (if (F1 (p1.toUInt32.toUInt16.toUInt32.toInt32)) = (-1 : Int32) then (1 : Int32) else (if (F1 (p1.toUInt32.toUInt16.toUInt32.toInt32)) < (0 : Int32) then (0 : Int32) else (if (15 : Int32) < (F1 (p1.toUInt32.toUInt16.toUInt32.toInt32)) then (0 : Int32) else (if (p1.toUInt32.toUInt16.toUInt32.toInt32) = (F2 (F1 (p1.toUInt32.toUInt16.toUInt32.toInt32)) w_COMPACT_STRINGS) then (1 : Int32) else (if (p1.toUInt32.toUInt16.toUInt32.toInt32) = (F1002 (F1 (p1.toUInt32.toUInt16.toUInt32.toInt32)) w_COMPACT_STRINGS) then (1 : Int32) else (0 : Int32))))))) (v37 : Int32) (hv37 : v37 = (if (((p2.toUInt32 >>> ((4 : Int32) &&& 31).toUInt32).toInt32) &&& (1 : Int32)) = (0 : Int32) then (F2 (p2 &&& (15 : Int32)) w_COMPACT_STRINGS) else (F1002 (p2 &&& (15 : Int32)) w_COMPACT_STRINGS))) (v42 : Int32) (hv42 : v42 = (if (F1 v37) = (p2 &&& (15 : Int32)) then (1 : Int32) else (0 : Int32))) (hc44 : ¬ (v25 = (0 : Int32))) (hc46 : v42 = (0 : Int32)) : False := by
  have q := own_v p2 w_COMPACT_STRINGS
  have e : F1 v37 = (p2 &&& 15) := by
    rw [hv37]; split
    · exact q.1
    · exact q.2
  rw [if_pos e] at hv42
  rw [hv42] at hc46
  exact absurd hc46 (by decide)
def Q0 (Z : State) (p1 : Int32) (p2 : Int32) (w_COMPACT_STRINGS : Int32) (w_SIOOBE_FORMATTER : Value) (h0 : Heap) (n0 : Nat) (v : Option Value) (h : Heap) (L : List Loc) : Prop := v = some (.int (1 : Int32)) ∧ Fr n0 L
set_option maxRecDepth 65536 in
set_option maxHeartbeats 40000000 in
theorem rm0 (l : Launch) (Z : State) (a0 : Array Value) (hw : ∀ d ∈ tables_1, d.before a0 Z = true) (ws : List Jvm.Cond) (p1 : Int32) (p2 : Int32) (w_COMPACT_STRINGS : Int32) (w_SIOOBE_FORMATTER : Value) (h0 : Heap) (n0 : Nat) (Z0 : n0 ≤ h0.size) (hh0 : h0 = Z.heap) (hn0 : n0 = Z.heap.size) (hcw : Jvm.Lit.compactW.before a0 Z = true) (HC7 : Jvm.Lit.constHeld Z "com/example/lofu/lofu/text/AsciiTableHexValuePinLaw" 7) (HC9 : Jvm.Lit.constHeld Z "com/example/lofu/lofu/text/AsciiTableHexValuePinLaw" 9) (S_COMPACT_STRINGS : Sta Z Z.heap "java/lang/String" "COMPACT_STRINGS" "Z" (.int w_COMPACT_STRINGS)) (S_SIOOBE_FORMATTER : Sta Z Z.heap "jdk/internal/util/Preconditions" "SIOOBE_FORMATTER" "Ljava/util/function/BiFunction;" w_SIOOBE_FORMATTER) (X00 : Old Z n0 h0) (hcs : ¬ w_COMPACT_STRINGS = (0 : Int32)) (r_w_SIOOBE_FORMATTER : w_SIOOBE_FORMATTER.isRef = true) :
    MetFree l x (head1 (Jvm.Cond.code x code maxLocals ret :: ws) room_1) (fun a U => a = #[(.int p1), (.int p2)] ∧ U = Z) (fun _ _ _ _ _ => True) (fun _ U o U' => ∃ v L, o = .returned v ∧ Q0 Z p1 p2 w_COMPACT_STRINGS w_SIOOBE_FORMATTER h0 n0 v U'.heap L ∧ ReturnedEndW U o U' L room_1.cells room_1.slots) := by
  refine MetFree.of_bodySF (plainFor_of_name pn_0) hisR ?_
  intro p e s m args below meth c s₁ Bd hml0 hP hK
  obtain ⟨rfl, hsZ⟩ := hP
  have hZ : Z.Warmed39 s.vm := by rw [hsZ]; exact State.Warmed39.refl Z
  have hh : s.heap = h0 := by rw [hsZ, hh0]
  have hS0 : s.Since s.vm h0.size := (State.WarmedH.refl s).since _
  have hk0 : h0.size ≤ h0.size := Nat.le_refl _
  have I0 : IB Z s.vm [] := by rw [hsZ]; exact IB.start
  have wS : ∀ a ∈ Bundle.stringAtoms, a.before a0 Z = true := by
    intro d hd
    simp only [Bundle.stringAtoms, List.mem_cons, List.not_mem_nil, or_false] at hd
    rcases hd with rfl | rfl | rfl | rfl | rfl | rfl | rfl
    · exact (hw _ (List.mem_of_getElem? (i := 1) rfl))
    · exact (hw _ (List.mem_of_getElem? (i := 2) rfl))
    · exact (hw _ (List.mem_of_getElem? (i := 3) rfl))
    · exact (hw _ (List.mem_of_getElem? (i := 4) rfl))
    · exact (hw _ (List.mem_of_getElem? (i := 5) rfl))
    · exact (hw _ (List.mem_of_getElem? (i := 6) rfl))
    · exact (hw _ (List.mem_of_getElem? (i := 7) rfl))
  have hx := Bd.exec
  have hby := Bd.bytes
  have hml : c.maxLocals = 10 := hml0
  have hown : s.vm.findClass "com/example/lofu/lofu/text/AsciiTableHexValuePinLaw" = some m.cls := findClass_of_methodNamed Bd.named
  have hnm := (name_of_methodNamed Bd.named Bd.method).1
  have X0 : Stand p l e room_1 s m #[(.int p1), (.int p2)] below meth c s₁ [] 0 0 := Stand.of_body Bd
  have e0 : s₁.heap = h0 := by rw [← hh, Bd.state]; rfl
  have N0 := Fr.nil n0
  have pre0 : ∀ t, Steps p.tables e below (s₁.setTop (mkF m 0 #[.val (.int p1), .val (.int p2), .unset, .unset, .unset, .unset, .unset, .unset, .unset, .unset] [])) t → Steps p.tables e below (s₁.setTop (entryFrame m #[(.int p1), (.int p2)] maxLocals)) t := fun t k => castTop (ef_0 m p1 p2) k
  obtain ⟨b1, T1, h1, kz1, bv1, kk1, X1, e1, E1, hS1, hk1, hZ, hown, A1, C1, FV1, V1, lt1, ltb1, I1, st1⟩ := ldcSV (s := s) (vm0 := s.vm) X0 hx hZ hown (hw _ (List.mem_of_getElem? (i := 0) rfl)) wS e0 hS0 (Nat.le_trans (Nat.le_of_eq (by rw [hn0, hh0])) Z0) (by rw [hsZ, ← hn0]; exact N0) (fun b cl q => by rw [hsZ]; exact q) I0 (by decide) HC7 hcw (vs := [(.int (48 : Int32)), (.int (49 : Int32)), (.int (50 : Int32)), (.int (51 : Int32)), (.int (52 : Int32)), (.int (53 : Int32)), (.int (54 : Int32)), (.int (55 : Int32)), (.int (56 : Int32)), (.int (57 : Int32)), (.int (97 : Int32)), (.int (98 : Int32)), (.int (99 : Int32)), (.int (100 : Int32)), (.int (101 : Int32)), (.int (102 : Int32))]) (z := (16 : Int32)) ⟨by decide, by rfl⟩ (by decide) (by rfl) (g := (mkF m 0 #[.val (.int p1), .val (.int p2), .unset, .unset, .unset, .unset, .unset, .unset, .unset, .unset] [])) rfl (hb hby at_0) (n := 64) (by decide) (by decide) (by decide) (by decide)
  have pre2 : ∀ t, Steps p.tables e below (T1.setTop (mkF m 3 #[.val (.int p1), .val (.int p2), .val (.ref b1), .unset, .unset, .unset, .unset, .unset, .unset, .unset] [])) t → Steps p.tables e below (s₁.setTop (entryFrame m #[(.int p1), (.int p2)] maxLocals)) t := fun t kt => by
    refine pre0 t ?_
    show Steps p.tables e below (s₁.setTop (mkF m 0 #[.val (.int p1), .val (.int p2), .unset, .unset, .unset, .unset, .unset, .unset, .unset, .unset] [])) _
    refine st1 _ ?_
    show Steps p.tables e below (T1.setTop (mkF m 2 #[.val (.int p1), .val (.int p2), .unset, .unset, .unset, .unset, .unset, .unset, .unset, .unset] [(.ref b1)])) _
    refine XS.astoreN X1.here hx rfl (hb hby at_2) rfl rfl (l' := #[.val (.int p1), .val (.int p2), .val (.ref b1), .unset, .unset, .unset, .unset, .unset, .unset, .unset]) rfl ?_
    exact kt
  obtain ⟨b3, T3, h3, kz3, bv3, kk3, X3, e3, E3, hS3, hk3, hZ, hown, A3, C3, FV3, V3, lt3, ltb3, I3, st3⟩ := ldcSV (s := s) (vm0 := T1.vm) X1 hx hZ hown (hw _ (List.mem_of_getElem? (i := 8) rfl)) wS e1 hS1 hk1 (by rw [hsZ, ← hn0]; exact N0) (fun b cl q => by rw [hsZ]; exact q) I1 (by decide) HC9 hcw (vs := [(.int (48 : Int32)), (.int (49 : Int32)), (.int (50 : Int32)), (.int (51 : Int32)), (.int (52 : Int32)), (.int (53 : Int32)), (.int (54 : Int32)), (.int (55 : Int32)), (.int (56 : Int32)), (.int (57 : Int32)), (.int (65 : Int32)), (.int (66 : Int32)), (.int (67 : Int32)), (.int (68 : Int32)), (.int (69 : Int32)), (.int (70 : Int32))]) (z := (16 : Int32)) ⟨by decide, by rfl⟩ (by decide) (by rfl) (g := (mkF m 3 #[.val (.int p1), .val (.int p2), .val (.ref b1), .unset, .unset, .unset, .unset, .unset, .unset, .unset] [])) rfl (hb hby at_3) (n := 64) (by decide) (by decide) (by decide) (by decide)
  have z5 : n0 ≤ h3.size := (Nat.le_trans (Nat.le_trans Z0 E1.1) E3.1)
  obtain ⟨_, _, ⟨T4, L4, k4, n4⟩, -, X4, ⟨Lc4, hQ4, l4, y4, z4⟩, st4⟩ := Jvm.LawKit.callS X3 hx (y := (⟨"com/example/lofu/lofu/text/AsciiTable", "hexValue", "(C)I"⟩ : MethodName)) hown (mvT hZ (hw _ (List.mem_of_getElem? (i := 9) rfl))) (mvT hZ (hw _ (List.mem_of_getElem? (i := 10) rfl))) (mvT hZ (hw _ (List.mem_of_getElem? (i := 11) rfl))) (mvT hZ (hw _ (List.mem_of_getElem? (i := 12) rfl))) (by decide) (backOf (W := 0) (rm1 l Z a0 hw [] (p1.toUInt32.toUInt16.toUInt32.toInt32) h3 n0 z5) hZ (hw _ (List.mem_of_getElem? (i := 12) rfl)) (hw _ (List.mem_of_getElem? (i := 11) rfl)) (by decide) (by decide)) (g := (mkF m 12 #[.val (.int p1), .val (.int p2), .val (.ref b1), .val (.ref b3), .val (.int (p1.toUInt32.toUInt16.toUInt32.toInt32)), .unset, .unset, .unset, .unset, .unset] [(.int (p1.toUInt32.toUInt16.toUInt32.toInt32))])) rfl (by rw [hml]; rfl) (argsL := [(.int (p1.toUInt32.toUInt16.toUInt32.toInt32))]) (rest := []) (lenOf pd_0_0 rfl) rfl (by show 2 * 0 + _ ≤ _; exact Nat.le_of_eq rfl) (hb hby at_12) (fun _ _ => ⟨rfl, e3, (by decide : 4 + 0 ≤ _), (by decide : 136 + 0 ≤ _)⟩)
  dsimp only [Pt.U, Pt.locs, Pt.cells, Pt.slots] at X4 l4 y4 z4 st4 hQ4
  subst l4 y4 z4
  obtain ⟨rfl, N4q, e4⟩ := hQ4
  have N4 := Fr.app N0 N4q
  have pre6 : ∀ t, Steps p.tables e below (T4.setTop (mkF m 20 #[.val (.int p1), .val (.int p2), .val (.ref b1), .val (.ref b3), .val (.int (p1.toUInt32.toUInt16.toUInt32.toInt32)), .val (.int (F1 (p1.toUInt32.toUInt16.toUInt32.toInt32))), .unset, .unset, .unset, .unset] [(.int (-1 : Int32)), (.int (F1 (p1.toUInt32.toUInt16.toUInt32.toInt32)))])) t → Steps p.tables e below (s₁.setTop (entryFrame m #[(.int p1), (.int p2)] maxLocals)) t := fun t kt => by
    refine pre2 t ?_
    show Steps p.tables e below (T1.setTop (mkF m 3 #[.val (.int p1), .val (.int p2), .val (.ref b1), .unset, .unset, .unset, .unset, .unset, .unset, .unset] [])) _
    refine st3 _ ?_
    show Steps p.tables e below (T3.setTop (mkF m 5 #[.val (.int p1), .val (.int p2), .val (.ref b1), .unset, .unset, .unset, .unset, .unset, .unset, .unset] [(.ref b3)])) _
    refine XS.astoreN X3.here hx rfl (hb hby at_5) rfl rfl (l' := #[.val (.int p1), .val (.int p2), .val (.ref b1), .val (.ref b3), .unset, .unset, .unset, .unset, .unset, .unset]) rfl ?_
    show Steps p.tables e below (T3.setTop (mkF m 6 #[.val (.int p1), .val (.int p2), .val (.ref b1), .val (.ref b3), .unset, .unset, .unset, .unset, .unset, .unset] [])) _
    refine XS.iloadN X3.here hx rfl (hb hby at_6) rfl ?_
    show Steps p.tables e below (T3.setTop (mkF m 7 #[.val (.int p1), .val (.int p2), .val (.ref b1), .val (.ref b3), .unset, .unset, .unset, .unset, .unset, .unset] [(.int p1)])) _
    refine XS.i2c X3.here hx rfl (hb hby at_7) rfl ?_
    show Steps p.tables e below (T3.setTop (mkF m 8 #[.val (.int p1), .val (.int p2), .val (.ref b1), .val (.ref b3), .unset, .unset, .unset, .unset, .unset, .unset] [(.int (p1.toUInt32.toUInt16.toUInt32.toInt32))])) _
    refine XS.istore X3.here hx rfl (hb hby at_8) rfl (l' := #[.val (.int p1), .val (.int p2), .val (.ref b1), .val (.ref b3), .val (.int (p1.toUInt32.toUInt16.toUInt32.toInt32)), .unset, .unset, .unset, .unset, .unset]) rfl ?_
    show Steps p.tables e below (T3.setTop (mkF m 10 #[.val (.int p1), .val (.int p2), .val (.ref b1), .val (.ref b3), .val (.int (p1.toUInt32.toUInt16.toUInt32.toInt32)), .unset, .unset, .unset, .unset, .unset] [])) _
    refine XS.iload X3.here hx rfl (hb hby at_10) rfl ?_
    show Steps p.tables e below (T3.setTop (mkF m 12 #[.val (.int p1), .val (.int p2), .val (.ref b1), .val (.ref b3), .val (.int (p1.toUInt32.toUInt16.toUInt32.toInt32)), .unset, .unset, .unset, .unset, .unset] [(.int (p1.toUInt32.toUInt16.toUInt32.toInt32))])) _
    refine st4 _ ?_
    show Steps p.tables e below (T4.setTop (mkF m 15 #[.val (.int p1), .val (.int p2), .val (.ref b1), .val (.ref b3), .val (.int (p1.toUInt32.toUInt16.toUInt32.toInt32)), .unset, .unset, .unset, .unset, .unset] [(.int (F1 (p1.toUInt32.toUInt16.toUInt32.toInt32)))])) _
    refine XS.istore X4.here hx rfl (hb hby at_15) rfl (l' := #[.val (.int p1), .val (.int p2), .val (.ref b1), .val (.ref b3), .val (.int (p1.toUInt32.toUInt16.toUInt32.toInt32)), .val (.int (F1 (p1.toUInt32.toUInt16.toUInt32.toInt32))), .unset, .unset, .unset, .unset]) rfl ?_
    show Steps p.tables e below (T4.setTop (mkF m 17 #[.val (.int p1), .val (.int p2), .val (.ref b1), .val (.ref b3), .val (.int (p1.toUInt32.toUInt16.toUInt32.toInt32)), .val (.int (F1 (p1.toUInt32.toUInt16.toUInt32.toInt32))), .unset, .unset, .unset, .unset] [])) _
    refine XS.iload X4.here hx rfl (hb hby at_17) rfl ?_
    show Steps p.tables e below (T4.setTop (mkF m 19 #[.val (.int p1), .val (.int p2), .val (.ref b1), .val (.ref b3), .val (.int (p1.toUInt32.toUInt16.toUInt32.toInt32)), .val (.int (F1 (p1.toUInt32.toUInt16.toUInt32.toInt32))), .unset, .unset, .unset, .unset] [(.int (F1 (p1.toUInt32.toUInt16.toUInt32.toInt32)))])) _
    refine XS.iconst X4.here hx rfl (hb hby at_19) ?_
    exact kt
  obtain ⟨T24, Lc24, X24, e24, N24, pre24⟩ : ∃ (T24 : State) (Lc24 : List Loc) , Stand p l e room_1 (s.setVm T3.vm) m #[(.int p1), (.int p2)] below meth c T24 Lc24 4 136 ∧ T24.heap = h3 ∧ Fr n0 Lc24 ∧ ∀ t, Steps p.tables e below (T24.setTop (mkF m 76 #[.val (.int p1), .val (.int p2), .val (.ref b1), .val (.ref b3), .val (.int (p1.toUInt32.toUInt16.toUInt32.toInt32)), .val (.int (F1 (p1.toUInt32.toUInt16.toUInt32.toInt32))), .val (.int (if (F1 (p1.toUInt32.toUInt16.toUInt32.toInt32)) = (-1 : Int32) then (1 : Int32) else (if (F1 (p1.toUInt32.toUInt16.toUInt32.toInt32)) < (0 : Int32) then (0 : Int32) else (if (15 : Int32) < (F1 (p1.toUInt32.toUInt16.toUInt32.toInt32)) then (0 : Int32) else (if (p1.toUInt32.toUInt16.toUInt32.toInt32) = (F2 (F1 (p1.toUInt32.toUInt16.toUInt32.toInt32)) w_COMPACT_STRINGS) then (1 : Int32) else (if (p1.toUInt32.toUInt16.toUInt32.toInt32) = (F1002 (F1 (p1.toUInt32.toUInt16.toUInt32.toInt32)) w_COMPACT_STRINGS) then (1 : Int32) else (0 : Int32))))))), .unset, .unset, .unset] [])) t → Steps p.tables e below (s₁.setTop (entryFrame m #[(.int p1), (.int p2)] maxLocals)) t := by
    by_cases hc7 : (F1 (p1.toUInt32.toUInt16.toUInt32.toInt32)) = (-1 : Int32)
    · refine ⟨_, _, X4, e4, N4, fun t kt => pre6 t ?_⟩
      repeat rw [if_pos hc7] at kt
      show Steps p.tables e below (T4.setTop (mkF m 20 #[.val (.int p1), .val (.int p2), .val (.ref b1), .val (.ref b3), .val (.int (p1.toUInt32.toUInt16.toUInt32.toInt32)), .val (.int (F1 (p1.toUInt32.toUInt16.toUInt32.toInt32))), .unset, .unset, .unset, .unset] [(.int (-1 : Int32)), (.int (F1 (p1.toUInt32.toUInt16.toUInt32.toInt32)))])) _
      refine XS.icmpNo X4.here hx rfl (hb hby at_20) rfl (teq hc7).2 ?_
      show Steps p.tables e below (T4.setTop (mkF m 23 #[.val (.int p1), .val (.int p2), .val (.ref b1), .val (.ref b3), .val (.int (p1.toUInt32.toUInt16.toUInt32.toInt32)), .val (.int (F1 (p1.toUInt32.toUInt16.toUInt32.toInt32))), .unset, .unset, .unset, .unset] [])) _
      refine XS.iconst X4.here hx rfl (hb hby at_23) ?_
      show Steps p.tables e below (T4.setTop (mkF m 24 #[.val (.int p1), .val (.int p2), .val (.ref b1), .val (.ref b3), .val (.int (p1.toUInt32.toUInt16.toUInt32.toInt32)), .val (.int (F1 (p1.toUInt32.toUInt16.toUInt32.toInt32))), .unset, .unset, .unset, .unset] [(.int (1 : Int32))])) _
      refine XS.istore X4.here hx rfl (hb hby at_24) rfl (l' := #[.val (.int p1), .val (.int p2), .val (.ref b1), .val (.ref b3), .val (.int (p1.toUInt32.toUInt16.toUInt32.toInt32)), .val (.int (F1 (p1.toUInt32.toUInt16.toUInt32.toInt32))), .val (.int (1 : Int32)), .unset, .unset, .unset]) rfl ?_
      show Steps p.tables e below (T4.setTop (mkF m 26 #[.val (.int p1), .val (.int p2), .val (.ref b1), .val (.ref b3), .val (.int (p1.toUInt32.toUInt16.toUInt32.toInt32)), .val (.int (F1 (p1.toUInt32.toUInt16.toUInt32.toInt32))), .val (.int (1 : Int32)), .unset, .unset, .unset] [])) _
      refine XS.goto X4.here hx rfl (pc0 := 26) (pc' := 76) rfl (hb hby at_26) (by decide) (by decide) ?_
      exact kt
    · have pre8 : ∀ t, Steps p.tables e below (T4.setTop (mkF m 31 #[.val (.int p1), .val (.int p2), .val (.ref b1), .val (.ref b3), .val (.int (p1.toUInt32.toUInt16.toUInt32.toInt32)), .val (.int (F1 (p1.toUInt32.toUInt16.toUInt32.toInt32))), .unset, .unset, .unset, .unset] [(.int (F1 (p1.toUInt32.toUInt16.toUInt32.toInt32)))])) t → Steps p.tables e below (s₁.setTop (entryFrame m #[(.int p1), (.int p2)] maxLocals)) t := fun t kt => by
        refine pre6 t ?_
        show Steps p.tables e below (T4.setTop (mkF m 20 #[.val (.int p1), .val (.int p2), .val (.ref b1), .val (.ref b3), .val (.int (p1.toUInt32.toUInt16.toUInt32.toInt32)), .val (.int (F1 (p1.toUInt32.toUInt16.toUInt32.toInt32))), .unset, .unset, .unset, .unset] [(.int (-1 : Int32)), (.int (F1 (p1.toUInt32.toUInt16.toUInt32.toInt32)))])) _
        refine XS.icmpYes X4.here hx rfl (pc0 := 20) (pc' := 29) rfl (hb hby at_20) rfl (feq hc7).2 (by decide) (by decide) ?_
        show Steps p.tables e below (T4.setTop (mkF m 29 #[.val (.int p1), .val (.int p2), .val (.ref b1), .val (.ref b3), .val (.int (p1.toUInt32.toUInt16.toUInt32.toInt32)), .val (.int (F1 (p1.toUInt32.toUInt16.toUInt32.toInt32))), .unset, .unset, .unset, .unset] [])) _
        refine XS.iload X4.here hx rfl (hb hby at_29) rfl ?_
        exact kt
      by_cases hc9 : (F1 (p1.toUInt32.toUInt16.toUInt32.toInt32)) < (0 : Int32)
      · refine ⟨_, _, X4, e4, N4, fun t kt => pre8 t ?_⟩
        repeat rw [if_neg hc7] at kt
        repeat rw [if_pos hc9] at kt
        show Steps p.tables e below (T4.setTop (mkF m 31 #[.val (.int p1), .val (.int p2), .val (.ref b1), .val (.ref b3), .val (.int (p1.toUInt32.toUInt16.toUInt32.toInt32)), .val (.int (F1 (p1.toUInt32.toUInt16.toUInt32.toInt32))), .unset, .unset, .unset, .unset] [(.int (F1 (p1.toUInt32.toUInt16.toUInt32.toInt32)))])) _
        refine XS.ifYes X4.here hx rfl (pc0 := 31) (pc' := 73) rfl (hb hby at_31) rfl ((if0 _ _).trans (tlt hc9).1) (by decide) (by decide) ?_
        show Steps p.tables e below (T4.setTop (mkF m 73 #[.val (.int p1), .val (.int p2), .val (.ref b1), .val (.ref b3), .val (.int (p1.toUInt32.toUInt16.toUInt32.toInt32)), .val (.int (F1 (p1.toUInt32.toUInt16.toUInt32.toInt32))), .unset, .unset, .unset, .unset] [])) _
        refine XS.iconst X4.here hx rfl (hb hby at_73) ?_
        show Steps p.tables e below (T4.setTop (mkF m 74 #[.val (.int p1), .val (.int p2), .val (.ref b1), .val (.ref b3), .val (.int (p1.toUInt32.toUInt16.toUInt32.toInt32)), .val (.int (F1 (p1.toUInt32.toUInt16.toUInt32.toInt32))), .unset, .unset, .unset, .unset] [(.int (0 : Int32))])) _
        refine XS.istore X4.here hx rfl (hb hby at_74) rfl (l' := #[.val (.int p1), .val (.int p2), .val (.ref b1), .val (.ref b3), .val (.int (p1.toUInt32.toUInt16.toUInt32.toInt32)), .val (.int (F1 (p1.toUInt32.toUInt16.toUInt32.toInt32))), .val (.int (0 : Int32)), .unset, .unset, .unset]) rfl ?_
        exact kt
      · have pre10 : ∀ t, Steps p.tables e below (T4.setTop (mkF m 38 #[.val (.int p1), .val (.int p2), .val (.ref b1), .val (.ref b3), .val (.int (p1.toUInt32.toUInt16.toUInt32.toInt32)), .val (.int (F1 (p1.toUInt32.toUInt16.toUInt32.toInt32))), .unset, .unset, .unset, .unset] [(.int (15 : Int32)), (.int (F1 (p1.toUInt32.toUInt16.toUInt32.toInt32)))])) t → Steps p.tables e below (s₁.setTop (entryFrame m #[(.int p1), (.int p2)] maxLocals)) t := fun t kt => by
          refine pre8 t ?_
          show Steps p.tables e below (T4.setTop (mkF m 31 #[.val (.int p1), .val (.int p2), .val (.ref b1), .val (.ref b3), .val (.int (p1.toUInt32.toUInt16.toUInt32.toInt32)), .val (.int (F1 (p1.toUInt32.toUInt16.toUInt32.toInt32))), .unset, .unset, .unset, .unset] [(.int (F1 (p1.toUInt32.toUInt16.toUInt32.toInt32)))])) _
          refine XS.ifNo X4.here hx rfl (hb hby at_31) rfl ((if0 _ _).trans (flt hc9).1) ?_
          show Steps p.tables e below (T4.setTop (mkF m 34 #[.val (.int p1), .val (.int p2), .val (.ref b1), .val (.ref b3), .val (.int (p1.toUInt32.toUInt16.toUInt32.toInt32)), .val (.int (F1 (p1.toUInt32.toUInt16.toUInt32.toInt32))), .unset, .unset, .unset, .unset] [])) _
          refine XS.iload X4.here hx rfl (hb hby at_34) rfl ?_
          show Steps p.tables e below (T4.setTop (mkF m 36 #[.val (.int p1), .val (.int p2), .val (.ref b1), .val (.ref b3), .val (.int (p1.toUInt32.toUInt16.toUInt32.toInt32)), .val (.int (F1 (p1.toUInt32.toUInt16.toUInt32.toInt32))), .unset, .unset, .unset, .unset] [(.int (F1 (p1.toUInt32.toUInt16.toUInt32.toInt32)))])) _
          refine XS.bipush X4.here hx rfl (hb hby at_36) ?_
          exact kt
        by_cases hc11 : (15 : Int32) < (F1 (p1.toUInt32.toUInt16.toUInt32.toInt32))
        · refine ⟨_, _, X4, e4, N4, fun t kt => pre10 t ?_⟩
          repeat rw [if_neg hc7] at kt
          repeat rw [if_neg hc9] at kt
          repeat rw [if_pos hc11] at kt
          show Steps p.tables e below (T4.setTop (mkF m 38 #[.val (.int p1), .val (.int p2), .val (.ref b1), .val (.ref b3), .val (.int (p1.toUInt32.toUInt16.toUInt32.toInt32)), .val (.int (F1 (p1.toUInt32.toUInt16.toUInt32.toInt32))), .unset, .unset, .unset, .unset] [(.int (15 : Int32)), (.int (F1 (p1.toUInt32.toUInt16.toUInt32.toInt32)))])) _
          refine XS.icmpYes X4.here hx rfl (pc0 := 38) (pc' := 73) rfl (hb hby at_38) rfl (tlt hc11).2.2.1 (by decide) (by decide) ?_
          show Steps p.tables e below (T4.setTop (mkF m 73 #[.val (.int p1), .val (.int p2), .val (.ref b1), .val (.ref b3), .val (.int (p1.toUInt32.toUInt16.toUInt32.toInt32)), .val (.int (F1 (p1.toUInt32.toUInt16.toUInt32.toInt32))), .unset, .unset, .unset, .unset] [])) _
          refine XS.iconst X4.here hx rfl (hb hby at_73) ?_
          show Steps p.tables e below (T4.setTop (mkF m 74 #[.val (.int p1), .val (.int p2), .val (.ref b1), .val (.ref b3), .val (.int (p1.toUInt32.toUInt16.toUInt32.toInt32)), .val (.int (F1 (p1.toUInt32.toUInt16.toUInt32.toInt32))), .unset, .unset, .unset, .unset] [(.int (0 : Int32))])) _
          refine XS.istore X4.here hx rfl (hb hby at_74) rfl (l' := #[.val (.int p1), .val (.int p2), .val (.ref b1), .val (.ref b3), .val (.int (p1.toUInt32.toUInt16.toUInt32.toInt32)), .val (.int (F1 (p1.toUInt32.toUInt16.toUInt32.toInt32))), .val (.int (0 : Int32)), .unset, .unset, .unset]) rfl ?_
          exact kt
        · have fq13 := (Fld.ext E3 C1)
          have fq14 := (Fld.ext E3 FV1)
          have fq15 := (Exa.ext E3 A1)
          have fq16 := (V1.ext E3)
          have fq17 := ((X00.ext E1).ext E3)
          obtain ⟨cq12, kq12, iq12a, iq12b, iq12c⟩ := isOf hZ e4 fq15
          obtain ⟨_, _, ⟨T12, L12, k12, n12⟩, -, X12, ⟨Lc12, hQ12, l12, y12, z12⟩, st12⟩ := X4.virtualBack hx (y := (⟨"java/lang/String", "charAt", "(I)C"⟩ : MethodName)) (z := (⟨"java/lang/String", "charAt", "(I)C"⟩ : MethodName)) hown (mvT hZ (hw _ (List.mem_of_getElem? (i := 13) rfl))) (mvT hZ (hw _ (List.mem_of_getElem? (i := 14) rfl))) (notFace_of_selects (args := #[]) (mvT hZ (hw _ (List.mem_of_getElem? (i := 16) rfl)))) (mvT hZ (hw _ (List.mem_of_getElem? (i := 16) rfl))) (mvT hZ (hw _ (List.mem_of_getElem? (i := 15) rfl))) (by decide) (backOf (W := 1) (rm2 l Z a0 hw [] b1 (F1 (p1.toUInt32.toUInt16.toUInt32.toInt32)) bv1 kk1 w_COMPACT_STRINGS w_SIOOBE_FORMATTER h3 n0 z5 fq15 fq13 fq14 fq16 (side_0_46 p1 p2 w_COMPACT_STRINGS hc7 hc9 hc11) S_COMPACT_STRINGS fq17 hcs S_SIOOBE_FORMATTER r_w_SIOOBE_FORMATTER) hZ (hw _ (List.mem_of_getElem? (i := 17) rfl)) (hw _ (List.mem_of_getElem? (i := 1) rfl)) (by decide) (by decide)) iq12a iq12c (g := (mkF m 46 #[.val (.int p1), .val (.int p2), .val (.ref b1), .val (.ref b3), .val (.int (p1.toUInt32.toUInt16.toUInt32.toInt32)), .val (.int (F1 (p1.toUInt32.toUInt16.toUInt32.toInt32))), .unset, .unset, .unset, .unset] [(.int (F1 (p1.toUInt32.toUInt16.toUInt32.toInt32))), (.ref b1), (.int (p1.toUInt32.toUInt16.toUInt32.toInt32))])) rfl (by rw [hml]; rfl) (Steps.refl _) (argsL := [(.int (F1 (p1.toUInt32.toUInt16.toUInt32.toInt32)))]) (rest := [(.int (p1.toUInt32.toUInt16.toUInt32.toInt32))]) (lenOf pd_0_1 rfl) rfl (by show 2 * 0 + _ ≤ _; exact Nat.le_of_eq rfl) (hb hby at_46) (fun _ _ => ⟨rfl, e4, (by decide : 4 + 0 ≤ _), (by decide : 136 + 0 ≤ _)⟩)
          dsimp only [Pt.U, Pt.locs, Pt.cells, Pt.slots] at X12 l12 y12 z12 st12 hQ12
          subst l12 y12 z12
          obtain ⟨rfl, N12q, e12⟩ := hQ12
          have N12 := Fr.app N4 N12q
          have pre18 : ∀ t, Steps p.tables e below (T12.setTop (mkF m 49 #[.val (.int p1), .val (.int p2), .val (.ref b1), .val (.ref b3), .val (.int (p1.toUInt32.toUInt16.toUInt32.toInt32)), .val (.int (F1 (p1.toUInt32.toUInt16.toUInt32.toInt32))), .unset, .unset, .unset, .unset] [(.int (F2 (F1 (p1.toUInt32.toUInt16.toUInt32.toInt32)) w_COMPACT_STRINGS)), (.int (p1.toUInt32.toUInt16.toUInt32.toInt32))])) t → Steps p.tables e below (s₁.setTop (entryFrame m #[(.int p1), (.int p2)] maxLocals)) t := fun t kt => by
            refine pre10 t ?_
            show Steps p.tables e below (T4.setTop (mkF m 38 #[.val (.int p1), .val (.int p2), .val (.ref b1), .val (.ref b3), .val (.int (p1.toUInt32.toUInt16.toUInt32.toInt32)), .val (.int (F1 (p1.toUInt32.toUInt16.toUInt32.toInt32))), .unset, .unset, .unset, .unset] [(.int (15 : Int32)), (.int (F1 (p1.toUInt32.toUInt16.toUInt32.toInt32)))])) _
            refine XS.icmpNo X4.here hx rfl (hb hby at_38) rfl (flt hc11).2.2.1 ?_
            show Steps p.tables e below (T4.setTop (mkF m 41 #[.val (.int p1), .val (.int p2), .val (.ref b1), .val (.ref b3), .val (.int (p1.toUInt32.toUInt16.toUInt32.toInt32)), .val (.int (F1 (p1.toUInt32.toUInt16.toUInt32.toInt32))), .unset, .unset, .unset, .unset] [])) _
            refine XS.iload X4.here hx rfl (hb hby at_41) rfl ?_
            show Steps p.tables e below (T4.setTop (mkF m 43 #[.val (.int p1), .val (.int p2), .val (.ref b1), .val (.ref b3), .val (.int (p1.toUInt32.toUInt16.toUInt32.toInt32)), .val (.int (F1 (p1.toUInt32.toUInt16.toUInt32.toInt32))), .unset, .unset, .unset, .unset] [(.int (p1.toUInt32.toUInt16.toUInt32.toInt32))])) _
            refine XS.aloadN X4.here hx rfl (hb hby at_43) rfl rfl ?_
            show Steps p.tables e below (T4.setTop (mkF m 44 #[.val (.int p1), .val (.int p2), .val (.ref b1), .val (.ref b3), .val (.int (p1.toUInt32.toUInt16.toUInt32.toInt32)), .val (.int (F1 (p1.toUInt32.toUInt16.toUInt32.toInt32))), .unset, .unset, .unset, .unset] [(.ref b1), (.int (p1.toUInt32.toUInt16.toUInt32.toInt32))])) _
            refine XS.iload X4.here hx rfl (hb hby at_44) rfl ?_
            show Steps p.tables e below (T4.setTop (mkF m 46 #[.val (.int p1), .val (.int p2), .val (.ref b1), .val (.ref b3), .val (.int (p1.toUInt32.toUInt16.toUInt32.toInt32)), .val (.int (F1 (p1.toUInt32.toUInt16.toUInt32.toInt32))), .unset, .unset, .unset, .unset] [(.int (F1 (p1.toUInt32.toUInt16.toUInt32.toInt32))), (.ref b1), (.int (p1.toUInt32.toUInt16.toUInt32.toInt32))])) _
            refine st12.trans ?_
            exact kt
          obtain ⟨T23, Lc23, X23, e23, N23, pre23⟩ : ∃ (T23 : State) (Lc23 : List Loc) , Stand p l e room_1 (s.setVm T3.vm) m #[(.int p1), (.int p2)] below meth c T23 Lc23 4 136 ∧ T23.heap = h3 ∧ Fr n0 Lc23 ∧ ∀ t, Steps p.tables e below (T23.setTop (mkF m 68 #[.val (.int p1), .val (.int p2), .val (.ref b1), .val (.ref b3), .val (.int (p1.toUInt32.toUInt16.toUInt32.toInt32)), .val (.int (F1 (p1.toUInt32.toUInt16.toUInt32.toInt32))), .unset, .unset, .unset, .unset] [(.int (if (p1.toUInt32.toUInt16.toUInt32.toInt32) = (F2 (F1 (p1.toUInt32.toUInt16.toUInt32.toInt32)) w_COMPACT_STRINGS) then (1 : Int32) else (if (p1.toUInt32.toUInt16.toUInt32.toInt32) = (F1002 (F1 (p1.toUInt32.toUInt16.toUInt32.toInt32)) w_COMPACT_STRINGS) then (1 : Int32) else (0 : Int32))))])) t → Steps p.tables e below (s₁.setTop (entryFrame m #[(.int p1), (.int p2)] maxLocals)) t := by
            by_cases hc19 : (p1.toUInt32.toUInt16.toUInt32.toInt32) = (F2 (F1 (p1.toUInt32.toUInt16.toUInt32.toInt32)) w_COMPACT_STRINGS)
            · refine ⟨_, _, X12, e12, N12, fun t kt => pre18 t ?_⟩
              repeat rw [if_pos hc19] at kt
              show Steps p.tables e below (T12.setTop (mkF m 49 #[.val (.int p1), .val (.int p2), .val (.ref b1), .val (.ref b3), .val (.int (p1.toUInt32.toUInt16.toUInt32.toInt32)), .val (.int (F1 (p1.toUInt32.toUInt16.toUInt32.toInt32))), .unset, .unset, .unset, .unset] [(.int (F2 (F1 (p1.toUInt32.toUInt16.toUInt32.toInt32)) w_COMPACT_STRINGS)), (.int (p1.toUInt32.toUInt16.toUInt32.toInt32))])) _
              refine XS.icmpYes X12.here hx rfl (pc0 := 49) (pc' := 63) rfl (hb hby at_49) rfl (teq hc19).1 (by decide) (by decide) ?_
              show Steps p.tables e below (T12.setTop (mkF m 63 #[.val (.int p1), .val (.int p2), .val (.ref b1), .val (.ref b3), .val (.int (p1.toUInt32.toUInt16.toUInt32.toInt32)), .val (.int (F1 (p1.toUInt32.toUInt16.toUInt32.toInt32))), .unset, .unset, .unset, .unset] [])) _
              refine XS.iconst X12.here hx rfl (hb hby at_63) ?_
              show Steps p.tables e below (T12.setTop (mkF m 64 #[.val (.int p1), .val (.int p2), .val (.ref b1), .val (.ref b3), .val (.int (p1.toUInt32.toUInt16.toUInt32.toInt32)), .val (.int (F1 (p1.toUInt32.toUInt16.toUInt32.toInt32))), .unset, .unset, .unset, .unset] [(.int (1 : Int32))])) _
              refine XS.goto X12.here hx rfl (pc0 := 64) (pc' := 68) rfl (hb hby at_64) (by decide) (by decide) ?_
              exact kt
            · obtain ⟨cq20, kq20, iq20a, iq20b, iq20c⟩ := isOf hZ e12 A3
              obtain ⟨_, _, ⟨T20, L20, k20, n20⟩, -, X20, ⟨Lc20, hQ20, l20, y20, z20⟩, st20⟩ := X12.virtualBack hx (y := (⟨"java/lang/String", "charAt", "(I)C"⟩ : MethodName)) (z := (⟨"java/lang/String", "charAt", "(I)C"⟩ : MethodName)) hown (mvT hZ (hw _ (List.mem_of_getElem? (i := 13) rfl))) (mvT hZ (hw _ (List.mem_of_getElem? (i := 14) rfl))) (notFace_of_selects (args := #[]) (mvT hZ (hw _ (List.mem_of_getElem? (i := 16) rfl)))) (mvT hZ (hw _ (List.mem_of_getElem? (i := 16) rfl))) (mvT hZ (hw _ (List.mem_of_getElem? (i := 15) rfl))) (by decide) (backOf (W := 1) (rm1002 l Z a0 hw [] b3 (F1 (p1.toUInt32.toUInt16.toUInt32.toInt32)) bv3 kk3 w_COMPACT_STRINGS w_SIOOBE_FORMATTER h3 n0 z5 A3 C3 FV3 V3 (side_0_57 p1 p2 w_COMPACT_STRINGS hc7 hc9 hc11 hc19) S_COMPACT_STRINGS fq17 hcs S_SIOOBE_FORMATTER r_w_SIOOBE_FORMATTER) hZ (hw _ (List.mem_of_getElem? (i := 17) rfl)) (hw _ (List.mem_of_getElem? (i := 1) rfl)) (by decide) (by decide)) iq20a iq20c (g := (mkF m 57 #[.val (.int p1), .val (.int p2), .val (.ref b1), .val (.ref b3), .val (.int (p1.toUInt32.toUInt16.toUInt32.toInt32)), .val (.int (F1 (p1.toUInt32.toUInt16.toUInt32.toInt32))), .unset, .unset, .unset, .unset] [(.int (F1 (p1.toUInt32.toUInt16.toUInt32.toInt32))), (.ref b3), (.int (p1.toUInt32.toUInt16.toUInt32.toInt32))])) rfl (by rw [hml]; rfl) (Steps.refl _) (argsL := [(.int (F1 (p1.toUInt32.toUInt16.toUInt32.toInt32)))]) (rest := [(.int (p1.toUInt32.toUInt16.toUInt32.toInt32))]) (lenOf pd_0_1 rfl) rfl (by show 2 * 0 + _ ≤ _; exact Nat.le_of_eq rfl) (hb hby at_57) (fun _ _ => ⟨rfl, e12, (by decide : 4 + 0 ≤ _), (by decide : 136 + 0 ≤ _)⟩)
              dsimp only [Pt.U, Pt.locs, Pt.cells, Pt.slots] at X20 l20 y20 z20 st20 hQ20
              subst l20 y20 z20
              obtain ⟨rfl, N20q, e20⟩ := hQ20
              have N20 := Fr.app N12 N20q
              have pre21 : ∀ t, Steps p.tables e below (T20.setTop (mkF m 60 #[.val (.int p1), .val (.int p2), .val (.ref b1), .val (.ref b3), .val (.int (p1.toUInt32.toUInt16.toUInt32.toInt32)), .val (.int (F1 (p1.toUInt32.toUInt16.toUInt32.toInt32))), .unset, .unset, .unset, .unset] [(.int (F1002 (F1 (p1.toUInt32.toUInt16.toUInt32.toInt32)) w_COMPACT_STRINGS)), (.int (p1.toUInt32.toUInt16.toUInt32.toInt32))])) t → Steps p.tables e below (s₁.setTop (entryFrame m #[(.int p1), (.int p2)] maxLocals)) t := fun t kt => by
                refine pre18 t ?_
                show Steps p.tables e below (T12.setTop (mkF m 49 #[.val (.int p1), .val (.int p2), .val (.ref b1), .val (.ref b3), .val (.int (p1.toUInt32.toUInt16.toUInt32.toInt32)), .val (.int (F1 (p1.toUInt32.toUInt16.toUInt32.toInt32))), .unset, .unset, .unset, .unset] [(.int (F2 (F1 (p1.toUInt32.toUInt16.toUInt32.toInt32)) w_COMPACT_STRINGS)), (.int (p1.toUInt32.toUInt16.toUInt32.toInt32))])) _
                refine XS.icmpNo X12.here hx rfl (hb hby at_49) rfl (feq hc19).1 ?_
                show Steps p.tables e below (T12.setTop (mkF m 52 #[.val (.int p1), .val (.int p2), .val (.ref b1), .val (.ref b3), .val (.int (p1.toUInt32.toUInt16.toUInt32.toInt32)), .val (.int (F1 (p1.toUInt32.toUInt16.toUInt32.toInt32))), .unset, .unset, .unset, .unset] [])) _
                refine XS.iload X12.here hx rfl (hb hby at_52) rfl ?_
                show Steps p.tables e below (T12.setTop (mkF m 54 #[.val (.int p1), .val (.int p2), .val (.ref b1), .val (.ref b3), .val (.int (p1.toUInt32.toUInt16.toUInt32.toInt32)), .val (.int (F1 (p1.toUInt32.toUInt16.toUInt32.toInt32))), .unset, .unset, .unset, .unset] [(.int (p1.toUInt32.toUInt16.toUInt32.toInt32))])) _
                refine XS.aloadN X12.here hx rfl (hb hby at_54) rfl rfl ?_
                show Steps p.tables e below (T12.setTop (mkF m 55 #[.val (.int p1), .val (.int p2), .val (.ref b1), .val (.ref b3), .val (.int (p1.toUInt32.toUInt16.toUInt32.toInt32)), .val (.int (F1 (p1.toUInt32.toUInt16.toUInt32.toInt32))), .unset, .unset, .unset, .unset] [(.ref b3), (.int (p1.toUInt32.toUInt16.toUInt32.toInt32))])) _
                refine XS.iload X12.here hx rfl (hb hby at_55) rfl ?_
                show Steps p.tables e below (T12.setTop (mkF m 57 #[.val (.int p1), .val (.int p2), .val (.ref b1), .val (.ref b3), .val (.int (p1.toUInt32.toUInt16.toUInt32.toInt32)), .val (.int (F1 (p1.toUInt32.toUInt16.toUInt32.toInt32))), .unset, .unset, .unset, .unset] [(.int (F1 (p1.toUInt32.toUInt16.toUInt32.toInt32))), (.ref b3), (.int (p1.toUInt32.toUInt16.toUInt32.toInt32))])) _
                refine st20.trans ?_
                exact kt
              by_cases hc22 : (p1.toUInt32.toUInt16.toUInt32.toInt32) = (F1002 (F1 (p1.toUInt32.toUInt16.toUInt32.toInt32)) w_COMPACT_STRINGS)
              · refine ⟨_, _, X20, e20, N20, fun t kt => pre21 t ?_⟩
                repeat rw [if_neg hc19] at kt
                repeat rw [if_pos hc22] at kt
                show Steps p.tables e below (T20.setTop (mkF m 60 #[.val (.int p1), .val (.int p2), .val (.ref b1), .val (.ref b3), .val (.int (p1.toUInt32.toUInt16.toUInt32.toInt32)), .val (.int (F1 (p1.toUInt32.toUInt16.toUInt32.toInt32))), .unset, .unset, .unset, .unset] [(.int (F1002 (F1 (p1.toUInt32.toUInt16.toUInt32.toInt32)) w_COMPACT_STRINGS)), (.int (p1.toUInt32.toUInt16.toUInt32.toInt32))])) _
                refine XS.icmpNo X20.here hx rfl (hb hby at_60) rfl (teq hc22).2 ?_
                show Steps p.tables e below (T20.setTop (mkF m 63 #[.val (.int p1), .val (.int p2), .val (.ref b1), .val (.ref b3), .val (.int (p1.toUInt32.toUInt16.toUInt32.toInt32)), .val (.int (F1 (p1.toUInt32.toUInt16.toUInt32.toInt32))), .unset, .unset, .unset, .unset] [])) _
                refine XS.iconst X20.here hx rfl (hb hby at_63) ?_
                show Steps p.tables e below (T20.setTop (mkF m 64 #[.val (.int p1), .val (.int p2), .val (.ref b1), .val (.ref b3), .val (.int (p1.toUInt32.toUInt16.toUInt32.toInt32)), .val (.int (F1 (p1.toUInt32.toUInt16.toUInt32.toInt32))), .unset, .unset, .unset, .unset] [(.int (1 : Int32))])) _
                refine XS.goto X20.here hx rfl (pc0 := 64) (pc' := 68) rfl (hb hby at_64) (by decide) (by decide) ?_
                exact kt
              · refine ⟨_, _, X20, e20, N20, fun t kt => pre21 t ?_⟩
                repeat rw [if_neg hc19] at kt
                repeat rw [if_neg hc22] at kt
                show Steps p.tables e below (T20.setTop (mkF m 60 #[.val (.int p1), .val (.int p2), .val (.ref b1), .val (.ref b3), .val (.int (p1.toUInt32.toUInt16.toUInt32.toInt32)), .val (.int (F1 (p1.toUInt32.toUInt16.toUInt32.toInt32))), .unset, .unset, .unset, .unset] [(.int (F1002 (F1 (p1.toUInt32.toUInt16.toUInt32.toInt32)) w_COMPACT_STRINGS)), (.int (p1.toUInt32.toUInt16.toUInt32.toInt32))])) _
                refine XS.icmpYes X20.here hx rfl (pc0 := 60) (pc' := 67) rfl (hb hby at_60) rfl (feq hc22).2 (by decide) (by decide) ?_
                show Steps p.tables e below (T20.setTop (mkF m 67 #[.val (.int p1), .val (.int p2), .val (.ref b1), .val (.ref b3), .val (.int (p1.toUInt32.toUInt16.toUInt32.toInt32)), .val (.int (F1 (p1.toUInt32.toUInt16.toUInt32.toInt32))), .unset, .unset, .unset, .unset] [])) _
                refine XS.iconst X20.here hx rfl (hb hby at_67) ?_
                exact kt
          refine ⟨_, _, X23, e23, N23, fun t kt => pre23 t ?_⟩
          repeat rw [if_neg hc7] at kt
          repeat rw [if_neg hc9] at kt
          repeat rw [if_neg hc11] at kt
          show Steps p.tables e below (T23.setTop (mkF m 68 #[.val (.int p1), .val (.int p2), .val (.ref b1), .val (.ref b3), .val (.int (p1.toUInt32.toUInt16.toUInt32.toInt32)), .val (.int (F1 (p1.toUInt32.toUInt16.toUInt32.toInt32))), .unset, .unset, .unset, .unset] [(.int (if (p1.toUInt32.toUInt16.toUInt32.toInt32) = (F2 (F1 (p1.toUInt32.toUInt16.toUInt32.toInt32)) w_COMPACT_STRINGS) then (1 : Int32) else (if (p1.toUInt32.toUInt16.toUInt32.toInt32) = (F1002 (F1 (p1.toUInt32.toUInt16.toUInt32.toInt32)) w_COMPACT_STRINGS) then (1 : Int32) else (0 : Int32))))])) _
          refine XS.istore X23.here hx rfl (hb hby at_68) rfl (l' := #[.val (.int p1), .val (.int p2), .val (.ref b1), .val (.ref b3), .val (.int (p1.toUInt32.toUInt16.toUInt32.toInt32)), .val (.int (F1 (p1.toUInt32.toUInt16.toUInt32.toInt32))), .val (.int (if (p1.toUInt32.toUInt16.toUInt32.toInt32) = (F2 (F1 (p1.toUInt32.toUInt16.toUInt32.toInt32)) w_COMPACT_STRINGS) then (1 : Int32) else (if (p1.toUInt32.toUInt16.toUInt32.toInt32) = (F1002 (F1 (p1.toUInt32.toUInt16.toUInt32.toInt32)) w_COMPACT_STRINGS) then (1 : Int32) else (0 : Int32)))), .unset, .unset, .unset]) rfl ?_
          show Steps p.tables e below (T23.setTop (mkF m 70 #[.val (.int p1), .val (.int p2), .val (.ref b1), .val (.ref b3), .val (.int (p1.toUInt32.toUInt16.toUInt32.toInt32)), .val (.int (F1 (p1.toUInt32.toUInt16.toUInt32.toInt32))), .val (.int (if (p1.toUInt32.toUInt16.toUInt32.toInt32) = (F2 (F1 (p1.toUInt32.toUInt16.toUInt32.toInt32)) w_COMPACT_STRINGS) then (1 : Int32) else (if (p1.toUInt32.toUInt16.toUInt32.toInt32) = (F1002 (F1 (p1.toUInt32.toUInt16.toUInt32.toInt32)) w_COMPACT_STRINGS) then (1 : Int32) else (0 : Int32)))), .unset, .unset, .unset] [])) _
          refine XS.goto X23.here hx rfl (pc0 := 70) (pc' := 76) rfl (hb hby at_70) (by decide) (by decide) ?_
          exact kt
  obtain ⟨v25, hv25⟩ : ∃ z : Int32, z = (if (F1 (p1.toUInt32.toUInt16.toUInt32.toInt32)) = (-1 : Int32) then (1 : Int32) else (if (F1 (p1.toUInt32.toUInt16.toUInt32.toInt32)) < (0 : Int32) then (0 : Int32) else (if (15 : Int32) < (F1 (p1.toUInt32.toUInt16.toUInt32.toInt32)) then (0 : Int32) else (if (p1.toUInt32.toUInt16.toUInt32.toInt32) = (F2 (F1 (p1.toUInt32.toUInt16.toUInt32.toInt32)) w_COMPACT_STRINGS) then (1 : Int32) else (if (p1.toUInt32.toUInt16.toUInt32.toInt32) = (F1002 (F1 (p1.toUInt32.toUInt16.toUInt32.toInt32)) w_COMPACT_STRINGS) then (1 : Int32) else (0 : Int32)))))) := ⟨_, rfl⟩
  rw [← hv25] at pre24
  have pre26 : ∀ t, Steps p.tables e below (T24.setTop (mkF m 87 #[.val (.int p1), .val (.int p2), .val (.ref b1), .val (.ref b3), .val (.int (p1.toUInt32.toUInt16.toUInt32.toInt32)), .val (.int (F1 (p1.toUInt32.toUInt16.toUInt32.toInt32))), .val (.int v25), .val (.int (p2 &&& (15 : Int32))), .unset, .unset] [(.int (((p2.toUInt32 >>> ((4 : Int32) &&& 31).toUInt32).toInt32) &&& (1 : Int32)))])) t → Steps p.tables e below (s₁.setTop (entryFrame m #[(.int p1), (.int p2)] maxLocals)) t := fun t kt => by
    refine pre24 t ?_
    show Steps p.tables e below (T24.setTop (mkF m 76 #[.val (.int p1), .val (.int p2), .val (.ref b1), .val (.ref b3), .val (.int (p1.toUInt32.toUInt16.toUInt32.toInt32)), .val (.int (F1 (p1.toUInt32.toUInt16.toUInt32.toInt32))), .val (.int v25), .unset, .unset, .unset] [])) _
    refine XS.iloadN X24.here hx rfl (hb hby at_76) rfl ?_
    show Steps p.tables e below (T24.setTop (mkF m 77 #[.val (.int p1), .val (.int p2), .val (.ref b1), .val (.ref b3), .val (.int (p1.toUInt32.toUInt16.toUInt32.toInt32)), .val (.int (F1 (p1.toUInt32.toUInt16.toUInt32.toInt32))), .val (.int v25), .unset, .unset, .unset] [(.int p2)])) _
    refine XS.bipush X24.here hx rfl (hb hby at_77) ?_
    show Steps p.tables e below (T24.setTop (mkF m 79 #[.val (.int p1), .val (.int p2), .val (.ref b1), .val (.ref b3), .val (.int (p1.toUInt32.toUInt16.toUInt32.toInt32)), .val (.int (F1 (p1.toUInt32.toUInt16.toUInt32.toInt32))), .val (.int v25), .unset, .unset, .unset] [(.int (15 : Int32)), (.int p2)])) _
    refine XS.iand X24.here hx rfl (hb hby at_79) rfl ?_
    show Steps p.tables e below (T24.setTop (mkF m 80 #[.val (.int p1), .val (.int p2), .val (.ref b1), .val (.ref b3), .val (.int (p1.toUInt32.toUInt16.toUInt32.toInt32)), .val (.int (F1 (p1.toUInt32.toUInt16.toUInt32.toInt32))), .val (.int v25), .unset, .unset, .unset] [(.int (p2 &&& (15 : Int32)))])) _
    refine XS.istore X24.here hx rfl (hb hby at_80) rfl (l' := #[.val (.int p1), .val (.int p2), .val (.ref b1), .val (.ref b3), .val (.int (p1.toUInt32.toUInt16.toUInt32.toInt32)), .val (.int (F1 (p1.toUInt32.toUInt16.toUInt32.toInt32))), .val (.int v25), .val (.int (p2 &&& (15 : Int32))), .unset, .unset]) rfl ?_
    show Steps p.tables e below (T24.setTop (mkF m 82 #[.val (.int p1), .val (.int p2), .val (.ref b1), .val (.ref b3), .val (.int (p1.toUInt32.toUInt16.toUInt32.toInt32)), .val (.int (F1 (p1.toUInt32.toUInt16.toUInt32.toInt32))), .val (.int v25), .val (.int (p2 &&& (15 : Int32))), .unset, .unset] [])) _
    refine XS.iloadN X24.here hx rfl (hb hby at_82) rfl ?_
    show Steps p.tables e below (T24.setTop (mkF m 83 #[.val (.int p1), .val (.int p2), .val (.ref b1), .val (.ref b3), .val (.int (p1.toUInt32.toUInt16.toUInt32.toInt32)), .val (.int (F1 (p1.toUInt32.toUInt16.toUInt32.toInt32))), .val (.int v25), .val (.int (p2 &&& (15 : Int32))), .unset, .unset] [(.int p2)])) _
    refine XS.iconst X24.here hx rfl (hb hby at_83) ?_
    show Steps p.tables e below (T24.setTop (mkF m 84 #[.val (.int p1), .val (.int p2), .val (.ref b1), .val (.ref b3), .val (.int (p1.toUInt32.toUInt16.toUInt32.toInt32)), .val (.int (F1 (p1.toUInt32.toUInt16.toUInt32.toInt32))), .val (.int v25), .val (.int (p2 &&& (15 : Int32))), .unset, .unset] [(.int (4 : Int32)), (.int p2)])) _
    refine XS.iushr X24.here hx rfl (hb hby at_84) rfl ?_
    show Steps p.tables e below (T24.setTop (mkF m 85 #[.val (.int p1), .val (.int p2), .val (.ref b1), .val (.ref b3), .val (.int (p1.toUInt32.toUInt16.toUInt32.toInt32)), .val (.int (F1 (p1.toUInt32.toUInt16.toUInt32.toInt32))), .val (.int v25), .val (.int (p2 &&& (15 : Int32))), .unset, .unset] [(.int ((p2.toUInt32 >>> ((4 : Int32) &&& 31).toUInt32).toInt32))])) _
    refine XS.iconst X24.here hx rfl (hb hby at_85) ?_
    show Steps p.tables e below (T24.setTop (mkF m 86 #[.val (.int p1), .val (.int p2), .val (.ref b1), .val (.ref b3), .val (.int (p1.toUInt32.toUInt16.toUInt32.toInt32)), .val (.int (F1 (p1.toUInt32.toUInt16.toUInt32.toInt32))), .val (.int v25), .val (.int (p2 &&& (15 : Int32))), .unset, .unset] [(.int (1 : Int32)), (.int ((p2.toUInt32 >>> ((4 : Int32) &&& 31).toUInt32).toInt32))])) _
    refine XS.iand X24.here hx rfl (hb hby at_86) rfl ?_
    exact kt
  obtain ⟨T36, Lc36, X36, e36, N36, pre36⟩ : ∃ (T36 : State) (Lc36 : List Loc) , Stand p l e room_1 (s.setVm T3.vm) m #[(.int p1), (.int p2)] below meth c T36 Lc36 4 136 ∧ T36.heap = h3 ∧ Fr n0 Lc36 ∧ ∀ t, Steps p.tables e below (T36.setTop (mkF m 105 #[.val (.int p1), .val (.int p2), .val (.ref b1), .val (.ref b3), .val (.int (p1.toUInt32.toUInt16.toUInt32.toInt32)), .val (.int (F1 (p1.toUInt32.toUInt16.toUInt32.toInt32))), .val (.int v25), .val (.int (p2 &&& (15 : Int32))), .unset, .unset] [(.int (if (((p2.toUInt32 >>> ((4 : Int32) &&& 31).toUInt32).toInt32) &&& (1 : Int32)) = (0 : Int32) then (F2 (p2 &&& (15 : Int32)) w_COMPACT_STRINGS) else (F1002 (p2 &&& (15 : Int32)) w_COMPACT_STRINGS)))])) t → Steps p.tables e below (s₁.setTop (entryFrame m #[(.int p1), (.int p2)] maxLocals)) t := by
    by_cases hc27 : (((p2.toUInt32 >>> ((4 : Int32) &&& 31).toUInt32).toInt32) &&& (1 : Int32)) = (0 : Int32)
    · have fq29 := (Fld.ext E3 C1)
      have fq30 := (Fld.ext E3 FV1)
      have fq31 := (Exa.ext E3 A1)
      have fq32 := (V1.ext E3)
      have fq33 := ((X00.ext E1).ext E3)
      obtain ⟨cq28, kq28, iq28a, iq28b, iq28c⟩ := isOf hZ e24 fq31
      obtain ⟨_, _, ⟨T28, L28, k28, n28⟩, -, X28, ⟨Lc28, hQ28, l28, y28, z28⟩, st28⟩ := X24.virtualBack hx (y := (⟨"java/lang/String", "charAt", "(I)C"⟩ : MethodName)) (z := (⟨"java/lang/String", "charAt", "(I)C"⟩ : MethodName)) hown (mvT hZ (hw _ (List.mem_of_getElem? (i := 13) rfl))) (mvT hZ (hw _ (List.mem_of_getElem? (i := 14) rfl))) (notFace_of_selects (args := #[]) (mvT hZ (hw _ (List.mem_of_getElem? (i := 16) rfl)))) (mvT hZ (hw _ (List.mem_of_getElem? (i := 16) rfl))) (mvT hZ (hw _ (List.mem_of_getElem? (i := 15) rfl))) (by decide) (backOf (W := 0) (rm2 l Z a0 hw [] b1 (p2 &&& (15 : Int32)) bv1 kk1 w_COMPACT_STRINGS w_SIOOBE_FORMATTER h3 n0 z5 fq31 fq29 fq30 fq32 (side_0_102 p1 p2 w_COMPACT_STRINGS v25 hv25 hc27) S_COMPACT_STRINGS fq33 hcs S_SIOOBE_FORMATTER r_w_SIOOBE_FORMATTER) hZ (hw _ (List.mem_of_getElem? (i := 17) rfl)) (hw _ (List.mem_of_getElem? (i := 1) rfl)) (by decide) (by decide)) iq28a iq28c (g := (mkF m 102 #[.val (.int p1), .val (.int p2), .val (.ref b1), .val (.ref b3), .val (.int (p1.toUInt32.toUInt16.toUInt32.toInt32)), .val (.int (F1 (p1.toUInt32.toUInt16.toUInt32.toInt32))), .val (.int v25), .val (.int (p2 &&& (15 : Int32))), .unset, .unset] [(.int (p2 &&& (15 : Int32))), (.ref b1)])) rfl (by rw [hml]; rfl) (Steps.refl _) (argsL := [(.int (p2 &&& (15 : Int32)))]) (rest := []) (lenOf pd_0_1 rfl) rfl (by show 2 * 0 + _ ≤ _; exact Nat.le_of_eq rfl) (hb hby at_102) (fun _ _ => ⟨rfl, e24, (by decide : 4 + 0 ≤ _), (by decide : 136 + 0 ≤ _)⟩)
      dsimp only [Pt.U, Pt.locs, Pt.cells, Pt.slots] at X28 l28 y28 z28 st28 hQ28
      subst l28 y28 z28
      obtain ⟨rfl, N28q, e28⟩ := hQ28
      have N28 := Fr.app N24 N28q
      refine ⟨_, _, X28, e28, N28, fun t kt => pre26 t ?_⟩
      repeat rw [if_pos hc27] at kt
      show Steps p.tables e below (T24.setTop (mkF m 87 #[.val (.int p1), .val (.int p2), .val (.ref b1), .val (.ref b3), .val (.int (p1.toUInt32.toUInt16.toUInt32.toInt32)), .val (.int (F1 (p1.toUInt32.toUInt16.toUInt32.toInt32))), .val (.int v25), .val (.int (p2 &&& (15 : Int32))), .unset, .unset] [(.int (((p2.toUInt32 >>> ((4 : Int32) &&& 31).toUInt32).toInt32) &&& (1 : Int32)))])) _
      refine XS.ifYes X24.here hx rfl (pc0 := 87) (pc' := 99) rfl (hb hby at_87) rfl ((if0 _ _).trans (teq hc27).1) (by decide) (by decide) ?_
      show Steps p.tables e below (T24.setTop (mkF m 99 #[.val (.int p1), .val (.int p2), .val (.ref b1), .val (.ref b3), .val (.int (p1.toUInt32.toUInt16.toUInt32.toInt32)), .val (.int (F1 (p1.toUInt32.toUInt16.toUInt32.toInt32))), .val (.int v25), .val (.int (p2 &&& (15 : Int32))), .unset, .unset] [])) _
      refine XS.aloadN X24.here hx rfl (hb hby at_99) rfl rfl ?_
      show Steps p.tables e below (T24.setTop (mkF m 100 #[.val (.int p1), .val (.int p2), .val (.ref b1), .val (.ref b3), .val (.int (p1.toUInt32.toUInt16.toUInt32.toInt32)), .val (.int (F1 (p1.toUInt32.toUInt16.toUInt32.toInt32))), .val (.int v25), .val (.int (p2 &&& (15 : Int32))), .unset, .unset] [(.ref b1)])) _
      refine XS.iload X24.here hx rfl (hb hby at_100) rfl ?_
      show Steps p.tables e below (T24.setTop (mkF m 102 #[.val (.int p1), .val (.int p2), .val (.ref b1), .val (.ref b3), .val (.int (p1.toUInt32.toUInt16.toUInt32.toInt32)), .val (.int (F1 (p1.toUInt32.toUInt16.toUInt32.toInt32))), .val (.int v25), .val (.int (p2 &&& (15 : Int32))), .unset, .unset] [(.int (p2 &&& (15 : Int32))), (.ref b1)])) _
      refine st28.trans ?_
      exact kt
    · have fq35 := ((X00.ext E1).ext E3)
      obtain ⟨cq34, kq34, iq34a, iq34b, iq34c⟩ := isOf hZ e24 A3
      obtain ⟨_, _, ⟨T34, L34, k34, n34⟩, -, X34, ⟨Lc34, hQ34, l34, y34, z34⟩, st34⟩ := X24.virtualBack hx (y := (⟨"java/lang/String", "charAt", "(I)C"⟩ : MethodName)) (z := (⟨"java/lang/String", "charAt", "(I)C"⟩ : MethodName)) hown (mvT hZ (hw _ (List.mem_of_getElem? (i := 13) rfl))) (mvT hZ (hw _ (List.mem_of_getElem? (i := 14) rfl))) (notFace_of_selects (args := #[]) (mvT hZ (hw _ (List.mem_of_getElem? (i := 16) rfl)))) (mvT hZ (hw _ (List.mem_of_getElem? (i := 16) rfl))) (mvT hZ (hw _ (List.mem_of_getElem? (i := 15) rfl))) (by decide) (backOf (W := 0) (rm1002 l Z a0 hw [] b3 (p2 &&& (15 : Int32)) bv3 kk3 w_COMPACT_STRINGS w_SIOOBE_FORMATTER h3 n0 z5 A3 C3 FV3 V3 (side_0_93 p1 p2 w_COMPACT_STRINGS v25 hv25 hc27) S_COMPACT_STRINGS fq35 hcs S_SIOOBE_FORMATTER r_w_SIOOBE_FORMATTER) hZ (hw _ (List.mem_of_getElem? (i := 17) rfl)) (hw _ (List.mem_of_getElem? (i := 1) rfl)) (by decide) (by decide)) iq34a iq34c (g := (mkF m 93 #[.val (.int p1), .val (.int p2), .val (.ref b1), .val (.ref b3), .val (.int (p1.toUInt32.toUInt16.toUInt32.toInt32)), .val (.int (F1 (p1.toUInt32.toUInt16.toUInt32.toInt32))), .val (.int v25), .val (.int (p2 &&& (15 : Int32))), .unset, .unset] [(.int (p2 &&& (15 : Int32))), (.ref b3)])) rfl (by rw [hml]; rfl) (Steps.refl _) (argsL := [(.int (p2 &&& (15 : Int32)))]) (rest := []) (lenOf pd_0_1 rfl) rfl (by show 2 * 0 + _ ≤ _; exact Nat.le_of_eq rfl) (hb hby at_93) (fun _ _ => ⟨rfl, e24, (by decide : 4 + 0 ≤ _), (by decide : 136 + 0 ≤ _)⟩)
      dsimp only [Pt.U, Pt.locs, Pt.cells, Pt.slots] at X34 l34 y34 z34 st34 hQ34
      subst l34 y34 z34
      obtain ⟨rfl, N34q, e34⟩ := hQ34
      have N34 := Fr.app N24 N34q
      refine ⟨_, _, X34, e34, N34, fun t kt => pre26 t ?_⟩
      repeat rw [if_neg hc27] at kt
      show Steps p.tables e below (T24.setTop (mkF m 87 #[.val (.int p1), .val (.int p2), .val (.ref b1), .val (.ref b3), .val (.int (p1.toUInt32.toUInt16.toUInt32.toInt32)), .val (.int (F1 (p1.toUInt32.toUInt16.toUInt32.toInt32))), .val (.int v25), .val (.int (p2 &&& (15 : Int32))), .unset, .unset] [(.int (((p2.toUInt32 >>> ((4 : Int32) &&& 31).toUInt32).toInt32) &&& (1 : Int32)))])) _
      refine XS.ifNo X24.here hx rfl (hb hby at_87) rfl ((if0 _ _).trans (feq hc27).1) ?_
      show Steps p.tables e below (T24.setTop (mkF m 90 #[.val (.int p1), .val (.int p2), .val (.ref b1), .val (.ref b3), .val (.int (p1.toUInt32.toUInt16.toUInt32.toInt32)), .val (.int (F1 (p1.toUInt32.toUInt16.toUInt32.toInt32))), .val (.int v25), .val (.int (p2 &&& (15 : Int32))), .unset, .unset] [])) _
      refine XS.aloadN X24.here hx rfl (hb hby at_90) rfl rfl ?_
      show Steps p.tables e below (T24.setTop (mkF m 91 #[.val (.int p1), .val (.int p2), .val (.ref b1), .val (.ref b3), .val (.int (p1.toUInt32.toUInt16.toUInt32.toInt32)), .val (.int (F1 (p1.toUInt32.toUInt16.toUInt32.toInt32))), .val (.int v25), .val (.int (p2 &&& (15 : Int32))), .unset, .unset] [(.ref b3)])) _
      refine XS.iload X24.here hx rfl (hb hby at_91) rfl ?_
      show Steps p.tables e below (T24.setTop (mkF m 93 #[.val (.int p1), .val (.int p2), .val (.ref b1), .val (.ref b3), .val (.int (p1.toUInt32.toUInt16.toUInt32.toInt32)), .val (.int (F1 (p1.toUInt32.toUInt16.toUInt32.toInt32))), .val (.int v25), .val (.int (p2 &&& (15 : Int32))), .unset, .unset] [(.int (p2 &&& (15 : Int32))), (.ref b3)])) _
      refine st34.trans ?_
      show Steps p.tables e below (T34.setTop (mkF m 96 #[.val (.int p1), .val (.int p2), .val (.ref b1), .val (.ref b3), .val (.int (p1.toUInt32.toUInt16.toUInt32.toInt32)), .val (.int (F1 (p1.toUInt32.toUInt16.toUInt32.toInt32))), .val (.int v25), .val (.int (p2 &&& (15 : Int32))), .unset, .unset] [(.int (F1002 (p2 &&& (15 : Int32)) w_COMPACT_STRINGS))])) _
      refine XS.goto X34.here hx rfl (pc0 := 96) (pc' := 105) rfl (hb hby at_96) (by decide) (by decide) ?_
      exact kt
  obtain ⟨v37, hv37⟩ : ∃ z : Int32, z = (if (((p2.toUInt32 >>> ((4 : Int32) &&& 31).toUInt32).toInt32) &&& (1 : Int32)) = (0 : Int32) then (F2 (p2 &&& (15 : Int32)) w_COMPACT_STRINGS) else (F1002 (p2 &&& (15 : Int32)) w_COMPACT_STRINGS)) := ⟨_, rfl⟩
  rw [← hv37] at pre36
  obtain ⟨_, _, ⟨T38, L38, k38, n38⟩, -, X38, ⟨Lc38, hQ38, l38, y38, z38⟩, st38⟩ := Jvm.LawKit.callS X36 hx (y := (⟨"com/example/lofu/lofu/text/AsciiTable", "hexValue", "(C)I"⟩ : MethodName)) hown (mvT hZ (hw _ (List.mem_of_getElem? (i := 9) rfl))) (mvT hZ (hw _ (List.mem_of_getElem? (i := 10) rfl))) (mvT hZ (hw _ (List.mem_of_getElem? (i := 11) rfl))) (mvT hZ (hw _ (List.mem_of_getElem? (i := 12) rfl))) (by decide) (backOf (W := 0) (rm1 l Z a0 hw [] v37 h3 n0 z5) hZ (hw _ (List.mem_of_getElem? (i := 12) rfl)) (hw _ (List.mem_of_getElem? (i := 11) rfl)) (by decide) (by decide)) (g := (mkF m 109 #[.val (.int p1), .val (.int p2), .val (.ref b1), .val (.ref b3), .val (.int (p1.toUInt32.toUInt16.toUInt32.toInt32)), .val (.int (F1 (p1.toUInt32.toUInt16.toUInt32.toInt32))), .val (.int v25), .val (.int (p2 &&& (15 : Int32))), .val (.int v37), .unset] [(.int v37)])) rfl (by rw [hml]; rfl) (argsL := [(.int v37)]) (rest := []) (lenOf pd_0_0 rfl) rfl (by show 2 * 0 + _ ≤ _; exact Nat.le_of_eq rfl) (hb hby at_109) (fun _ _ => ⟨rfl, e36, (by decide : 4 + 0 ≤ _), (by decide : 136 + 0 ≤ _)⟩)
  dsimp only [Pt.U, Pt.locs, Pt.cells, Pt.slots] at X38 l38 y38 z38 st38 hQ38
  subst l38 y38 z38
  obtain ⟨rfl, N38q, e38⟩ := hQ38
  have N38 := Fr.app N36 N38q
  have pre39 : ∀ t, Steps p.tables e below (T38.setTop (mkF m 114 #[.val (.int p1), .val (.int p2), .val (.ref b1), .val (.ref b3), .val (.int (p1.toUInt32.toUInt16.toUInt32.toInt32)), .val (.int (F1 (p1.toUInt32.toUInt16.toUInt32.toInt32))), .val (.int v25), .val (.int (p2 &&& (15 : Int32))), .val (.int v37), .unset] [(.int (p2 &&& (15 : Int32))), (.int (F1 v37))])) t → Steps p.tables e below (s₁.setTop (entryFrame m #[(.int p1), (.int p2)] maxLocals)) t := fun t kt => by
    refine pre36 t ?_
    show Steps p.tables e below (T36.setTop (mkF m 105 #[.val (.int p1), .val (.int p2), .val (.ref b1), .val (.ref b3), .val (.int (p1.toUInt32.toUInt16.toUInt32.toInt32)), .val (.int (F1 (p1.toUInt32.toUInt16.toUInt32.toInt32))), .val (.int v25), .val (.int (p2 &&& (15 : Int32))), .unset, .unset] [(.int v37)])) _
    refine XS.istore X36.here hx rfl (hb hby at_105) rfl (l' := #[.val (.int p1), .val (.int p2), .val (.ref b1), .val (.ref b3), .val (.int (p1.toUInt32.toUInt16.toUInt32.toInt32)), .val (.int (F1 (p1.toUInt32.toUInt16.toUInt32.toInt32))), .val (.int v25), .val (.int (p2 &&& (15 : Int32))), .val (.int v37), .unset]) rfl ?_
    show Steps p.tables e below (T36.setTop (mkF m 107 #[.val (.int p1), .val (.int p2), .val (.ref b1), .val (.ref b3), .val (.int (p1.toUInt32.toUInt16.toUInt32.toInt32)), .val (.int (F1 (p1.toUInt32.toUInt16.toUInt32.toInt32))), .val (.int v25), .val (.int (p2 &&& (15 : Int32))), .val (.int v37), .unset] [])) _
    refine XS.iload X36.here hx rfl (hb hby at_107) rfl ?_
    show Steps p.tables e below (T36.setTop (mkF m 109 #[.val (.int p1), .val (.int p2), .val (.ref b1), .val (.ref b3), .val (.int (p1.toUInt32.toUInt16.toUInt32.toInt32)), .val (.int (F1 (p1.toUInt32.toUInt16.toUInt32.toInt32))), .val (.int v25), .val (.int (p2 &&& (15 : Int32))), .val (.int v37), .unset] [(.int v37)])) _
    refine st38 _ ?_
    show Steps p.tables e below (T38.setTop (mkF m 112 #[.val (.int p1), .val (.int p2), .val (.ref b1), .val (.ref b3), .val (.int (p1.toUInt32.toUInt16.toUInt32.toInt32)), .val (.int (F1 (p1.toUInt32.toUInt16.toUInt32.toInt32))), .val (.int v25), .val (.int (p2 &&& (15 : Int32))), .val (.int v37), .unset] [(.int (F1 v37))])) _
    refine XS.iload X38.here hx rfl (hb hby at_112) rfl ?_
    exact kt
  have pre41 : ∀ t, Steps p.tables e below (T38.setTop (mkF m 122 #[.val (.int p1), .val (.int p2), .val (.ref b1), .val (.ref b3), .val (.int (p1.toUInt32.toUInt16.toUInt32.toInt32)), .val (.int (F1 (p1.toUInt32.toUInt16.toUInt32.toInt32))), .val (.int v25), .val (.int (p2 &&& (15 : Int32))), .val (.int v37), .unset] [(.int (if (F1 v37) = (p2 &&& (15 : Int32)) then (1 : Int32) else (0 : Int32)))])) t → Steps p.tables e below (s₁.setTop (entryFrame m #[(.int p1), (.int p2)] maxLocals)) t := by
    by_cases hc40 : (F1 v37) = (p2 &&& (15 : Int32))
    · refine fun t kt => pre39 t ?_
      repeat rw [if_pos hc40] at kt
      show Steps p.tables e below (T38.setTop (mkF m 114 #[.val (.int p1), .val (.int p2), .val (.ref b1), .val (.ref b3), .val (.int (p1.toUInt32.toUInt16.toUInt32.toInt32)), .val (.int (F1 (p1.toUInt32.toUInt16.toUInt32.toInt32))), .val (.int v25), .val (.int (p2 &&& (15 : Int32))), .val (.int v37), .unset] [(.int (p2 &&& (15 : Int32))), (.int (F1 v37))])) _
      refine XS.icmpNo X38.here hx rfl (hb hby at_114) rfl (teq hc40).2 ?_
      show Steps p.tables e below (T38.setTop (mkF m 117 #[.val (.int p1), .val (.int p2), .val (.ref b1), .val (.ref b3), .val (.int (p1.toUInt32.toUInt16.toUInt32.toInt32)), .val (.int (F1 (p1.toUInt32.toUInt16.toUInt32.toInt32))), .val (.int v25), .val (.int (p2 &&& (15 : Int32))), .val (.int v37), .unset] [])) _
      refine XS.iconst X38.here hx rfl (hb hby at_117) ?_
      show Steps p.tables e below (T38.setTop (mkF m 118 #[.val (.int p1), .val (.int p2), .val (.ref b1), .val (.ref b3), .val (.int (p1.toUInt32.toUInt16.toUInt32.toInt32)), .val (.int (F1 (p1.toUInt32.toUInt16.toUInt32.toInt32))), .val (.int v25), .val (.int (p2 &&& (15 : Int32))), .val (.int v37), .unset] [(.int (1 : Int32))])) _
      refine XS.goto X38.here hx rfl (pc0 := 118) (pc' := 122) rfl (hb hby at_118) (by decide) (by decide) ?_
      exact kt
    · refine fun t kt => pre39 t ?_
      repeat rw [if_neg hc40] at kt
      show Steps p.tables e below (T38.setTop (mkF m 114 #[.val (.int p1), .val (.int p2), .val (.ref b1), .val (.ref b3), .val (.int (p1.toUInt32.toUInt16.toUInt32.toInt32)), .val (.int (F1 (p1.toUInt32.toUInt16.toUInt32.toInt32))), .val (.int v25), .val (.int (p2 &&& (15 : Int32))), .val (.int v37), .unset] [(.int (p2 &&& (15 : Int32))), (.int (F1 v37))])) _
      refine XS.icmpYes X38.here hx rfl (pc0 := 114) (pc' := 121) rfl (hb hby at_114) rfl (feq hc40).2 (by decide) (by decide) ?_
      show Steps p.tables e below (T38.setTop (mkF m 121 #[.val (.int p1), .val (.int p2), .val (.ref b1), .val (.ref b3), .val (.int (p1.toUInt32.toUInt16.toUInt32.toInt32)), .val (.int (F1 (p1.toUInt32.toUInt16.toUInt32.toInt32))), .val (.int v25), .val (.int (p2 &&& (15 : Int32))), .val (.int v37), .unset] [])) _
      refine XS.iconst X38.here hx rfl (hb hby at_121) ?_
      exact kt
  obtain ⟨v42, hv42⟩ : ∃ z : Int32, z = (if (F1 v37) = (p2 &&& (15 : Int32)) then (1 : Int32) else (0 : Int32)) := ⟨_, rfl⟩
  rw [← hv42] at pre41
  have pre43 : ∀ t, Steps p.tables e below (T38.setTop (mkF m 126 #[.val (.int p1), .val (.int p2), .val (.ref b1), .val (.ref b3), .val (.int (p1.toUInt32.toUInt16.toUInt32.toInt32)), .val (.int (F1 (p1.toUInt32.toUInt16.toUInt32.toInt32))), .val (.int v25), .val (.int (p2 &&& (15 : Int32))), .val (.int v37), .val (.int v42)] [(.int v25)])) t → Steps p.tables e below (s₁.setTop (entryFrame m #[(.int p1), (.int p2)] maxLocals)) t := fun t kt => by
    refine pre41 t ?_
    show Steps p.tables e below (T38.setTop (mkF m 122 #[.val (.int p1), .val (.int p2), .val (.ref b1), .val (.ref b3), .val (.int (p1.toUInt32.toUInt16.toUInt32.toInt32)), .val (.int (F1 (p1.toUInt32.toUInt16.toUInt32.toInt32))), .val (.int v25), .val (.int (p2 &&& (15 : Int32))), .val (.int v37), .unset] [(.int v42)])) _
    refine XS.istore X38.here hx rfl (hb hby at_122) rfl (l' := #[.val (.int p1), .val (.int p2), .val (.ref b1), .val (.ref b3), .val (.int (p1.toUInt32.toUInt16.toUInt32.toInt32)), .val (.int (F1 (p1.toUInt32.toUInt16.toUInt32.toInt32))), .val (.int v25), .val (.int (p2 &&& (15 : Int32))), .val (.int v37), .val (.int v42)]) rfl ?_
    show Steps p.tables e below (T38.setTop (mkF m 124 #[.val (.int p1), .val (.int p2), .val (.ref b1), .val (.ref b3), .val (.int (p1.toUInt32.toUInt16.toUInt32.toInt32)), .val (.int (F1 (p1.toUInt32.toUInt16.toUInt32.toInt32))), .val (.int v25), .val (.int (p2 &&& (15 : Int32))), .val (.int v37), .val (.int v42)] [])) _
    refine XS.iload X38.here hx rfl (hb hby at_124) rfl ?_
    exact kt
  by_cases hc44 : v25 = (0 : Int32)
  · exact (leaf_0_1 p1 p2 w_COMPACT_STRINGS v25 hv25 v37 hv37 v42 hv42 hc44).elim
  · have pre45 : ∀ t, Steps p.tables e below (T38.setTop (mkF m 131 #[.val (.int p1), .val (.int p2), .val (.ref b1), .val (.ref b3), .val (.int (p1.toUInt32.toUInt16.toUInt32.toInt32)), .val (.int (F1 (p1.toUInt32.toUInt16.toUInt32.toInt32))), .val (.int v25), .val (.int (p2 &&& (15 : Int32))), .val (.int v37), .val (.int v42)] [(.int v42)])) t → Steps p.tables e below (s₁.setTop (entryFrame m #[(.int p1), (.int p2)] maxLocals)) t := fun t kt => by
      refine pre43 t ?_
      show Steps p.tables e below (T38.setTop (mkF m 126 #[.val (.int p1), .val (.int p2), .val (.ref b1), .val (.ref b3), .val (.int (p1.toUInt32.toUInt16.toUInt32.toInt32)), .val (.int (F1 (p1.toUInt32.toUInt16.toUInt32.toInt32))), .val (.int v25), .val (.int (p2 &&& (15 : Int32))), .val (.int v37), .val (.int v42)] [(.int v25)])) _
      refine XS.ifNo X38.here hx rfl (hb hby at_126) rfl ((if0 _ _).trans (feq hc44).1) ?_
      show Steps p.tables e below (T38.setTop (mkF m 129 #[.val (.int p1), .val (.int p2), .val (.ref b1), .val (.ref b3), .val (.int (p1.toUInt32.toUInt16.toUInt32.toInt32)), .val (.int (F1 (p1.toUInt32.toUInt16.toUInt32.toInt32))), .val (.int v25), .val (.int (p2 &&& (15 : Int32))), .val (.int v37), .val (.int v42)] [])) _
      refine XS.iload X38.here hx rfl (hb hby at_129) rfl ?_
      exact kt
    by_cases hc46 : v42 = (0 : Int32)
    · exact (leaf_0_2 p1 p2 w_COMPACT_STRINGS v25 hv25 v37 hv37 v42 hv42 hc44 hc46).elim
    · obtain ⟨fs, hr, hrun, hended, hE⟩ := Jvm.Stand.leaveW (s := s) (vm₁ := T3.vm) X38 hS3 (by rw [e38]; exact hk3) (v := some (.int (1 : Int32))) (fun h => by rw [Bd.returns] at h; cases h)
      refine ⟨_, _, pre45 _ ?_, hrun, hended, _, _, rfl, ?_, hE.1, hE.2.1, hE.2.2.1, hE.2.2.2.mono (by decide) (by decide)⟩
      · show Steps p.tables e below (T38.setTop (mkF m 131 #[.val (.int p1), .val (.int p2), .val (.ref b1), .val (.ref b3), .val (.int (p1.toUInt32.toUInt16.toUInt32.toInt32)), .val (.int (F1 (p1.toUInt32.toUInt16.toUInt32.toInt32))), .val (.int v25), .val (.int (p2 &&& (15 : Int32))), .val (.int v37), .val (.int v42)] [(.int v42)])) _
        refine XS.ifNo X38.here hx rfl (hb hby at_131) rfl ((if0 _ _).trans (feq hc46).1) ?_
        show Steps p.tables e below (T38.setTop (mkF m 134 #[.val (.int p1), .val (.int p2), .val (.ref b1), .val (.ref b3), .val (.int (p1.toUInt32.toUInt16.toUInt32.toInt32)), .val (.int (F1 (p1.toUInt32.toUInt16.toUInt32.toInt32))), .val (.int v25), .val (.int (p2 &&& (15 : Int32))), .val (.int v37), .val (.int v42)] [])) _
        refine XS.iconst X38.here hx rfl (hb hby at_134) ?_
        show Steps p.tables e below (T38.setTop (mkF m 135 #[.val (.int p1), .val (.int p2), .val (.ref b1), .val (.ref b3), .val (.int (p1.toUInt32.toUInt16.toUInt32.toInt32)), .val (.int (F1 (p1.toUInt32.toUInt16.toUInt32.toInt32))), .val (.int v25), .val (.int (p2 &&& (15 : Int32))), .val (.int v37), .val (.int v42)] [(.int (1 : Int32))])) _
        refine XS.goto X38.here hx rfl (pc0 := 135) (pc' := 139) rfl (hb hby at_135) (by decide) (by decide) ?_
        show Steps p.tables e below (T38.setTop (mkF m 139 #[.val (.int p1), .val (.int p2), .val (.ref b1), .val (.ref b3), .val (.int (p1.toUInt32.toUInt16.toUInt32.toInt32)), .val (.int (F1 (p1.toUInt32.toUInt16.toUInt32.toInt32))), .val (.int v25), .val (.int (p2 &&& (15 : Int32))), .val (.int v37), .val (.int v42)] [(.int (1 : Int32))])) _
        exact retN X38 hx (t := .boolean) Bd.returns (by simp) (hb hby at_139) hr
      · show Q0 Z p1 p2 w_COMPACT_STRINGS w_SIOOBE_FORMATTER h0 n0 _ T38.heap _
        rw [e38]
        exact ⟨rfl, N38⟩
set_option maxRecDepth 65536 in
set_option maxHeartbeats 40000000 in
theorem comes_1 {Post : Tables → Env → Array Value → State → Outcome → State → Prop} (hpost : ∀ tb e args s v u, (limb_1_1.after args s (.returned v) u = true ∧ limb_1_2.after args s (.returned v) u = true ∧ True) → ReturnedEndW s (.returned v) u (Jvm.fieldLocs frame_1_writes args s ++ Jvm.arrayLocs frame_1_arrays args s ++ Jvm.staticLocs frame_1_statics s) 8 2112 → Post tb e args s (.returned v) u) :
    ArmFor flags0 classFile x code maxLocals ret World_1 tables_1 room_1 Calls_1 rest_1 Pre_1 Post := by
  intro l hfl _ _ p e ha hc hk s m args below hf hA hF happ hP
  obtain ⟨hcalls, hrest, hpre⟩ := hP
  obtain ⟨-, -, -, hnamed, -, -, -, hat⟩ := (Spec.applies_iff hf).mp happ
  obtain ⟨hg, hn⟩ := and_e (Cond.before_iff.mp (show (Jvm.Cond.and given_1 narrow_1).before args s = true from hpre))
  obtain ⟨g1, g2⟩ := and_e hg
  obtain ⟨g3, g4⟩ := and_e g2
  obtain ⟨w0, w1, rfl⟩ : ∃ w0 w1 : Value, args = #[w0, w1] := by
    have hs : args.size = 2 := by simpa [Cond.value, given_1] using g1
    obtain ⟨L⟩ := args
    match L, hs with
    | [w0, w1], _ => exact ⟨w0, w1, rfl⟩
  have hw := fun d (hd : d ∈ tables_1) => atoms_spec (ws := Jvm.Cond.code x code maxLocals ret :: tables_1) hat d (List.mem_cons_of_mem _ hd)
  have hfit : Fit s := fun {y c} hc i hi => by
    obtain ⟨ha, rfl⟩ := Array.getElem?_eq_some_iff.mp hc
    have q := List.all_eq_true.mp ((Array.all_eq_true_iff_forall_mem.mp hF) _ (Array.getElem_mem ha)) i (List.mem_range.mpr hi)
    simpa [Array.getElem?_eq_getElem hi] using q
  obtain ⟨hsets, hown0⟩ := atoms_of _ (rest_1_c_eq ▸ (show rest_1_c.before _ s = true from hrest))
  have hr0 := Cond.before_iff.mp hown0
  obtain ⟨i0, ei0⟩ := is_v g3
  obtain rfl : w0 = (.int i0) := Option.some.inj ei0
  obtain ⟨i1, ei1⟩ := is_v g4
  obtain rfl : w1 = (.int i1) := Option.some.inj ei1
  have HC7 : Jvm.Lit.constHeld s "com/example/lofu/lofu/text/AsciiTableHexValuePinLaw" 7 := hcalls.1 ("com/example/lofu/lofu/text/AsciiTableHexValuePinLaw", 7) (List.mem_of_getElem? (i := 0) rfl)
  have HC9 : Jvm.Lit.constHeld s "com/example/lofu/lofu/text/AsciiTableHexValuePinLaw" 9 := hcalls.1 ("com/example/lofu/lofu/text/AsciiTableHexValuePinLaw", 9) (List.mem_of_getElem? (i := 1) rfl)
  obtain ⟨w_COMPACT_STRINGS, eCS⟩ := is_v (Cond.before_iff.mp (hsets _ (List.mem_of_getElem? (i := 1) rfl)))
  have S_COMPACT_STRINGS : Sta s s.heap "java/lang/String" "COMPACT_STRINGS" "Z" (.int w_COMPACT_STRINGS) := Sta.start eCS (Or.inl (hsets _ (List.mem_of_getElem? (i := 0) rfl)))
  obtain ⟨w_SIOOBE_FORMATTER, eSF, r_w_SIOOBE_FORMATTER⟩ := isR_v (Cond.before_iff.mp (hsets _ (List.mem_of_getElem? (i := 8) rfl)))
  have S_SIOOBE_FORMATTER : Sta s s.heap "jdk/internal/util/Preconditions" "SIOOBE_FORMATTER" "Ljava/util/function/BiFunction;" w_SIOOBE_FORMATTER := Sta.start eSF (Or.inl (hsets _ (List.mem_of_getElem? (i := 7) rfl)))
  have X00 := Old.start s
  have hcs : ¬ w_COMPACT_STRINGS = (0 : Int32) := by
    intro q
    have h := not_v (Cond.before_iff.mp (hsets _ (List.mem_of_getElem? (i := 2) rfl)))
    rw [eq_i eCS (Term.int_eval 0) (by rw [q])] at h
    exact absurd h (by decide)
  have hcw : Jvm.Lit.compactW.before _ s = true := hsets _ (List.mem_of_getElem? (i := 2) rfl)
  obtain ⟨n, o, h1, h2, h3, _, L, rfl, ⟨rfl, N⟩, hq⟩ := rm0 l s _ hw tables_1 i0 i1 w_COMPACT_STRINGS w_SIOOBE_FORMATTER s.heap s.heap.size (Nat.le_refl _) rfl rfl hcw HC7 HC9 S_COMPACT_STRINGS S_SIOOBE_FORMATTER X00 hcs r_w_SIOOBE_FORMATTER p e ha hc hk s m _ below hf ((Spec.applies_iff_loose hf).mp happ).1 ⟨rfl, rfl⟩ trivial
  refine ⟨n, _, h1, h2, h3, hpost _ _ _ _ _ _ ⟨Cond.after_iff.mpr rfl, Cond.after_iff.mpr (eq_i res_at (Term.int_eval (1)) rfl), trivial⟩ ⟨hq.1, hq.2.1, hq.2.2.1, (hq.2.2.2.sift fun y hy => Or.inr (N y hy)).mono (by decide) (by decide)⟩⟩
theorem main_1_1 : Claimed_1_1 := comes_1 fun _ _ _ _ _ _ h hF => ⟨h.1, hF⟩
theorem main_1_2 : Claimed_1_2 := comes_1 fun _ _ _ _ _ _ h hF => ⟨h.2.1, hF⟩
end Jvm.Pilot.@@N@@
namespace Jvm.Pilot.@@N@@
open Jvm Jvm.ClassFile Sem Op Lib Jvm.Free Jvm.Stand Jvm.Pilot.@@N@@.Jvm.D
/-! MADE BY PROGRAM (witnessworld.py) out of the Statement's table words and the real class files: 17 classes; the members and pool entries that the words name. The judged class is class 1, her method 1. -/
namespace start1
open Jvm.ClassFile
def u (s : String) : CpInfo := .utf8 (stringToUtf16 s)
/-- a pool by its gaps: so many unusable entries, then the entry; so many at the end -/
def gap : Nat → List CpInfo → List CpInfo
  | 0, r => r
  | n + 1, r => .unusable :: gap n r
def poolList (es : List (Nat × CpInfo)) (last : Nat) : List CpInfo := es.foldr (fun e r => gap e.1 (e.2 :: r)) (gap last [])
def pool (es : List (Nat × CpInfo)) (last : Nat) : Array CpInfo := ⟨poolList es last⟩
def fileOf (pool : Array CpInfo) (this : Nat) (attrs : Array Attribute := #[]) (ms : Array MethodInfo := #[]) (fl : Nat := 33) (sup : Nat := 0) (ifs : Array Nat := #[]) (fds : Array FieldInfo := #[]) : ClassFile where
  minorVersion := 0
  majorVersion := 65
  constantPool := pool
  accessFlags := fl
  thisClass := this
  superClass := sup
  interfaces := ifs
  fields := fds
  methods := ms
  attributes := attrs
def plain (name : String) (sup : Option ClassId) : Class where
  name := name
  kind := .ordinary
  loader := none
  accessFlags := 33
  super := sup
  interfaces := #[]
  cf := none
  fields := #[]
  methods := #[]
  instanceTypes := #[]
  staticTypes := #[]
  resolved := #[]
  callSites := []
  init := .initialized
  statics := none
  mirror := none

def pool0 : Array CpInfo := pool [(5, u "<init>"), (0, u "()V"), (1, .class_ 10), (1, u "java/lang/Object")] 113

def k0m0 : Method := { name := "<init>", desc := "()V", sig := { parameters := [], returnType := none }, accessFlags := 1, code := none }
/-- java/lang/Object -/
def k0 : Class := { plain "java/lang/Object" none with
  accessFlags := 33
  interfaces := #[]
  cf := some (fileOf pool0 8 #[] #[{ accessFlags := 1, nameIndex := 5, descriptorIndex := 6, attributes := #[] }] 33 0 #[] #[])
  fields := #[]
  methods := #[k0m0]
  instanceTypes := #[]
  staticTypes := #[]
  resolved := Array.replicate 124 none
  statics := none }

def pool1 : Array CpInfo := pool [(2, .class_ 4), (1, u "java/lang/Object"), (0, u "<init>"), (0, u "()V"), (0, .string 8), (0, u "0123456789abcdef"), (0, .string 10), (0, u "0123456789ABCDEF"), (0, .methodref 12 13), (0, .class_ 14), (0, .nameAndType 15 16), (0, u "com/example/lofu/lofu/text/AsciiTable"), (0, u "hexValue"), (0, u "(C)I"), (0, .methodref 18 19), (0, .class_ 20), (0, .nameAndType 21 22), (0, u "java/lang/String"), (0, u "charAt"), (0, u "(I)C"), (0, .class_ 24), (0, u "com/example/lofu/lofu/text/AsciiTableHexValuePinLaw"), (2, u "law"), (0, u "(II)Z")] 3

def k1m0 : Method := { name := "<init>", desc := "()V", sig := { parameters := [], returnType := none }, accessFlags := 2, code := none }
def k1c1 : Code := { maxStack := 3, maxLocals := 10, code := code, exceptionTable := #[], attributes := #[] }
def k1m1 : Method := { name := "law", desc := "(II)Z", sig := { parameters := [.int, .int], returnType := some .boolean }, accessFlags := 9, code := some k1c1 }
/-- com/example/lofu/lofu/text/AsciiTableHexValuePinLaw -/
def k1 : Class := { plain "com/example/lofu/lofu/text/AsciiTableHexValuePinLaw" (some 0) with
  accessFlags := 49
  interfaces := #[]
  cf := some (fileOf pool1 23 #[] #[{ accessFlags := 2, nameIndex := 5, descriptorIndex := 6, attributes := #[] }, { accessFlags := 9, nameIndex := 27, descriptorIndex := 28, attributes := #[] }] 49 2 #[] #[])
  fields := #[]
  methods := #[k1m0, k1m1]
  instanceTypes := #[]
  staticTypes := #[]
  resolved := Array.replicate 32 none
  statics := none }

def pool2 : Array CpInfo := pool [(1, .class_ 2), (0, u "java/io/Serializable"), (0, .class_ 4), (0, u "java/lang/Object")] 2

/-- java/io/Serializable -/
def k2 : Class := { plain "java/io/Serializable" (some 0) with
  accessFlags := 1537
  interfaces := #[]
  cf := some (fileOf pool2 1 #[] #[] 1537 3 #[] #[])
  fields := #[]
  methods := #[]
  instanceTypes := #[]
  staticTypes := #[]
  resolved := Array.replicate 7 none
  statics := none }

def pool3 : Array CpInfo := pool [(1, .class_ 2), (0, u "java/lang/Comparable"), (0, .class_ 4), (0, u "java/lang/Object")] 7

/-- java/lang/Comparable -/
def k3 : Class := { plain "java/lang/Comparable" (some 0) with
  accessFlags := 1537
  interfaces := #[]
  cf := some (fileOf pool3 1 #[] #[] 1537 3 #[] #[])
  fields := #[]
  methods := #[]
  instanceTypes := #[]
  staticTypes := #[]
  resolved := Array.replicate 12 none
  statics := none }

def pool4 : Array CpInfo := pool [(2, .class_ 4), (1, u "java/lang/CharSequence"), (42, .class_ 48), (0, u "java/lang/CharSequence$1CodePointIterator"), (10, .class_ 60), (0, u "java/lang/CharSequence$1CharIterator"), (5, .class_ 67), (0, u "java/lang/Object")] 63

/-- java/lang/CharSequence -/
def k4 : Class := { plain "java/lang/CharSequence" (some 0) with
  accessFlags := 1537
  interfaces := #[]
  cf := some (fileOf pool4 2 #[.nestMembers #[47, 59]] #[] 1537 66 #[] #[])
  fields := #[]
  methods := #[]
  instanceTypes := #[]
  staticTypes := #[]
  resolved := Array.replicate 131 none
  statics := none }

def pool5 : Array CpInfo := pool [(1, .class_ 2), (0, u "java/lang/constant/Constable"), (0, .class_ 4), (0, u "java/lang/Object")] 6

/-- java/lang/constant/Constable -/
def k5 : Class := { plain "java/lang/constant/Constable" (some 0) with
  accessFlags := 1537
  interfaces := #[]
  cf := some (fileOf pool5 1 #[] #[] 1537 3 #[] #[])
  fields := #[]
  methods := #[]
  instanceTypes := #[]
  staticTypes := #[]
  resolved := Array.replicate 11 none
  statics := none }

def pool6 : Array CpInfo := pool [(1, .class_ 2), (0, u "java/lang/constant/ConstantDesc"), (0, .class_ 4), (0, u "java/lang/Object")] 32

/-- java/lang/constant/ConstantDesc -/
def k6 : Class := { plain "java/lang/constant/ConstantDesc" (some 0) with
  accessFlags := 1537
  interfaces := #[]
  cf := some (fileOf pool6 1 #[] #[] 1537 3 #[] #[])
  fields := #[]
  methods := #[]
  instanceTypes := #[]
  staticTypes := #[]
  resolved := Array.replicate 37 none
  statics := none }

def pool7 : Array CpInfo := pool [(2, .class_ 4), (1, u "java/lang/Object"), (0, u "<init>"), (0, u "()V"), (2, .fieldref 10 11), (0, .class_ 12), (0, .nameAndType 13 14), (0, u "java/lang/String"), (0, u "value"), (0, u "[B"), (0, .fieldref 10 16), (0, .nameAndType 17 18), (0, u "coder"), (0, u "B"), (2, u "hash"), (0, u "I"), (2, u "hashIsZero"), (0, u "Z"), (11, .fieldref 10 39), (0, .nameAndType 40 26), (0, u "COMPACT_STRINGS"), (66, .class_ 109), (1, u "java/lang/StringLatin1"), (32, u "()Z"), (220, u "([BI)C"), (27, u "(II)V"), (35, u "(I)C"), (64, .methodref 10 493), (0, .nameAndType 494 142), (0, u "isLatin1"), (0, .methodref 107 496), (0, .nameAndType 497 363), (0, u "charAt"), (3, u "checkIndex"), (73, .class_ 576), (0, u "java/lang/CharSequence"), (22, u "CASE_INSENSITIVE_ORDER"), (0, u "Ljava/util/Comparator;"), (452, .fieldref 1054 1055), (0, .class_ 1056), (0, .nameAndType 1057 1058), (0, u "jdk/internal/util/Preconditions"), (0, u "SIOOBE_FORMATTER"), (0, u "Ljava/util/function/BiFunction;"), (0, .methodref 1054 1060), (0, .nameAndType 501 1061), (0, u "(IILjava/util/function/BiFunction;)I"), (39, u "serialPersistentFields"), (0, u "[Ljava/io/ObjectStreamField;"), (0, .class_ 1104), (0, u "java/lang/String$CaseInsensitiveComparator"), (1, .class_ 1107), (0, u "java/io/Serializable"), (0, .class_ 1109), (0, u "java/lang/Comparable"), (0, .class_ 1111), (0, u "java/lang/constant/Constable"), (0, .class_ 1113), (0, u "java/lang/constant/ConstantDesc"), (2, u "serialVersionUID"), (0, u "J"), (3, u "REPL"), (0, u "C"), (2, u "LATIN1"), (1, u "UTF16")] 323

def k7m0 : Method := { name := "<init>", desc := "()V", sig := { parameters := [], returnType := none }, accessFlags := 1, code := none }
def k7c1 : Code := { maxStack := 2, maxLocals := 2, code := jdk_42_method_56_code, exceptionTable := #[], attributes := #[] }
def k7m1 : Method := { name := "charAt", desc := "(I)C", sig := { parameters := [.int], returnType := some .char }, accessFlags := 1, code := some k7c1 }
def k7c2 : Code := { maxStack := 1, maxLocals := 1, code := jdk_42_method_154_code, exceptionTable := #[], attributes := #[] }
def k7m2 : Method := { name := "isLatin1", desc := "()Z", sig := { parameters := [], returnType := some .boolean }, accessFlags := 0, code := some k7c2 }
def k7c3 : Code := { maxStack := 3, maxLocals := 2, code := jdk_42_method_155_code, exceptionTable := #[], attributes := #[] }
def k7m3 : Method := { name := "checkIndex", desc := "(II)V", sig := { parameters := [.int, .int], returnType := none }, accessFlags := 8, code := some k7c3 }
/-- java/lang/String -/
def k7 : Class := { plain "java/lang/String" (some 0) with
  accessFlags := 49
  interfaces := #[2, 3, 4, 5, 6]
  cf := some (fileOf pool7 10 #[.nestMembers #[1103]] #[{ accessFlags := 1, nameIndex := 5, descriptorIndex := 6, attributes := #[] }, { accessFlags := 1, nameIndex := 497, descriptorIndex := 427, attributes := #[] }, { accessFlags := 0, nameIndex := 494, descriptorIndex := 142, attributes := #[] }, { accessFlags := 8, nameIndex := 501, descriptorIndex := 391, attributes := #[] }] 49 2 #[1106, 1108, 575, 1110, 1112] #[{ accessFlags := 18, nameIndex := 13, descriptorIndex := 14, attributes := #[] }, { accessFlags := 18, nameIndex := 17, descriptorIndex := 18, attributes := #[] }, { accessFlags := 2, nameIndex := 21, descriptorIndex := 22, attributes := #[] }, { accessFlags := 2, nameIndex := 25, descriptorIndex := 26, attributes := #[] }, { accessFlags := 26, nameIndex := 1116, descriptorIndex := 1117, attributes := #[] }, { accessFlags := 24, nameIndex := 40, descriptorIndex := 26, attributes := #[] }, { accessFlags := 26, nameIndex := 1101, descriptorIndex := 1102, attributes := #[] }, { accessFlags := 26, nameIndex := 1121, descriptorIndex := 1122, attributes := #[] }, { accessFlags := 25, nameIndex := 599, descriptorIndex := 600, attributes := #[] }, { accessFlags := 24, nameIndex := 1125, descriptorIndex := 18, attributes := #[] }, { accessFlags := 24, nameIndex := 1127, descriptorIndex := 18, attributes := #[] }])
  fields := #[{ name := "value", type := (.array .byte), accessFlags := 18, slot := 0, constantValue := 0 }, { name := "coder", type := .byte, accessFlags := 18, slot := 1, constantValue := 0 }, { name := "hash", type := .int, accessFlags := 2, slot := 2, constantValue := 0 }, { name := "hashIsZero", type := .boolean, accessFlags := 2, slot := 3, constantValue := 0 }, { name := "serialVersionUID", type := .long, accessFlags := 26, slot := 0, constantValue := 0 }, { name := "COMPACT_STRINGS", type := .boolean, accessFlags := 24, slot := 1, constantValue := 0 }, { name := "serialPersistentFields", type := (.array (.object "java/io/ObjectStreamField")), accessFlags := 26, slot := 2, constantValue := 0 }, { name := "REPL", type := .char, accessFlags := 26, slot := 3, constantValue := 0 }, { name := "CASE_INSENSITIVE_ORDER", type := (.object "java/util/Comparator"), accessFlags := 25, slot := 4, constantValue := 0 }, { name := "LATIN1", type := .byte, accessFlags := 24, slot := 5, constantValue := 0 }, { name := "UTF16", type := .byte, accessFlags := 24, slot := 6, constantValue := 0 }]
  methods := #[k7m0, k7m1, k7m2, k7m3]
  instanceTypes := #[(.array .byte), .byte, .int, .boolean]
  staticTypes := #[.long, .boolean, (.array (.object "java/io/ObjectStreamField")), .char, (.object "java/util/Comparator"), .byte, .byte]
  resolved := Array.replicate 1451 none
  statics := some 0 }

def pool8 : Array CpInfo := pool [(2, .class_ 4), (1, u "java/lang/Object"), (0, u "<init>"), (0, u "()V"), (11, .class_ 20), (1, u "com/example/lofu/lofu/text/AsciiTable"), (6, u "UNRESERVED"), (0, u "Ljava/lang/String;"), (8, u "hexValue"), (0, u "(C)I")] 9

def k8m0 : Method := { name := "<init>", desc := "()V", sig := { parameters := [], returnType := none }, accessFlags := 2, code := none }
def k8c1 : Code := { maxStack := 2, maxLocals := 2, code := prog_11_method_4_code, exceptionTable := #[], attributes := #[] }
def k8m1 : Method := { name := "hexValue", desc := "(C)I", sig := { parameters := [.char], returnType := some .int }, accessFlags := 9, code := some k8c1 }
/-- com/example/lofu/lofu/text/AsciiTable -/
def k8 : Class := { plain "com/example/lofu/lofu/text/AsciiTable" (some 0) with
  accessFlags := 49
  interfaces := #[]
  cf := some (fileOf pool8 18 #[] #[{ accessFlags := 2, nameIndex := 5, descriptorIndex := 6, attributes := #[] }, { accessFlags := 9, nameIndex := 37, descriptorIndex := 38, attributes := #[] }] 49 2 #[] #[{ accessFlags := 25, nameIndex := 27, descriptorIndex := 28, attributes := #[] }])
  fields := #[{ name := "UNRESERVED", type := (.object "java/lang/String"), accessFlags := 25, slot := 0, constantValue := 0 }]
  methods := #[k8m0, k8m1]
  instanceTypes := #[]
  staticTypes := #[(.object "java/lang/String")]
  resolved := Array.replicate 48 none
  statics := none }

def pool9 : Array CpInfo := pool [(1, .class_ 2), (0, u "java/lang/String"), (1, .class_ 6), (1, u "java/lang/Object"), (0, u "<init>"), (0, u "()V"), (0, .methodref 1 10), (0, .nameAndType 11 12), (0, u "checkIndex"), (0, u "(II)V"), (1, .class_ 16), (1, u "java/lang/StringLatin1"), (36, u "([BI)C"), (67, u "$assertionsDisabled"), (0, u "Z"), (98, .class_ 223), (1, u "java/lang/StringLatin1$LinesSpliterator"), (28, u "charAt"), (137, .class_ 391), (0, u "java/lang/StringLatin1$CharsSpliterator")] 3

def k9m0 : Method := { name := "<init>", desc := "()V", sig := { parameters := [], returnType := none }, accessFlags := 0, code := none }
def k9c1 : Code := { maxStack := 2, maxLocals := 2, code := jdk_43_method_2_code, exceptionTable := #[], attributes := #[] }
def k9m1 : Method := { name := "charAt", desc := "([BI)C", sig := { parameters := [(.array .byte), .int], returnType := some .char }, accessFlags := 9, code := some k9c1 }
/-- java/lang/StringLatin1 -/
def k9 : Class := { plain "java/lang/StringLatin1" (some 0) with
  accessFlags := 48
  interfaces := #[]
  cf := some (fileOf pool9 14 #[.nestMembers #[390, 221]] #[{ accessFlags := 0, nameIndex := 7, descriptorIndex := 8, attributes := #[] }, { accessFlags := 9, nameIndex := 252, descriptorIndex := 53, attributes := #[] }] 48 4 #[] #[{ accessFlags := 4120, nameIndex := 121, descriptorIndex := 122, attributes := #[] }])
  fields := #[{ name := "$assertionsDisabled", type := .boolean, accessFlags := 4120, slot := 0, constantValue := 0 }]
  methods := #[k9m0, k9m1]
  instanceTypes := #[]
  staticTypes := #[.boolean]
  resolved := Array.replicate 395 none
  statics := none }

def pool10 : Array CpInfo := pool [(2, .class_ 4), (1, u "java/lang/Object"), (0, u "<init>"), (0, u "()V"), (17, .class_ 26), (1, u "jdk/internal/util/Preconditions"), (6, u "checkIndex"), (21, .class_ 56), (0, u "jdk/internal/util/Preconditions$4"), (57, .class_ 115), (0, u "jdk/internal/util/Preconditions$1"), (7, u "SIOOBE_FORMATTER"), (0, u "Ljava/util/function/BiFunction;"), (0, .class_ 126), (0, u "jdk/internal/util/Preconditions$2"), (3, u "AIOOBE_FORMATTER"), (0, .class_ 132), (0, u "jdk/internal/util/Preconditions$3"), (3, u "IOOBE_FORMATTER"), (41, u "(IILjava/util/function/BiFunction;)I")] 15

def k10m0 : Method := { name := "<init>", desc := "()V", sig := { parameters := [], returnType := none }, accessFlags := 1, code := none }
def k10c1 : Code := { maxStack := 3, maxLocals := 3, code := jdk_41_method_11_code, exceptionTable := #[], attributes := #[] }
def k10m1 : Method := { name := "checkIndex", desc := "(IILjava/util/function/BiFunction;)I", sig := { parameters := [.int, .int, (.object "java/util/function/BiFunction")], returnType := some .int }, accessFlags := 9, code := some k10c1 }
/-- jdk/internal/util/Preconditions -/
def k10 : Class := { plain "jdk/internal/util/Preconditions" (some 0) with
  accessFlags := 33
  interfaces := #[]
  cf := some (fileOf pool10 24 #[.nestMembers #[55, 131, 125, 114]] #[{ accessFlags := 1, nameIndex := 5, descriptorIndex := 6, attributes := #[] }, { accessFlags := 9, nameIndex := 33, descriptorIndex := 178, attributes := #[] }] 33 2 #[] #[{ accessFlags := 25, nameIndex := 123, descriptorIndex := 124, attributes := #[] }, { accessFlags := 25, nameIndex := 130, descriptorIndex := 124, attributes := #[] }, { accessFlags := 25, nameIndex := 136, descriptorIndex := 124, attributes := #[] }])
  fields := #[{ name := "SIOOBE_FORMATTER", type := (.object "java/util/function/BiFunction"), accessFlags := 25, slot := 0, constantValue := 0 }, { name := "AIOOBE_FORMATTER", type := (.object "java/util/function/BiFunction"), accessFlags := 25, slot := 1, constantValue := 0 }, { name := "IOOBE_FORMATTER", type := (.object "java/util/function/BiFunction"), accessFlags := 25, slot := 2, constantValue := 0 }]
  methods := #[k10m0, k10m1]
  instanceTypes := #[]
  staticTypes := #[(.object "java/util/function/BiFunction"), (.object "java/util/function/BiFunction"), (.object "java/util/function/BiFunction")]
  resolved := Array.replicate 194 none
  statics := some 1 }

def pool11 : Array CpInfo := pool [(9, u "<init>"), (6, .class_ 18), (1, u "java/lang/Object"), (0, u "()V"), (1, .class_ 23), (1, u "jdk/internal/util/ArraysSupport"), (0, u "LOG2_ARRAY_LONG_INDEX_SCALE"), (0, u "I"), (2, u "U"), (0, u "Ljdk/internal/misc/Unsafe;"), (8, u "BIG_ENDIAN"), (0, u "Z"), (8, u "LOG2_BYTE_BIT_SIZE"), (4, u "LOG2_ARRAY_INT_INDEX_SCALE"), (54, u "JLA"), (0, u "Ljdk/internal/access/JavaLangAccess;"), (11, u "LOG2_ARRAY_BOOLEAN_INDEX_SCALE"), (9, u "LOG2_ARRAY_BYTE_INDEX_SCALE"), (5, u "LOG2_ARRAY_CHAR_INDEX_SCALE"), (5, u "LOG2_ARRAY_SHORT_INDEX_SCALE"), (18, u "LOG2_ARRAY_FLOAT_INDEX_SCALE"), (24, u "LOG2_ARRAY_DOUBLE_INDEX_SCALE"), (89, u "T_BOOLEAN"), (2, u "T_CHAR"), (1, u "T_FLOAT"), (1, u "T_DOUBLE"), (1, u "T_BYTE"), (1, u "T_SHORT"), (1, u "T_INT"), (1, u "T_LONG"), (1, u "SOFT_MAX_ARRAY_LENGTH")] 83

def k11m0 : Method := { name := "<init>", desc := "()V", sig := { parameters := [], returnType := none }, accessFlags := 2, code := none }
/-- jdk/internal/util/ArraysSupport -/
def k11 : Class := { plain "jdk/internal/util/ArraysSupport" (some 0) with
  accessFlags := 33
  interfaces := #[]
  cf := some (fileOf pool11 21 #[] #[{ accessFlags := 2, nameIndex := 9, descriptorIndex := 19, attributes := #[] }] 33 16 #[] #[{ accessFlags := 24, nameIndex := 28, descriptorIndex := 29, attributes := #[] }, { accessFlags := 26, nameIndex := 38, descriptorIndex := 39, attributes := #[] }, { accessFlags := 25, nameIndex := 121, descriptorIndex := 25, attributes := #[] }, { accessFlags := 25, nameIndex := 131, descriptorIndex := 25, attributes := #[] }, { accessFlags := 25, nameIndex := 137, descriptorIndex := 25, attributes := #[] }, { accessFlags := 25, nameIndex := 143, descriptorIndex := 25, attributes := #[] }, { accessFlags := 25, nameIndex := 53, descriptorIndex := 25, attributes := #[] }, { accessFlags := 25, nameIndex := 24, descriptorIndex := 25, attributes := #[] }, { accessFlags := 25, nameIndex := 162, descriptorIndex := 25, attributes := #[] }, { accessFlags := 25, nameIndex := 187, descriptorIndex := 25, attributes := #[] }, { accessFlags := 26, nameIndex := 48, descriptorIndex := 25, attributes := #[] }, { accessFlags := 25, nameIndex := 277, descriptorIndex := 25, attributes := #[] }, { accessFlags := 25, nameIndex := 280, descriptorIndex := 25, attributes := #[] }, { accessFlags := 25, nameIndex := 282, descriptorIndex := 25, attributes := #[] }, { accessFlags := 25, nameIndex := 284, descriptorIndex := 25, attributes := #[] }, { accessFlags := 25, nameIndex := 286, descriptorIndex := 25, attributes := #[] }, { accessFlags := 25, nameIndex := 288, descriptorIndex := 25, attributes := #[] }, { accessFlags := 25, nameIndex := 290, descriptorIndex := 25, attributes := #[] }, { accessFlags := 25, nameIndex := 292, descriptorIndex := 25, attributes := #[] }, { accessFlags := 26, nameIndex := 108, descriptorIndex := 109, attributes := #[] }, { accessFlags := 25, nameIndex := 294, descriptorIndex := 25, attributes := #[] }])
  fields := #[{ name := "U", type := (.object "jdk/internal/misc/Unsafe"), accessFlags := 24, slot := 0, constantValue := 0 }, { name := "BIG_ENDIAN", type := .boolean, accessFlags := 26, slot := 1, constantValue := 0 }, { name := "LOG2_ARRAY_BOOLEAN_INDEX_SCALE", type := .int, accessFlags := 25, slot := 2, constantValue := 0 }, { name := "LOG2_ARRAY_BYTE_INDEX_SCALE", type := .int, accessFlags := 25, slot := 3, constantValue := 0 }, { name := "LOG2_ARRAY_CHAR_INDEX_SCALE", type := .int, accessFlags := 25, slot := 4, constantValue := 0 }, { name := "LOG2_ARRAY_SHORT_INDEX_SCALE", type := .int, accessFlags := 25, slot := 5, constantValue := 0 }, { name := "LOG2_ARRAY_INT_INDEX_SCALE", type := .int, accessFlags := 25, slot := 6, constantValue := 0 }, { name := "LOG2_ARRAY_LONG_INDEX_SCALE", type := .int, accessFlags := 25, slot := 7, constantValue := 0 }, { name := "LOG2_ARRAY_FLOAT_INDEX_SCALE", type := .int, accessFlags := 25, slot := 8, constantValue := 0 }, { name := "LOG2_ARRAY_DOUBLE_INDEX_SCALE", type := .int, accessFlags := 25, slot := 9, constantValue := 0 }, { name := "LOG2_BYTE_BIT_SIZE", type := .int, accessFlags := 26, slot := 10, constantValue := 0 }, { name := "T_BOOLEAN", type := .int, accessFlags := 25, slot := 11, constantValue := 0 }, { name := "T_CHAR", type := .int, accessFlags := 25, slot := 12, constantValue := 0 }, { name := "T_FLOAT", type := .int, accessFlags := 25, slot := 13, constantValue := 0 }, { name := "T_DOUBLE", type := .int, accessFlags := 25, slot := 14, constantValue := 0 }, { name := "T_BYTE", type := .int, accessFlags := 25, slot := 15, constantValue := 0 }, { name := "T_SHORT", type := .int, accessFlags := 25, slot := 16, constantValue := 0 }, { name := "T_INT", type := .int, accessFlags := 25, slot := 17, constantValue := 0 }, { name := "T_LONG", type := .int, accessFlags := 25, slot := 18, constantValue := 0 }, { name := "JLA", type := (.object "jdk/internal/access/JavaLangAccess"), accessFlags := 26, slot := 19, constantValue := 0 }, { name := "SOFT_MAX_ARRAY_LENGTH", type := .int, accessFlags := 25, slot := 20, constantValue := 0 }]
  methods := #[k11m0]
  instanceTypes := #[]
  staticTypes := #[(.object "jdk/internal/misc/Unsafe"), .boolean, .int, .int, .int, .int, .int, .int, .int, .int, .int, .int, .int, .int, .int, .int, .int, .int, .int, (.object "jdk/internal/access/JavaLangAccess"), .int]
  resolved := Array.replicate 378 none
  statics := none }

def pool12 : Array CpInfo := pool [(1, u "java/lang/Cloneable"), (0, .class_ 1), (0, u "java/lang/Object"), (0, .class_ 3)] 3

/-- java/lang/Cloneable -/
def k12 : Class := { plain "java/lang/Cloneable" (some 0) with
  accessFlags := 1537
  interfaces := #[]
  cf := some (fileOf pool12 2 #[] #[] 1537 4 #[] #[])
  fields := #[]
  methods := #[]
  instanceTypes := #[]
  staticTypes := #[]
  resolved := Array.replicate 8 none
  statics := none }

/-- the primitive byte -/
def k13 : Class := { plain "byte" none with kind := .primitive 'B', accessFlags := 0x411 }
/-- [B -/
def k14 : Class := { plain "[B" (some 0) with kind := .array 13 .byte, interfaces := #[12, 2], accessFlags := 1041 }

/-- the primitive int -/
def k15 : Class := { plain "int" none with kind := .primitive 'I', accessFlags := 0x411 }
/-- [I -/
def k16 : Class := { plain "[I" (some 0) with kind := .array 15 .int, interfaces := #[12, 2], accessFlags := 1041 }

def heap : Heap := #[{ cls := 7, slots := #[.long 0, .int 1, .null, .int 0, .null, .int 0, .int 0], vm := .statics 7 },
  { cls := 10, slots := #[.null, .null, .null], vm := .statics 10 }]
def classes : Array Class := #[k0, k1, k2, k3, k4, k5, k6, k7, k8, k9, k10, k11, k12, k13, k14, k15, k16]
def interned : List (Array UInt16 × Addr) := []
def slotsUsed : Nat := 10
def theMethod : MethodId := ⟨1, 1⟩
def args0 : Array Value := #[.int 5, .int 7]
def aboutOver (below : List Frame) : State where
  vm := { classes := classes, interned := interned.toArray }
  heap := heap
  slotsUsed := slotsUsed
  threads := #[{ frames := .invoking theMethod args0 :: below }]
def below0 : List Frame := [.native { method := ⟨0, 0⟩, args := #[] }]
def about1 : State := aboutOver below0
def p0 : Program := .bare "" "" ""
def e0 : Env := launch0.env 0 0 0
theorem w_frames : about1.frames = Frame.invoking theMethod args0 :: below0 := rfl
set_option maxRecDepth 65536 in
theorem w_args : argsFit about1.vm theMethod args0 = true := by decide +kernel
set_option maxRecDepth 65536 in
theorem w_heap : heapFits about1 = true := by decide +kernel
set_option maxRecDepth 65536 in
theorem w_runnable : about1.curStatus? = some .runnable := by decide +kernel
set_option maxRecDepth 65536 in
theorem w_alone : about1.alone = true := by decide +kernel
set_option maxRecDepth 65536 in
theorem w_named : about1.methodNamed? x = some theMethod := by decide +kernel
set_option maxRecDepth 65536 in
theorem w_hears : about1.hears theMethod below0 = true := by decide +kernel
set_option maxRecDepth 65536 in
theorem w_ripe : about1.ripe theMethod args0 below0 = true := by decide +kernel
theorem w_running : about1.status = .running := rfl
set_option maxRecDepth 65536 in
theorem w_room : about1.hasRoom e0.platform room_1 = true :=
  launch0.hasRoom_least _ room_1 (by decide +kernel) (by decide +kernel) (by decide +kernel) (by decide +kernel) (by decide +kernel) (by decide +kernel)
theorem allAtoms_all (ts : List Jvm.Cond) (a : Array Jvm.Value) (st : Jvm.State) : (allAtoms ts).before a st = ts.all (fun c => c.before a st) := by
  induction ts with
  | nil => rfl
  | cons c t ih =>
    show (Jvm.Cond.and c (allAtoms t)).before a st = _
    rw [Jvm.Cond.before_and, ih, List.all_cons]
def words1 : List Jvm.Cond := Jvm.Cond.code x code maxLocals ret :: tables_1
/-- a 'code' word, met by the world's own term for the bytes: nothing is compared byte by byte -/
theorem code_word {y : MethodName} {bytes : ByteArray} {mx : Nat} {rt : Option FieldType} {a : Array Value} {s : State} {m : MethodId} {meth : Method} {c : Code} (h1 : s.methodNamed? y = some m) (h2 : s.vm.method? m = some meth) (h3 : meth.code = some c) (h4 : c.code = bytes)
    (h5 : (c.maxLocals == mx && c.exceptionTable.isEmpty && decide (c.maxStack ≤ mostOperands) && decide (meth.sig.returnType = rt) && !meth.locks && decide (parseMethodDescriptor y.desc = some meth.sig)) = true) : (Jvm.Cond.code y bytes mx rt).before a s = true := by
  simp only [Bool.and_eq_true, beq_iff_eq, Bool.not_eq_true', decide_eq_true_eq] at h5
  obtain ⟨⟨⟨⟨⟨g1, g2⟩, g3⟩, g4⟩, g5⟩, g6⟩ := h5
  simp [Cond.before, Cond.holds, Cond.value, h1, h2, h3, h4, g1, g2, g3, g4, g5, g6]
def isCode : Jvm.Cond → Bool
  | .code _ _ _ _ => true
  | _ => false
theorem all_split {L : List Jvm.Cond} {P : Jvm.Cond → Bool} (h1 : L.all (fun c => isCode c || P c) = true) (h2 : ∀ c ∈ L.filter isCode, P c = true) : L.all P = true := by
  refine List.all_eq_true.mpr fun c hc => ?_
  have h := List.all_eq_true.mp h1 c hc
  rcases Bool.eq_false_or_eq_true (isCode c) with hi | hi
  · exact h2 c (List.mem_filter.mpr ⟨hc, hi⟩)
  · simpa [hi] using h
set_option maxRecDepth 65536 in
theorem w_c0 : (Jvm.Cond.code x code maxLocals ret).before args0 about1 = true := code_word (m := ⟨1, 1⟩) (meth := k1m1) (c := k1c1) (by decide +kernel) rfl rfl rfl (by decide +kernel)
set_option maxRecDepth 65536 in
theorem w_c1 : (Jvm.Cond.code ({ cls := "com/example/lofu/lofu/text/AsciiTable", name := "hexValue", desc := "(C)I" } : Jvm.MethodName) prog_11_method_4_code (2 : Nat) (Option.some Jvm.ClassFile.FieldType.int)).before args0 about1 = true := code_word (m := ⟨8, 1⟩) (meth := k8m1) (c := k8c1) (by decide +kernel) rfl rfl rfl (by decide +kernel)
set_option maxRecDepth 65536 in
theorem w_c2 : (Jvm.Cond.code ({ cls := "java/lang/String", name := "charAt", desc := "(I)C" } : Jvm.MethodName) jdk_42_method_56_code (2 : Nat) (Option.some Jvm.ClassFile.FieldType.char)).before args0 about1 = true := code_word (m := ⟨7, 1⟩) (meth := k7m1) (c := k7c1) (by decide +kernel) rfl rfl rfl (by decide +kernel)
set_option maxRecDepth 65536 in
theorem w_c3 : (Jvm.Cond.code ({ cls := "java/lang/String", name := "isLatin1", desc := "()Z" } : Jvm.MethodName) jdk_42_method_154_code (1 : Nat) (Option.some Jvm.ClassFile.FieldType.boolean)).before args0 about1 = true := code_word (m := ⟨7, 2⟩) (meth := k7m2) (c := k7c2) (by decide +kernel) rfl rfl rfl (by decide +kernel)
set_option maxRecDepth 65536 in
theorem w_c4 : (Jvm.Cond.code ({ cls := "java/lang/StringLatin1", name := "charAt", desc := "([BI)C" } : Jvm.MethodName) jdk_43_method_2_code (2 : Nat) (Option.some Jvm.ClassFile.FieldType.char)).before args0 about1 = true := code_word (m := ⟨9, 1⟩) (meth := k9m1) (c := k9c1) (by decide +kernel) rfl rfl rfl (by decide +kernel)
set_option maxRecDepth 65536 in
theorem w_c5 : (Jvm.Cond.code ({ cls := "java/lang/String", name := "checkIndex", desc := "(II)V" } : Jvm.MethodName) jdk_42_method_155_code (2 : Nat) (Option.none : Option Jvm.ClassFile.FieldType)).before args0 about1 = true := code_word (m := ⟨7, 3⟩) (meth := k7m3) (c := k7c3) (by decide +kernel) rfl rfl rfl (by decide +kernel)
set_option maxRecDepth 65536 in
theorem w_c6 : (Jvm.Cond.code ({ cls := "jdk/internal/util/Preconditions", name := "checkIndex", desc := "(IILjava/util/function/BiFunction;)I" } : Jvm.MethodName) jdk_41_method_11_code (3 : Nat) (Option.some Jvm.ClassFile.FieldType.int)).before args0 about1 = true := code_word (m := ⟨10, 1⟩) (meth := k10m1) (c := k10c1) (by decide +kernel) rfl rfl rfl (by decide +kernel)
def codes1 : List Jvm.Cond := [Jvm.Cond.code x code maxLocals ret, Jvm.Cond.code ({ cls := "com/example/lofu/lofu/text/AsciiTable", name := "hexValue", desc := "(C)I" } : Jvm.MethodName) prog_11_method_4_code (2 : Nat) (Option.some Jvm.ClassFile.FieldType.int), Jvm.Cond.code ({ cls := "java/lang/String", name := "charAt", desc := "(I)C" } : Jvm.MethodName) jdk_42_method_56_code (2 : Nat) (Option.some Jvm.ClassFile.FieldType.char), Jvm.Cond.code ({ cls := "java/lang/String", name := "isLatin1", desc := "()Z" } : Jvm.MethodName) jdk_42_method_154_code (1 : Nat) (Option.some Jvm.ClassFile.FieldType.boolean), Jvm.Cond.code ({ cls := "java/lang/StringLatin1", name := "charAt", desc := "([BI)C" } : Jvm.MethodName) jdk_43_method_2_code (2 : Nat) (Option.some Jvm.ClassFile.FieldType.char), Jvm.Cond.code ({ cls := "java/lang/String", name := "checkIndex", desc := "(II)V" } : Jvm.MethodName) jdk_42_method_155_code (2 : Nat) (Option.none : Option Jvm.ClassFile.FieldType), Jvm.Cond.code ({ cls := "jdk/internal/util/Preconditions", name := "checkIndex", desc := "(IILjava/util/function/BiFunction;)I" } : Jvm.MethodName) jdk_41_method_11_code (3 : Nat) (Option.some Jvm.ClassFile.FieldType.int)]
set_option maxRecDepth 65536 in
theorem codes_eq : words1.filter isCode = codes1 := rfl
theorem w_codes : ∀ c ∈ words1.filter isCode, c.before args0 about1 = true := by
  rw [codes_eq]
  intro c hc
  simp only [codes1, List.mem_cons, List.not_mem_nil, or_false] at hc
  rcases hc with rfl | rfl | rfl | rfl | rfl | rfl | rfl
  · exact w_c0
  · exact w_c1
  · exact w_c2
  · exact w_c3
  · exact w_c4
  · exact w_c5
  · exact w_c6
set_option maxRecDepth 65536 in
theorem w_t1 : (words1.take 24).all (fun c => isCode c || c.before args0 about1) = true := by decide +kernel
set_option maxRecDepth 65536 in
theorem w_t2 : (words1.drop 24).all (fun c => isCode c || c.before args0 about1) = true := by decide +kernel
theorem w_tables : (allAtoms (Jvm.Cond.code x code maxLocals ret :: tables_1)).before args0 about1 = true := by
  rw [allAtoms_all]
  show words1.all (fun c => c.before args0 about1) = true
  refine all_split ?_ w_codes
  rw [← List.take_append_drop 24 words1, List.all_append, w_t1, w_t2]
  rfl
set_option maxRecDepth 65536 in
theorem w_rest : rest_1_c.before args0 about1 = true := by decide +kernel
set_option maxRecDepth 65536 in
theorem w_case : (Jvm.Cond.and given_1 narrow_1).before args0 about1 = true := by decide +kernel
set_option maxRecDepth 65536 in
theorem w_consts : constsHeld consts_1 about1 := Jvm.Lit.constsHeldB_iff.mp (by decide +kernel)
theorem w_applies : (headSpec (Jvm.Cond.code x code maxLocals ret :: tables_1) room_1).applies x e0.platform about1 = true :=
  (Spec.applies_iff w_frames).mpr ⟨w_running, w_runnable, w_alone, w_named, w_hears, w_ripe, w_room, w_tables⟩
theorem atStart : AtStart classFile x code maxLocals ret World_1 tables_1 room_1 Calls_1 rest_1 Pre_1 launch0 p0 e0 about1 theMethod args0 below0 :=
  ⟨lists_1, trivial, launch0.admits_env _ _ _, launch0.least_env, fairChoices_fair.cas, fairChoices_fair.clock, w_frames, w_args, w_heap, w_applies, ⟨w_consts, trivial⟩, w_rest, w_case⟩
end start1
theorem witness_1 : WitnessClaimed_1 := ⟨start1.p0, start1.e0, start1.about1, start1.theMethod, start1.args0, start1.below0, start1.atStart⟩
end Jvm.Pilot.@@N@@
