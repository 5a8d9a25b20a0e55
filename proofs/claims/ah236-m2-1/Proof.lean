import JvmDerived
import JvmDerived.Pilot.@@N@@Statement
import JvmDerived.Pilot.@@N@@Code
set_option linter.unusedVariables false
set_option linter.unusedSimpArgs false
namespace Jvm.RoadKit
open Sem ClassFile Op Lib Jvm.Stand Jvm.Free Jvm.LawKit
section New
variable {p : Program} {l : Launch} {e : Env} {R : Room} {s : State} {m : MethodId} {args : Array Value} {below : List Frame} {meth : Method} {c : Code} {T : State} {locs : List Loc} {cells slots : Nat}
theorem retI (X : Stand p l e R s m args below meth c T locs cells slots) (hx : p.tables.exec = Jvm.exec) {pc : Nat} {Ls : Array Slot} {z : Int32} {rest : List Value} (hret : meth.sig.returnType = some .int) (hd : decode c.code pc = .ok (.ireturn, 1)) {fs : List Frame}
    (hl : ∀ (f : JFrame) (acts : List Action), f.method = m → f.locked = none → f.entered = [] → (doReturn e (T.setTop f) acts (some (.int z))).1 = T.setFrames fs) : Steps p.tables e below (T.setTop (mkF m pc Ls (.int z :: rest))) (T.setFrames fs) := by
  have hm' : T.vm.method? m = some meth := X.method'
  have hn : narrow .int (.int z) = .int z := rfl
  show Steps p.tables e below (T.setTop { method := m, pc := pc, locals := Ls, stack := _ :: rest, locked := none }) _
  jvm_step X.here [X.here.top, hx, hd, hm', hret, hn]
  first | (intro acts; rw [hl _ acts rfl rfl rfl]) | rw [hl _ _ rfl rfl rfl]
  exact Steps.refl _
end New
end Jvm.RoadKit

@@BLOCK:NumsL.lean.txt@@

namespace Jvm.Pilot.@@N@@
open Jvm Jvm.ClassFile Sem Op Lib Jvm.Free Jvm.Stand Jvm.LawKit Jvm.RoadKit Bundle Jvm.Pilot.@@N@@.Jvm.D
def own_at (L : List Int32) (j : Int32) : Int32 := L.getD j.toNatClampNeg 0
theorem own_getD (L : List Int32) (i : Nat) : (L.map Value.int).getD i (.int (0 : Int32)) = .int (L.getD i 0) := by
  induction L generalizing i with
  | nil => rfl
  | cons a t ih => cases i with
    | zero => rfl
    | succ i => exact ih i

theorem own_eqI {a b : Int32} : a = b ↔ a.toInt = b.toInt := Int32.toInt_inj.symm
theorem own_ltI {a b : Int32} : a < b ↔ a.toInt < b.toInt := Int32.lt_iff_toInt_lt
theorem own_bd (a : Int32) : -2147483648 ≤ a.toInt ∧ a.toInt < 2147483648 := ⟨Int32.le_toInt a, Int32.toInt_lt a⟩

theorem d1_0 : decode prog_41_method_1_code 0 = .ok (.aload_n 0, 1) := by decide +kernel
theorem d1_1 : decode prog_41_method_1_code 1 = .ok (.invokespecial 1, 3) := by decide +kernel
theorem d1_4 : decode prog_41_method_1_code 4 = .ok (.aload_n 0, 1) := by decide +kernel
theorem d1_5 : decode prog_41_method_1_code 5 = .ok (.iconst 4, 1) := by decide +kernel
theorem d1_6 : decode prog_41_method_1_code 6 = .ok (.newarray .int, 2) := by decide +kernel
theorem d1_8 : decode prog_41_method_1_code 8 = .ok (.putfield 7, 3) := by decide +kernel
theorem d1_11 : decode prog_41_method_1_code 11 = .ok (.return_, 1) := by decide +kernel
theorem pn_1 : plainName "com/example/krel/krel/saturation/IntList" = true := by first | (simp [plainName, overriddenIn]; done) | decide +kernel
theorem ef_1 (m : MethodId) (a1 : Addr) : entryFrame m #[(.ref a1)] 1 = mkF m 0 #[.val (.ref a1)] [] := by first | (simp [entryFrame, mkF, argsToLocals, Value.category]; done) | rfl
def Q1 (Z : State) (a1 : Addr) (u_size_a1 : Value) (u_values_a1 : Value) (h0 : Heap) (n0 : Nat) (v : Option Value) (h : Heap) (L : List Loc) : Prop := ∃ (rb0 : Addr) (kb0 : ClassId) , v = none ∧ Fr n0 L ∧ n0 ≤ rb0 ∧ h0.size ≤ rb0 ∧ Keep h0 h [a1] ∧ Exa Z h a1 "com/example/krel/krel/saturation/IntList" ∧ Fld Z h a1 "com/example/krel/krel/saturation/IntList" "size" "I" u_size_a1 ∧ Fld Z h a1 "com/example/krel/krel/saturation/IntList" "values" "[I" (.ref rb0) ∧ Arv Z h rb0 kb0 .int (4 : Int32) [(.int (0 : Int32)), (.int (0 : Int32)), (.int (0 : Int32)), (.int (0 : Int32))] (.int (0 : Int32))
set_option maxRecDepth 65536 in
set_option maxHeartbeats 40000000 in
theorem rm1 (l : Launch) (Z : State) (a0 : Array Value) (hw : ∀ d ∈ tables_1, d.before a0 Z = true) (ws : List Jvm.Cond) (a1 : Addr) (u_size_a1 : Value) (u_values_a1 : Value) (h0 : Heap) (n0 : Nat) (Z0 : n0 ≤ h0.size) (E_a1 : Exa Z h0 a1 "com/example/krel/krel/saturation/IntList") (F_size_a1 : Fld Z h0 a1 "com/example/krel/krel/saturation/IntList" "size" "I" u_size_a1) (F_values_a1 : Fld Z h0 a1 "com/example/krel/krel/saturation/IntList" "values" "[I" u_values_a1) (g_a1 : n0 ≤ a1) :
    MetFree l (⟨"com/example/krel/krel/saturation/IntList", "<init>", "()V"⟩ : MethodName) (head1 (Jvm.Cond.code (⟨"com/example/krel/krel/saturation/IntList", "<init>", "()V"⟩ : MethodName) prog_41_method_1_code 1 none :: ws) ({ frames := 1, cells := 1, slots := 4, locals := 12 } : Room)) (fun a U => a = #[(.ref a1)] ∧ Z.Warmed39 U.vm ∧ U.heap = h0) (fun _ _ _ _ _ => True) (fun _ U o U' => ∃ v L, o = .returned v ∧ Q1 Z a1 u_size_a1 u_values_a1 h0 n0 v U'.heap L ∧ FrameEnd U o U' L ({ frames := 1, cells := 1, slots := 4, locals := 12 } : Room).cells ({ frames := 1, cells := 1, slots := 4, locals := 12 } : Room).slots) := by
  refine MetFree.of_bodySF (plainFor_of_name pn_1) hisR ?_
  intro p e s m args below meth c s₁ Bd hml0 hP hK
  obtain ⟨rfl, hZ, hh⟩ := hP
  have hx := Bd.exec
  have hby := Bd.bytes
  have hml : c.maxLocals = 1 := hml0
  have hown : s.vm.findClass "com/example/krel/krel/saturation/IntList" = some m.cls := findClass_of_methodNamed Bd.named
  have hnm := (name_of_methodNamed Bd.named Bd.method).1
  have X0 : Stand p l e ({ frames := 1, cells := 1, slots := 4, locals := 12 } : Room) s m #[(.ref a1)] below meth c s₁ [] 0 0 := Stand.of_body Bd
  have e0 : s₁.heap = h0 := by rw [← hh, Bd.state]; rfl
  have N0 := Fr.nil n0
  have pre0 : ∀ t, Steps p.tables e below (s₁.setTop (mkF m 0 #[.val (.ref a1)] [])) t → Steps p.tables e below (s₁.setTop (entryFrame m #[(.ref a1)] 1)) t := fun t k => castTop (ef_1 m a1) k
  obtain ⟨T1, X1, e1, st1⟩ := initO X0 hx hZ hown (hw _ (List.mem_of_getElem? (i := 6) rfl)) (hw _ (List.mem_of_getElem? (i := 7) rfl)) (hw _ (List.mem_of_getElem? (i := 8) rfl)) e0 (g := (mkF m 1 #[.val (.ref a1)] [(.ref a1)])) rfl (by rw [hml]; rfl) rfl (hb hby d1_1) (by decide) (W := 0) (by show 2 * 0 + _ ≤ _; exact Nat.le_of_eq rfl) (by decide)
  obtain ⟨b2, g2⟩ : ∃ z, z = h0.size := ⟨_, rfl⟩
  obtain ⟨T2, h2, k2, X2, e2, E2, A2, st2⟩ := newP X1 hx hZ (hw _ (List.mem_of_getElem? (i := 9) rfl)) e1 (g := (mkF m 6 #[.val (.ref a1)] [(.int (4 : Int32)), (.ref a1)])) rfl (hb hby d1_6) rfl (by decide) (cap := 4) (by decide) (by decide) (by decide) (by decide)
  rw [← g2] at A2 st2
  have g_b2 : n0 ≤ b2 := Nat.le_trans Z0 (Nat.le_of_eq g2.symm)
  have sz_b2 : h0.size ≤ b2 := Nat.le_trans (Keep.refl h0 ([] : List Addr)).1 (Nat.le_of_eq g2.symm)
  have ne_a1_b2 : a1 ≠ b2 := Nat.ne_of_lt (Nat.lt_of_lt_of_le E_a1.lt (Nat.le_of_eq g2.symm))
  have V2 : Arv Z h2 b2 k2 .int (4 : Int32) [(.int (0 : Int32)), (.int (0 : Int32)), (.int (0 : Int32)), (.int (0 : Int32))] (.int (0 : Int32)) := (Arv.new A2 (by decide)).pad (pad_rep [] (.int (0 : Int32)) 4)
  have q3 := (Exa.ext E2 E_a1)
  have q4 := (Fld.ext E2 F_values_a1)
  obtain ⟨T5, h5, X5, e5, W5, st5⟩ := putF X2 hx hZ hown (host := "") (Or.inl (hw _ (List.mem_of_getElem? (i := 10) rfl))) Via.refl e2 q4 q3 (Or.inl (hw _ (List.mem_of_getElem? (i := 11) rfl))) (hw _ (List.mem_of_getElem? (i := 1) rfl)) (ty := (.array .int)) (by decide) rfl rfl (g := (mkF m 8 #[.val (.ref a1)] [(.ref b2), (.ref a1)])) rfl rfl (hb hby d1_8)
  have Fw5 := Fld.same W5 q4
  have N5 := Fr.snoc X5 N0 g_a1
  have k6 : Keep h0 h5 [a1] := (((Keep.refl h0 [a1]).ext E2).wr W5 (Or.inl (by simp)))
  have q7 := (Exa.wr W5 q3)
  have q8 := (Fld.other W5 (Fld.ext E2 F_size_a1) (Or.inr (slot_ne (Or.inl (hw _ (List.mem_of_getElem? (i := 18) rfl))) (Or.inl (hw _ (List.mem_of_getElem? (i := 11) rfl))) (by decide) (t := .int) (t' := (.array .int)) (by decide) (by decide))))
  have q9 := (V2.other W5 (Ne.symm ne_a1_b2))
  obtain ⟨fs, hr, hrun, hended, hW, hsame⟩ := X5.leave (v := none) (fun _ => rfl)
  refine ⟨_, _, pre0 _ ?_, hrun, hended, _, _, rfl, ?_, ⟨_, rfl⟩, hW, hsame.mono (by decide) (by decide)⟩
  · show Steps p.tables e below (s₁.setTop (mkF m 0 #[.val (.ref a1)] [])) _
    refine XS.aloadN X0.here hx rfl (hb hby d1_0) rfl rfl ?_
    show Steps p.tables e below (s₁.setTop (mkF m 1 #[.val (.ref a1)] [(.ref a1)])) _
    refine st1 _ ?_
    show Steps p.tables e below (T1.setTop (mkF m 4 #[.val (.ref a1)] [])) _
    refine XS.aloadN X1.here hx rfl (hb hby d1_4) rfl rfl ?_
    show Steps p.tables e below (T1.setTop (mkF m 5 #[.val (.ref a1)] [(.ref a1)])) _
    refine XS.iconst X1.here hx rfl (hb hby d1_5) ?_
    show Steps p.tables e below (T1.setTop (mkF m 6 #[.val (.ref a1)] [(.int (4 : Int32)), (.ref a1)])) _
    refine st2 _ ?_
    show Steps p.tables e below (T2.setTop (mkF m 8 #[.val (.ref a1)] [(.ref b2), (.ref a1)])) _
    refine st5 _ ?_
    show Steps p.tables e below (T5.setTop (mkF m 11 #[.val (.ref a1)] [])) _
    exact X5.returnOut hx Bd.returns (hb hby d1_11) hr
  · show Q1 Z a1 u_size_a1 u_values_a1 h0 n0 _ T5.heap _
    rw [e5]
    exact ⟨b2, k2, rfl, N5, g_b2, sz_b2, k6, q7, q8, Fw5, q9⟩
theorem d5_0 : decode jdk_29_method_69_code 0 = .ok (.iload_n 0, 1) := by decide +kernel
theorem d5_1 : decode jdk_29_method_69_code 1 = .ok (.iload_n 1, 1) := by decide +kernel
theorem d5_2 : decode jdk_29_method_69_code 2 = .ok (.if_icmp .gt 7, 3) := by decide +kernel
theorem d5_5 : decode jdk_29_method_69_code 5 = .ok (.iload_n 0, 1) := by decide +kernel
theorem d5_6 : decode jdk_29_method_69_code 6 = .ok (.goto 4, 3) := by decide +kernel
theorem d5_9 : decode jdk_29_method_69_code 9 = .ok (.iload_n 1, 1) := by decide +kernel
theorem d5_10 : decode jdk_29_method_69_code 10 = .ok (.ireturn, 1) := by decide +kernel
theorem ef_5 (m : MethodId) (p1 : Int32) (p2 : Int32) : entryFrame m #[(.int p1), (.int p2)] 2 = mkF m 0 #[.val (.int p1), .val (.int p2)] [] := by first | (simp [entryFrame, mkF, argsToLocals, Value.category]; done) | rfl
def F5 (p1 : Int32) (p2 : Int32) : Int32 := (if p2 < p1 then p2 else p1)
def Q5 (Z : State) (p1 : Int32) (p2 : Int32) (h0 : Heap) (n0 : Nat) (v : Option Value) (h : Heap) (L : List Loc) : Prop := v = some (.int (F5 p1 p2)) ∧ Fr n0 L ∧ h = h0
set_option maxRecDepth 65536 in
set_option maxHeartbeats 40000000 in
theorem rm5 (l : Launch) (Z : State) (a0 : Array Value) (hw : ∀ d ∈ tables_1, d.before a0 Z = true) (ws : List Jvm.Cond) (p1 : Int32) (p2 : Int32) (h0 : Heap) (n0 : Nat) (Z0 : n0 ≤ h0.size) :
    MetFree l (⟨"java/lang/Math", "min", "(II)I"⟩ : MethodName) (head1 (Jvm.Cond.code (⟨"java/lang/Math", "min", "(II)I"⟩ : MethodName) jdk_29_method_69_code 2 (some .int) :: ws) ({ frames := 0, cells := 0, slots := 0, locals := 0 } : Room)) (fun a U => a = #[(.int p1), (.int p2)] ∧ Z.Warmed39 U.vm ∧ U.heap = h0) (fun _ _ _ _ _ => True) (fun _ U o U' => ∃ v L, o = .returned v ∧ Q5 Z p1 p2 h0 n0 v U'.heap L ∧ FrameEnd U o U' L ({ frames := 0, cells := 0, slots := 0, locals := 0 } : Room).cells ({ frames := 0, cells := 0, slots := 0, locals := 0 } : Room).slots) := by
  refine MetFree.of_bodySF (Jvm.Free.JP.mathPlain rfl (by decide +kernel)) hisR ?_
  intro p e s m args below meth c s₁ Bd hml0 hP hK
  obtain ⟨rfl, hZ, hh⟩ := hP
  have hx := Bd.exec
  have hby := Bd.bytes
  have hml : c.maxLocals = 2 := hml0
  have hown : s.vm.findClass "java/lang/Math" = some m.cls := findClass_of_methodNamed Bd.named
  have hnm := (name_of_methodNamed Bd.named Bd.method).1
  have X0 : Stand p l e ({ frames := 0, cells := 0, slots := 0, locals := 0 } : Room) s m #[(.int p1), (.int p2)] below meth c s₁ [] 0 0 := Stand.of_body Bd
  have e0 : s₁.heap = h0 := by rw [← hh, Bd.state]; rfl
  have N0 := Fr.nil n0
  have pre0 : ∀ t, Steps p.tables e below (s₁.setTop (mkF m 0 #[.val (.int p1), .val (.int p2)] [])) t → Steps p.tables e below (s₁.setTop (entryFrame m #[(.int p1), (.int p2)] 2)) t := fun t k => castTop (ef_5 m p1 p2) k
  have pre1 : ∀ t, Steps p.tables e below (s₁.setTop (mkF m 2 #[.val (.int p1), .val (.int p2)] [(.int p2), (.int p1)])) t → Steps p.tables e below (s₁.setTop (entryFrame m #[(.int p1), (.int p2)] 2)) t := fun t kt => by
    refine pre0 t ?_
    show Steps p.tables e below (s₁.setTop (mkF m 0 #[.val (.int p1), .val (.int p2)] [])) _
    refine XS.iloadN X0.here hx rfl (hb hby d5_0) rfl ?_
    show Steps p.tables e below (s₁.setTop (mkF m 1 #[.val (.int p1), .val (.int p2)] [(.int p1)])) _
    refine XS.iloadN X0.here hx rfl (hb hby d5_1) rfl ?_
    exact kt
  by_cases hc2 : p2 < p1
  · obtain ⟨fs, hr, hrun, hended, hW, hsame⟩ := X0.leave (v := some (.int p2)) (fun h => by rw [Bd.returns] at h; cases h)
    refine ⟨_, _, pre1 _ ?_, hrun, hended, _, _, rfl, ?_, ⟨_, rfl⟩, hW, hsame.mono (by decide) (by decide)⟩
    · show Steps p.tables e below (s₁.setTop (mkF m 2 #[.val (.int p1), .val (.int p2)] [(.int p2), (.int p1)])) _
      refine XS.icmpYes X0.here hx rfl (pc0 := 2) (pc' := 9) rfl (hb hby d5_2) rfl (tlt hc2).2.2.1 (by decide) (by decide) ?_
      show Steps p.tables e below (s₁.setTop (mkF m 9 #[.val (.int p1), .val (.int p2)] [])) _
      refine XS.iloadN X0.here hx rfl (hb hby d5_9) rfl ?_
      show Steps p.tables e below (s₁.setTop (mkF m 10 #[.val (.int p1), .val (.int p2)] [(.int p2)])) _
      exact retI X0 hx Bd.returns (hb hby d5_10) hr
    · show Q5 Z p1 p2 h0 n0 _ s₁.heap _
      rw [e0]
      refine ⟨?_, N0, rfl⟩
      show (some (.int p2) : Option Value) = some (.int (F5 p1 p2))
      rw [F5, if_pos hc2]
  · obtain ⟨fs, hr, hrun, hended, hW, hsame⟩ := X0.leave (v := some (.int p1)) (fun h => by rw [Bd.returns] at h; cases h)
    refine ⟨_, _, pre1 _ ?_, hrun, hended, _, _, rfl, ?_, ⟨_, rfl⟩, hW, hsame.mono (by decide) (by decide)⟩
    · show Steps p.tables e below (s₁.setTop (mkF m 2 #[.val (.int p1), .val (.int p2)] [(.int p2), (.int p1)])) _
      refine XS.icmpNo X0.here hx rfl (hb hby d5_2) rfl (flt hc2).2.2.1 ?_
      show Steps p.tables e below (s₁.setTop (mkF m 5 #[.val (.int p1), .val (.int p2)] [])) _
      refine XS.iloadN X0.here hx rfl (hb hby d5_5) rfl ?_
      show Steps p.tables e below (s₁.setTop (mkF m 6 #[.val (.int p1), .val (.int p2)] [(.int p1)])) _
      refine XS.goto X0.here hx rfl (pc0 := 6) (pc' := 10) rfl (hb hby d5_6) (by decide) (by decide) ?_
      show Steps p.tables e below (s₁.setTop (mkF m 10 #[.val (.int p1), .val (.int p2)] [(.int p1)])) _
      exact retI X0 hx Bd.returns (hb hby d5_10) hr
    · show Q5 Z p1 p2 h0 n0 _ s₁.heap _
      rw [e0]
      refine ⟨?_, N0, rfl⟩
      show (some (.int p1) : Option Value) = some (.int (F5 p1 p2))
      rw [F5, if_neg hc2]
theorem d4_0 : decode jdk_65_method_123_code 0 = .ok (.iload_n 1, 1) := by decide +kernel
theorem d4_1 : decode jdk_65_method_123_code 1 = .ok (.aload_n 0, 1) := by decide +kernel
theorem d4_2 : decode jdk_65_method_123_code 2 = .ok (.arraylength, 1) := by decide +kernel
theorem d4_3 : decode jdk_65_method_123_code 3 = .ok (.if_icmp .ne 11, 3) := by decide +kernel
theorem d4_14 : decode jdk_65_method_123_code 14 = .ok (.iload_n 1, 1) := by decide +kernel
theorem d4_15 : decode jdk_65_method_123_code 15 = .ok (.newarray .int, 2) := by decide +kernel
theorem d4_17 : decode jdk_65_method_123_code 17 = .ok (.astore_n 2, 1) := by decide +kernel
theorem d4_18 : decode jdk_65_method_123_code 18 = .ok (.aload_n 0, 1) := by decide +kernel
theorem d4_19 : decode jdk_65_method_123_code 19 = .ok (.iconst 0, 1) := by decide +kernel
theorem d4_20 : decode jdk_65_method_123_code 20 = .ok (.aload_n 2, 1) := by decide +kernel
theorem d4_21 : decode jdk_65_method_123_code 21 = .ok (.iconst 0, 1) := by decide +kernel
theorem d4_22 : decode jdk_65_method_123_code 22 = .ok (.aload_n 0, 1) := by decide +kernel
theorem d4_23 : decode jdk_65_method_123_code 23 = .ok (.arraylength, 1) := by decide +kernel
theorem d4_24 : decode jdk_65_method_123_code 24 = .ok (.iload_n 1, 1) := by decide +kernel
theorem d4_25 : decode jdk_65_method_123_code 25 = .ok (.invokestatic 304, 3) := by decide +kernel
theorem d4_28 : decode jdk_65_method_123_code 28 = .ok (.invokestatic 150, 3) := by decide +kernel
theorem d4_31 : decode jdk_65_method_123_code 31 = .ok (.aload_n 2, 1) := by decide +kernel
theorem d4_32 : decode jdk_65_method_123_code 32 = .ok (.areturn, 1) := by decide +kernel
theorem pn_4 : plainName "java/util/Arrays" = true := by first | (simp [plainName, overriddenIn]; done) | decide +kernel
theorem pd_4_3 : parseMethodDescriptor "(II)I" = some ⟨[.int, .int], some .int⟩ := by decide +kernel
theorem ef_4 (m : MethodId) (a1 : Addr) : entryFrame m #[(.ref a1), (.int (8 : Int32))] 3 = mkF m 0 #[.val (.ref a1), .val (.int (8 : Int32)), .unset] [] := by first | (simp [entryFrame, mkF, argsToLocals, Value.category]; done) | rfl
def Q4 (Z : State) (a1 : Addr) (k_a1 : ClassId) (e_a1_0 : Int32) (e_a1_1 : Int32) (e_a1_2 : Int32) (e_a1_3 : Int32) (h0 : Heap) (n0 : Nat) (v : Option Value) (h : Heap) (L : List Loc) : Prop := ∃ (rb0 : Addr) (kb0 : ClassId) , v = some (.ref rb0) ∧ Fr n0 L ∧ n0 ≤ rb0 ∧ h0.size ≤ rb0 ∧ Keep h0 h [] ∧ Arv Z h rb0 kb0 .int (8 : Int32) [(.int e_a1_0), (.int e_a1_1), (.int e_a1_2), (.int e_a1_3), (.int (0 : Int32)), (.int (0 : Int32)), (.int (0 : Int32)), (.int (0 : Int32))] (.int (0 : Int32))
set_option maxRecDepth 65536 in
set_option maxHeartbeats 40000000 in
theorem rm4 (l : Launch) (Z : State) (a0 : Array Value) (hw : ∀ d ∈ tables_1, d.before a0 Z = true) (ws : List Jvm.Cond) (a1 : Addr) (k_a1 : ClassId) (e_a1_0 : Int32) (e_a1_1 : Int32) (e_a1_2 : Int32) (e_a1_3 : Int32) (h0 : Heap) (n0 : Nat) (Z0 : n0 ≤ h0.size) (V_a1 : Arv Z h0 a1 k_a1 .int (4 : Int32) [(.int e_a1_0), (.int e_a1_1), (.int e_a1_2), (.int e_a1_3)] (.int (0 : Int32))) :
    MetFree l (⟨"java/util/Arrays", "copyOf", "([II)[I"⟩ : MethodName) (head1 (Jvm.Cond.code (⟨"java/util/Arrays", "copyOf", "([II)[I"⟩ : MethodName) jdk_65_method_123_code 3 (some (.array .int)) :: ws) ({ frames := 1, cells := 1, slots := 8, locals := 51 } : Room)) (fun a U => a = #[(.ref a1), (.int (8 : Int32))] ∧ Z.Warmed39 U.vm ∧ U.heap = h0) (fun _ _ _ _ _ => True) (fun _ U o U' => ∃ v L, o = .returned v ∧ Q4 Z a1 k_a1 e_a1_0 e_a1_1 e_a1_2 e_a1_3 h0 n0 v U'.heap L ∧ FrameEnd U o U' L ({ frames := 1, cells := 1, slots := 8, locals := 51 } : Room).cells ({ frames := 1, cells := 1, slots := 8, locals := 51 } : Room).slots) := by
  refine MetFree.of_bodySF (plainFor_of_name pn_4) hisR ?_
  intro p e s m args below meth c s₁ Bd hml0 hP hK
  obtain ⟨rfl, hZ, hh⟩ := hP
  have hx := Bd.exec
  have hby := Bd.bytes
  have hml : c.maxLocals = 3 := hml0
  have hown : s.vm.findClass "java/util/Arrays" = some m.cls := findClass_of_methodNamed Bd.named
  have hnm := (name_of_methodNamed Bd.named Bd.method).1
  have X0 : Stand p l e ({ frames := 1, cells := 1, slots := 8, locals := 51 } : Room) s m #[(.ref a1), (.int (8 : Int32))] below meth c s₁ [] 0 0 := Stand.of_body Bd
  have e0 : s₁.heap = h0 := by rw [← hh, Bd.state]; rfl
  have N0 := Fr.nil n0
  have pre0 : ∀ t, Steps p.tables e below (s₁.setTop (mkF m 0 #[.val (.ref a1), .val (.int (8 : Int32)), .unset] [])) t → Steps p.tables e below (s₁.setTop (entryFrame m #[(.ref a1), (.int (8 : Int32))] 3)) t := fun t k => castTop (ef_4 m a1) k
  obtain ⟨cl1, Ar1, q1, S1, M1, H1, G1⟩ := id V_a1
  obtain ⟨b2, g2⟩ : ∃ z, z = h0.size := ⟨_, rfl⟩
  obtain ⟨T2, h2, k2, X2, e2, E2, A2, st2⟩ := newP X0 hx hZ (hw _ (List.mem_of_getElem? (i := 9) rfl)) e0 (g := (mkF m 15 #[.val (.ref a1), .val (.int (8 : Int32)), .unset] [(.int (8 : Int32))])) rfl (hb hby d4_15) rfl (by decide) (cap := 8) (by decide) (by decide) (by decide) (by decide)
  rw [← g2] at A2 st2
  have g_b2 : n0 ≤ b2 := Nat.le_trans Z0 (Nat.le_of_eq g2.symm)
  have sz_b2 : h0.size ≤ b2 := Nat.le_trans (Keep.refl h0 ([] : List Addr)).1 (Nat.le_of_eq g2.symm)
  have ne_a1_b2 : a1 ≠ b2 := Nat.ne_of_lt (Nat.lt_of_lt_of_le V_a1.lt (Nat.le_of_eq g2.symm))
  have V2 : Arv Z h2 b2 k2 .int (8 : Int32) [(.int (0 : Int32)), (.int (0 : Int32)), (.int (0 : Int32)), (.int (0 : Int32)), (.int (0 : Int32)), (.int (0 : Int32)), (.int (0 : Int32)), (.int (0 : Int32))] (.int (0 : Int32)) := (Arv.new A2 (by decide)).pad (pad_rep [] (.int (0 : Int32)) 8)
  have q3 := (V_a1.ext E2)
  obtain ⟨cl4, Ar4, q4, S4, M4, H4, G4⟩ := id q3
  have z6 : n0 ≤ h2.size := (Nat.le_trans Z0 E2.1)
  obtain ⟨_, _, ⟨T5, L5, k5, n5⟩, -, X5, ⟨Lc5, hQ5, l5, y5, z5⟩, st5⟩ := Jvm.LawKit.callS X2 hx (y := (⟨"java/lang/Math", "min", "(II)I"⟩ : MethodName)) hown (mvT hZ (hw _ (List.mem_of_getElem? (i := 23) rfl))) (mvT hZ (hw _ (List.mem_of_getElem? (i := 24) rfl))) (mvT hZ (hw _ (List.mem_of_getElem? (i := 25) rfl))) (mvT hZ (hw _ (List.mem_of_getElem? (i := 26) rfl))) (by decide) (backOf (W := 4) (rm5 l Z a0 hw [] (4 : Int32) (8 : Int32) h2 n0 z6) hZ (hw _ (List.mem_of_getElem? (i := 26) rfl)) (hw _ (List.mem_of_getElem? (i := 25) rfl)) (by decide) (by decide)) (g := (mkF m 25 #[.val (.ref a1), .val (.int (8 : Int32)), .val (.ref b2)] [(.int (8 : Int32)), (.int (4 : Int32)), (.int (0 : Int32)), (.ref b2), (.int (0 : Int32)), (.ref a1)])) rfl (by rw [hml]; rfl) (argsL := [(.int (4 : Int32)), (.int (8 : Int32))]) (rest := [(.int (0 : Int32)), (.ref b2), (.int (0 : Int32)), (.ref a1)]) (lenOf pd_4_3 rfl) rfl (by show 2 * 0 + _ ≤ _; exact Nat.le_of_eq rfl) (hb hby d4_25) (fun _ _ => ⟨rfl, e2, (by decide : 1 + 0 ≤ _), (by decide : 8 + 0 ≤ _)⟩)
  dsimp only [Pt.U, Pt.locs, Pt.cells, Pt.slots] at X5 l5 y5 z5 st5 hQ5
  subst l5 y5 z5
  obtain ⟨rfl, N5q, e5⟩ := hQ5
  rw [show (F5 (4 : Int32) (8 : Int32)) = (4 : Int32) from by decide] at st5
  have N5 := Fr.app N0 N5q
  obtain ⟨T7, h7, L7, X7, e7, N7, K7, V7', st7⟩ := cpA X5 hx hZ hown (hw _ (List.mem_of_getElem? (i := 27) rfl)) (hw _ (List.mem_of_getElem? (i := 30) rfl)) (hw _ (List.mem_of_getElem? (i := 28) rfl)) (hw _ (List.mem_of_getElem? (i := 29) rfl)) e5 q3 V2 (us := [(.int e_a1_0), (.int e_a1_1), (.int e_a1_2), (.int e_a1_3)]) (Or.inl ⟨rfl, rfl⟩) (by decide) (by decide) (by decide) (by decide) (by decide) rfl (by decide) N5 g_b2 (g := (mkF m 28 #[.val (.ref a1), .val (.int (8 : Int32)), .val (.ref b2)] [(.int (4 : Int32)), (.int (0 : Int32)), (.ref b2), (.int (0 : Int32)), (.ref a1)])) rfl (by rw [hml]; rfl) rfl (hb hby d4_28) (by decide) (W := 0) (by show 2 * 0 + _ ≤ _; exact Nat.le_of_eq rfl) (by decide)
  have V7 : Arv Z h7 b2 k2 .int (8 : Int32) [(.int e_a1_0), (.int e_a1_1), (.int e_a1_2), (.int e_a1_3), (.int (0 : Int32)), (.int (0 : Int32)), (.int (0 : Int32)), (.int (0 : Int32))] (.int (0 : Int32)) := V7'
  have k8 : Keep h0 h7 [] := (((Keep.refl h0 []).ext E2).trans K7 (allS (Or.inr sz_b2) all0))
  obtain ⟨fs, hr, hrun, hended, hW, hsame⟩ := X7.leave (v := some (.ref b2)) (fun h => by rw [Bd.returns] at h; cases h)
  refine ⟨_, _, pre0 _ ?_, hrun, hended, _, _, rfl, ?_, ⟨_, rfl⟩, hW, hsame.mono (by decide) (by decide)⟩
  · show Steps p.tables e below (s₁.setTop (mkF m 0 #[.val (.ref a1), .val (.int (8 : Int32)), .unset] [])) _
    refine XS.iloadN X0.here hx rfl (hb hby d4_0) rfl ?_
    show Steps p.tables e below (s₁.setTop (mkF m 1 #[.val (.ref a1), .val (.int (8 : Int32)), .unset] [(.int (8 : Int32))])) _
    refine XS.aloadN X0.here hx rfl (hb hby d4_1) rfl rfl ?_
    show Steps p.tables e below (s₁.setTop (mkF m 2 #[.val (.ref a1), .val (.int (8 : Int32)), .unset] [(.ref a1), (.int (8 : Int32))])) _
    refine X0.arraylength hx (by rw [e0]; exact Ar1.1) (State.isArrayOf_alike hZ.alike Ar1.2.1) (g := (mkF m 2 #[.val (.ref a1), .val (.int (8 : Int32)), .unset] [(.ref a1), (.int (8 : Int32))])) rfl rfl (hb hby d4_2) _ ?_
    rw [len_of S1 M1]
    show Steps p.tables e below (s₁.setTop (mkF m 3 #[.val (.ref a1), .val (.int (8 : Int32)), .unset] [(.int (4 : Int32)), (.int (8 : Int32))])) _
    refine XS.icmpYes X0.here hx rfl (pc0 := 3) (pc' := 14) rfl (hb hby d4_3) rfl (feq (by decide : ¬ ((8 : Int32) = (4 : Int32)))).2 (by decide) (by decide) ?_
    show Steps p.tables e below (s₁.setTop (mkF m 14 #[.val (.ref a1), .val (.int (8 : Int32)), .unset] [])) _
    refine XS.iloadN X0.here hx rfl (hb hby d4_14) rfl ?_
    show Steps p.tables e below (s₁.setTop (mkF m 15 #[.val (.ref a1), .val (.int (8 : Int32)), .unset] [(.int (8 : Int32))])) _
    refine st2 _ ?_
    show Steps p.tables e below (T2.setTop (mkF m 17 #[.val (.ref a1), .val (.int (8 : Int32)), .unset] [(.ref b2)])) _
    refine XS.astoreN X2.here hx rfl (hb hby d4_17) rfl rfl (l' := #[.val (.ref a1), .val (.int (8 : Int32)), .val (.ref b2)]) rfl ?_
    show Steps p.tables e below (T2.setTop (mkF m 18 #[.val (.ref a1), .val (.int (8 : Int32)), .val (.ref b2)] [])) _
    refine XS.aloadN X2.here hx rfl (hb hby d4_18) rfl rfl ?_
    show Steps p.tables e below (T2.setTop (mkF m 19 #[.val (.ref a1), .val (.int (8 : Int32)), .val (.ref b2)] [(.ref a1)])) _
    refine XS.iconst X2.here hx rfl (hb hby d4_19) ?_
    show Steps p.tables e below (T2.setTop (mkF m 20 #[.val (.ref a1), .val (.int (8 : Int32)), .val (.ref b2)] [(.int (0 : Int32)), (.ref a1)])) _
    refine XS.aloadN X2.here hx rfl (hb hby d4_20) rfl rfl ?_
    show Steps p.tables e below (T2.setTop (mkF m 21 #[.val (.ref a1), .val (.int (8 : Int32)), .val (.ref b2)] [(.ref b2), (.int (0 : Int32)), (.ref a1)])) _
    refine XS.iconst X2.here hx rfl (hb hby d4_21) ?_
    show Steps p.tables e below (T2.setTop (mkF m 22 #[.val (.ref a1), .val (.int (8 : Int32)), .val (.ref b2)] [(.int (0 : Int32)), (.ref b2), (.int (0 : Int32)), (.ref a1)])) _
    refine XS.aloadN X2.here hx rfl (hb hby d4_22) rfl rfl ?_
    show Steps p.tables e below (T2.setTop (mkF m 23 #[.val (.ref a1), .val (.int (8 : Int32)), .val (.ref b2)] [(.ref a1), (.int (0 : Int32)), (.ref b2), (.int (0 : Int32)), (.ref a1)])) _
    refine X2.arraylength hx (by rw [e2]; exact Ar4.1) (State.isArrayOf_alike hZ.alike Ar4.2.1) (g := (mkF m 23 #[.val (.ref a1), .val (.int (8 : Int32)), .val (.ref b2)] [(.ref a1), (.int (0 : Int32)), (.ref b2), (.int (0 : Int32)), (.ref a1)])) rfl rfl (hb hby d4_23) _ ?_
    rw [len_of S4 M4]
    show Steps p.tables e below (T2.setTop (mkF m 24 #[.val (.ref a1), .val (.int (8 : Int32)), .val (.ref b2)] [(.int (4 : Int32)), (.int (0 : Int32)), (.ref b2), (.int (0 : Int32)), (.ref a1)])) _
    refine XS.iloadN X2.here hx rfl (hb hby d4_24) rfl ?_
    show Steps p.tables e below (T2.setTop (mkF m 25 #[.val (.ref a1), .val (.int (8 : Int32)), .val (.ref b2)] [(.int (8 : Int32)), (.int (4 : Int32)), (.int (0 : Int32)), (.ref b2), (.int (0 : Int32)), (.ref a1)])) _
    refine st5 _ ?_
    show Steps p.tables e below (T5.setTop (mkF m 28 #[.val (.ref a1), .val (.int (8 : Int32)), .val (.ref b2)] [(.int (4 : Int32)), (.int (0 : Int32)), (.ref b2), (.int (0 : Int32)), (.ref a1)])) _
    refine st7 _ ?_
    show Steps p.tables e below (T7.setTop (mkF m 31 #[.val (.ref a1), .val (.int (8 : Int32)), .val (.ref b2)] [])) _
    refine XS.aloadN X7.here hx rfl (hb hby d4_31) rfl rfl ?_
    show Steps p.tables e below (T7.setTop (mkF m 32 #[.val (.ref a1), .val (.int (8 : Int32)), .val (.ref b2)] [(.ref b2)])) _
    jvm_step X7.here [X7.here.top, hx, (hb hby d4_32), X7.method', Bd.returns, Value.isRef, FieldType.isReference]
    first | (intro acts; rw [hr _ acts rfl rfl rfl]) | rw [hr _ _ rfl rfl rfl]
    exact Steps.refl _
  · show Q4 Z a1 k_a1 e_a1_0 e_a1_1 e_a1_2 e_a1_3 h0 n0 _ T7.heap _
    rw [e7]
    exact ⟨b2, k2, rfl, N7, g_b2, sz_b2, k8, V7⟩
theorem d3_0 : decode prog_41_method_2_code 0 = .ok (.aload_n 0, 1) := by decide +kernel
theorem d3_1 : decode prog_41_method_2_code 1 = .ok (.getfield 13, 3) := by decide +kernel
theorem d3_4 : decode prog_41_method_2_code 4 = .ok (.aload_n 0, 1) := by decide +kernel
theorem d3_5 : decode prog_41_method_2_code 5 = .ok (.getfield 7, 3) := by decide +kernel
theorem d3_8 : decode prog_41_method_2_code 8 = .ok (.arraylength, 1) := by decide +kernel
theorem d3_9 : decode prog_41_method_2_code 9 = .ok (.if_icmp .ne 20, 3) := by decide +kernel
theorem d3_29 : decode prog_41_method_2_code 29 = .ok (.aload_n 0, 1) := by decide +kernel
theorem d3_30 : decode prog_41_method_2_code 30 = .ok (.getfield 7, 3) := by decide +kernel
theorem d3_33 : decode prog_41_method_2_code 33 = .ok (.aload_n 0, 1) := by decide +kernel
theorem d3_34 : decode prog_41_method_2_code 34 = .ok (.dup, 1) := by decide +kernel
theorem d3_35 : decode prog_41_method_2_code 35 = .ok (.getfield 13, 3) := by decide +kernel
theorem d3_38 : decode prog_41_method_2_code 38 = .ok (.dup_x1, 1) := by decide +kernel
theorem d3_39 : decode prog_41_method_2_code 39 = .ok (.iconst 1, 1) := by decide +kernel
theorem d3_40 : decode prog_41_method_2_code 40 = .ok (.iadd, 1) := by decide +kernel
theorem d3_41 : decode prog_41_method_2_code 41 = .ok (.putfield 13, 3) := by decide +kernel
theorem d3_44 : decode prog_41_method_2_code 44 = .ok (.iload_n 1, 1) := by decide +kernel
theorem d3_45 : decode prog_41_method_2_code 45 = .ok (.iastore, 1) := by decide +kernel
theorem d3_46 : decode prog_41_method_2_code 46 = .ok (.return_, 1) := by decide +kernel
theorem pn_3 : plainName "com/example/krel/krel/saturation/IntList" = true := by first | (simp [plainName, overriddenIn]; done) | decide +kernel
theorem ef_3 (m : MethodId) (a1 : Addr) (p2 : Int32) : entryFrame m #[(.ref a1), (.int p2)] 2 = mkF m 0 #[.val (.ref a1), .val (.int p2)] [] := by first | (simp [entryFrame, mkF, argsToLocals, Value.category]; done) | rfl
def Q3 (Z : State) (a1 : Addr) (p2 : Int32) (c1 : Addr) (k_c1 : ClassId) (e_c1_0 : Int32) (e_c1_1 : Int32) (e_c1_2 : Int32) (e_c1_3 : Int32) (h0 : Heap) (n0 : Nat) (v : Option Value) (h : Heap) (L : List Loc) : Prop := v = none ∧ Fr n0 L ∧ Keep h0 h [a1, c1] ∧ Exa Z h a1 "com/example/krel/krel/saturation/IntList" ∧ Fld Z h a1 "com/example/krel/krel/saturation/IntList" "size" "I" (.int (1 : Int32)) ∧ Fld Z h a1 "com/example/krel/krel/saturation/IntList" "values" "[I" (.ref c1) ∧ Arv Z h c1 k_c1 .int (4 : Int32) [(.int p2), (.int e_c1_1), (.int e_c1_2), (.int e_c1_3)] (.int (0 : Int32))
set_option maxRecDepth 65536 in
set_option maxHeartbeats 40000000 in
theorem rm3 (l : Launch) (Z : State) (a0 : Array Value) (hw : ∀ d ∈ tables_1, d.before a0 Z = true) (ws : List Jvm.Cond) (a1 : Addr) (p2 : Int32) (c1 : Addr) (k_c1 : ClassId) (e_c1_0 : Int32) (e_c1_1 : Int32) (e_c1_2 : Int32) (e_c1_3 : Int32) (h0 : Heap) (n0 : Nat) (Z0 : n0 ≤ h0.size) (E_a1 : Exa Z h0 a1 "com/example/krel/krel/saturation/IntList") (F_size_a1 : Fld Z h0 a1 "com/example/krel/krel/saturation/IntList" "size" "I" (.int (0 : Int32))) (F_values_a1 : Fld Z h0 a1 "com/example/krel/krel/saturation/IntList" "values" "[I" (.ref c1)) (V_c1 : Arv Z h0 c1 k_c1 .int (4 : Int32) [(.int e_c1_0), (.int e_c1_1), (.int e_c1_2), (.int e_c1_3)] (.int (0 : Int32))) (g_a1 : n0 ≤ a1) (ne_c1_a1 : c1 ≠ a1) (g_c1 : n0 ≤ c1) :
    MetFree l (⟨"com/example/krel/krel/saturation/IntList", "add", "(I)V"⟩ : MethodName) (head1 (Jvm.Cond.code (⟨"com/example/krel/krel/saturation/IntList", "add", "(I)V"⟩ : MethodName) prog_41_method_2_code 2 none :: ws) ({ frames := 0, cells := 0, slots := 0, locals := 0 } : Room)) (fun a U => a = #[(.ref a1), (.int p2)] ∧ Z.Warmed39 U.vm ∧ U.heap = h0) (fun _ _ _ _ _ => True) (fun _ U o U' => ∃ v L, o = .returned v ∧ Q3 Z a1 p2 c1 k_c1 e_c1_0 e_c1_1 e_c1_2 e_c1_3 h0 n0 v U'.heap L ∧ FrameEnd U o U' L ({ frames := 0, cells := 0, slots := 0, locals := 0 } : Room).cells ({ frames := 0, cells := 0, slots := 0, locals := 0 } : Room).slots) := by
  refine MetFree.of_bodySF (plainFor_of_name pn_3) hisR ?_
  intro p e s m args below meth c s₁ Bd hml0 hP hK
  obtain ⟨rfl, hZ, hh⟩ := hP
  have hx := Bd.exec
  have hby := Bd.bytes
  have hml : c.maxLocals = 2 := hml0
  have hown : s.vm.findClass "com/example/krel/krel/saturation/IntList" = some m.cls := findClass_of_methodNamed Bd.named
  have hnm := (name_of_methodNamed Bd.named Bd.method).1
  have X0 : Stand p l e ({ frames := 0, cells := 0, slots := 0, locals := 0 } : Room) s m #[(.ref a1), (.int p2)] below meth c s₁ [] 0 0 := Stand.of_body Bd
  have e0 : s₁.heap = h0 := by rw [← hh, Bd.state]; rfl
  have N0 := Fr.nil n0
  have pre0 : ∀ t, Steps p.tables e below (s₁.setTop (mkF m 0 #[.val (.ref a1), .val (.int p2)] [])) t → Steps p.tables e below (s₁.setTop (entryFrame m #[(.ref a1), (.int p2)] 2)) t := fun t k => castTop (ef_3 m a1 p2) k
  obtain ⟨T1, X1, e1, st1⟩ := getF X0 hx hZ hown (host := "") (Or.inl (hw _ (List.mem_of_getElem? (i := 17) rfl))) Via.refl e0 F_size_a1 (g := (mkF m 1 #[.val (.ref a1), .val (.int p2)] [(.ref a1)])) rfl rfl (hb hby d3_1)
  obtain ⟨T2, X2, e2, st2⟩ := getF X1 hx hZ hown (host := "") (Or.inl (hw _ (List.mem_of_getElem? (i := 10) rfl))) Via.refl e1 F_values_a1 (g := (mkF m 5 #[.val (.ref a1), .val (.int p2)] [(.ref a1), (.int (0 : Int32))])) rfl rfl (hb hby d3_5)
  obtain ⟨cl3, Ar3, q3, S3, M3, H3, G3⟩ := id V_c1
  obtain ⟨T4, X4, e4, st4⟩ := getF X2 hx hZ hown (host := "") (Or.inl (hw _ (List.mem_of_getElem? (i := 10) rfl))) Via.refl e2 F_values_a1 (g := (mkF m 30 #[.val (.ref a1), .val (.int p2)] [(.ref a1)])) rfl rfl (hb hby d3_30)
  obtain ⟨T5, X5, e5, st5⟩ := getF X4 hx hZ hown (host := "") (Or.inl (hw _ (List.mem_of_getElem? (i := 17) rfl))) Via.refl e4 F_size_a1 (g := (mkF m 35 #[.val (.ref a1), .val (.int p2)] [(.ref a1), (.ref a1), (.ref c1)])) rfl rfl (hb hby d3_35)
  obtain ⟨T6, h6, X6, e6, W6, st6⟩ := putF X5 hx hZ hown (host := "") (Or.inl (hw _ (List.mem_of_getElem? (i := 17) rfl))) Via.refl e5 F_size_a1 E_a1 (Or.inl (hw _ (List.mem_of_getElem? (i := 18) rfl))) (hw _ (List.mem_of_getElem? (i := 1) rfl)) (ty := .int) (by decide) rfl rfl (g := (mkF m 41 #[.val (.ref a1), .val (.int p2)] [(.int (1 : Int32)), (.ref a1), (.int (0 : Int32)), (.ref c1)])) rfl rfl (hb hby d3_41)
  have Fw6 := Fld.same W6 F_size_a1
  have N6 := Fr.snoc X6 N0 g_a1
  have q7 := (V_c1.other W6 ne_c1_a1)
  obtain ⟨cl8, Ar8, q8, S8, M8, H8, G8⟩ := id q7
  have hin8 : ¬ ((0 : Int32) < 0 ∨ cl8.slots.size ≤ ((0 : Int32)).toNatClampNeg) := inb_of S8 ⟨by decide, by decide⟩
  obtain ⟨T8, h8, X8, e8, W8, st8⟩ := stI X6 hx hZ e6 Ar8 (j := (0 : Int32)) hin8 (g := (mkF m 45 #[.val (.ref a1), .val (.int p2)] [(.int p2), (.int (0 : Int32)), (.ref c1)])) rfl rfl (hb hby d3_45)
  have V8 : Arv Z h8 c1 k_c1 .int (4 : Int32) [(.int p2), (.int e_c1_1), (.int e_c1_2), (.int e_c1_3)] (.int (0 : Int32)) := Arv.set Ar8 q8 S8 M8 H8 G8 rfl W8 0 rfl (Nat.le_of_ble_eq_true rfl)
  have N8 := Fr.snoc X8 N6 g_c1
  have k9 : Keep h0 h8 [a1, c1] := (((Keep.refl h0 [a1, c1]).wr W6 (Or.inl (by simp))).wr W8 (Or.inl (by simp)))
  have q10 := (Exa.wr W8 (Exa.wr W6 E_a1))
  have q11 := (Fld.other W8 Fw6 (Or.inl (Ne.symm ne_c1_a1)))
  have q12 := (Fld.other W8 (Fld.other W6 F_values_a1 (Or.inr (slot_ne (Or.inl (hw _ (List.mem_of_getElem? (i := 11) rfl))) (Or.inl (hw _ (List.mem_of_getElem? (i := 18) rfl))) (by decide) (t := (.array .int)) (t' := .int) (by decide) (by decide)))) (Or.inl (Ne.symm ne_c1_a1)))
  obtain ⟨fs, hr, hrun, hended, hW, hsame⟩ := X8.leave (v := none) (fun _ => rfl)
  refine ⟨_, _, pre0 _ ?_, hrun, hended, _, _, rfl, ?_, ⟨_, rfl⟩, hW, hsame.mono (by decide) (by decide)⟩
  · show Steps p.tables e below (s₁.setTop (mkF m 0 #[.val (.ref a1), .val (.int p2)] [])) _
    refine XS.aloadN X0.here hx rfl (hb hby d3_0) rfl rfl ?_
    show Steps p.tables e below (s₁.setTop (mkF m 1 #[.val (.ref a1), .val (.int p2)] [(.ref a1)])) _
    refine st1 _ ?_
    show Steps p.tables e below (T1.setTop (mkF m 4 #[.val (.ref a1), .val (.int p2)] [(.int (0 : Int32))])) _
    refine XS.aloadN X1.here hx rfl (hb hby d3_4) rfl rfl ?_
    show Steps p.tables e below (T1.setTop (mkF m 5 #[.val (.ref a1), .val (.int p2)] [(.ref a1), (.int (0 : Int32))])) _
    refine st2 _ ?_
    show Steps p.tables e below (T2.setTop (mkF m 8 #[.val (.ref a1), .val (.int p2)] [(.ref c1), (.int (0 : Int32))])) _
    refine X2.arraylength hx (by rw [e2]; exact Ar3.1) (State.isArrayOf_alike hZ.alike Ar3.2.1) (g := (mkF m 8 #[.val (.ref a1), .val (.int p2)] [(.ref c1), (.int (0 : Int32))])) rfl rfl (hb hby d3_8) _ ?_
    rw [len_of S3 M3]
    show Steps p.tables e below (T2.setTop (mkF m 9 #[.val (.ref a1), .val (.int p2)] [(.int (4 : Int32)), (.int (0 : Int32))])) _
    refine XS.icmpYes X2.here hx rfl (pc0 := 9) (pc' := 29) rfl (hb hby d3_9) rfl (feq (by decide : ¬ ((0 : Int32) = (4 : Int32)))).2 (by decide) (by decide) ?_
    show Steps p.tables e below (T2.setTop (mkF m 29 #[.val (.ref a1), .val (.int p2)] [])) _
    refine XS.aloadN X2.here hx rfl (hb hby d3_29) rfl rfl ?_
    show Steps p.tables e below (T2.setTop (mkF m 30 #[.val (.ref a1), .val (.int p2)] [(.ref a1)])) _
    refine st4 _ ?_
    show Steps p.tables e below (T4.setTop (mkF m 33 #[.val (.ref a1), .val (.int p2)] [(.ref c1)])) _
    refine XS.aloadN X4.here hx rfl (hb hby d3_33) rfl rfl ?_
    show Steps p.tables e below (T4.setTop (mkF m 34 #[.val (.ref a1), .val (.int p2)] [(.ref a1), (.ref c1)])) _
    refine XS.dup X4.here hx rfl (hb hby d3_34) rfl rfl ?_
    show Steps p.tables e below (T4.setTop (mkF m 35 #[.val (.ref a1), .val (.int p2)] [(.ref a1), (.ref a1), (.ref c1)])) _
    refine st5 _ ?_
    show Steps p.tables e below (T5.setTop (mkF m 38 #[.val (.ref a1), .val (.int p2)] [(.int (0 : Int32)), (.ref a1), (.ref c1)])) _
    refine XS.dupX1 X5.here hx rfl (hb hby d3_38) rfl rfl rfl ?_
    show Steps p.tables e below (T5.setTop (mkF m 39 #[.val (.ref a1), .val (.int p2)] [(.int (0 : Int32)), (.ref a1), (.int (0 : Int32)), (.ref c1)])) _
    refine XS.iconst X5.here hx rfl (hb hby d3_39) ?_
    show Steps p.tables e below (T5.setTop (mkF m 40 #[.val (.ref a1), .val (.int p2)] [(.int (1 : Int32)), (.int (0 : Int32)), (.ref a1), (.int (0 : Int32)), (.ref c1)])) _
    refine XS.iadd X5.here hx rfl (hb hby d3_40) rfl ?_
    show Steps p.tables e below (T5.setTop (mkF m 41 #[.val (.ref a1), .val (.int p2)] [(.int (1 : Int32)), (.ref a1), (.int (0 : Int32)), (.ref c1)])) _
    refine st6 _ ?_
    show Steps p.tables e below (T6.setTop (mkF m 44 #[.val (.ref a1), .val (.int p2)] [(.int (0 : Int32)), (.ref c1)])) _
    refine XS.iloadN X6.here hx rfl (hb hby d3_44) rfl ?_
    show Steps p.tables e below (T6.setTop (mkF m 45 #[.val (.ref a1), .val (.int p2)] [(.int p2), (.int (0 : Int32)), (.ref c1)])) _
    refine st8 _ ?_
    show Steps p.tables e below (T8.setTop (mkF m 46 #[.val (.ref a1), .val (.int p2)] [])) _
    exact X8.returnOut hx Bd.returns (hb hby d3_46) hr
  · show Q3 Z a1 p2 c1 k_c1 e_c1_0 e_c1_1 e_c1_2 e_c1_3 h0 n0 _ T8.heap _
    rw [e8]
    exact ⟨rfl, N8, k9, q10, q11, q12, V8⟩
theorem d1003_0 : decode prog_41_method_2_code 0 = .ok (.aload_n 0, 1) := by decide +kernel
theorem d1003_1 : decode prog_41_method_2_code 1 = .ok (.getfield 13, 3) := by decide +kernel
theorem d1003_4 : decode prog_41_method_2_code 4 = .ok (.aload_n 0, 1) := by decide +kernel
theorem d1003_5 : decode prog_41_method_2_code 5 = .ok (.getfield 7, 3) := by decide +kernel
theorem d1003_8 : decode prog_41_method_2_code 8 = .ok (.arraylength, 1) := by decide +kernel
theorem d1003_9 : decode prog_41_method_2_code 9 = .ok (.if_icmp .ne 20, 3) := by decide +kernel
theorem d1003_29 : decode prog_41_method_2_code 29 = .ok (.aload_n 0, 1) := by decide +kernel
theorem d1003_30 : decode prog_41_method_2_code 30 = .ok (.getfield 7, 3) := by decide +kernel
theorem d1003_33 : decode prog_41_method_2_code 33 = .ok (.aload_n 0, 1) := by decide +kernel
theorem d1003_34 : decode prog_41_method_2_code 34 = .ok (.dup, 1) := by decide +kernel
theorem d1003_35 : decode prog_41_method_2_code 35 = .ok (.getfield 13, 3) := by decide +kernel
theorem d1003_38 : decode prog_41_method_2_code 38 = .ok (.dup_x1, 1) := by decide +kernel
theorem d1003_39 : decode prog_41_method_2_code 39 = .ok (.iconst 1, 1) := by decide +kernel
theorem d1003_40 : decode prog_41_method_2_code 40 = .ok (.iadd, 1) := by decide +kernel
theorem d1003_41 : decode prog_41_method_2_code 41 = .ok (.putfield 13, 3) := by decide +kernel
theorem d1003_44 : decode prog_41_method_2_code 44 = .ok (.iload_n 1, 1) := by decide +kernel
theorem d1003_45 : decode prog_41_method_2_code 45 = .ok (.iastore, 1) := by decide +kernel
theorem d1003_46 : decode prog_41_method_2_code 46 = .ok (.return_, 1) := by decide +kernel
theorem pn_1003 : plainName "com/example/krel/krel/saturation/IntList" = true := by first | (simp [plainName, overriddenIn]; done) | decide +kernel
theorem ef_1003 (m : MethodId) (a1 : Addr) (p2 : Int32) : entryFrame m #[(.ref a1), (.int p2)] 2 = mkF m 0 #[.val (.ref a1), .val (.int p2)] [] := by first | (simp [entryFrame, mkF, argsToLocals, Value.category]; done) | rfl
def Q1003 (Z : State) (a1 : Addr) (p2 : Int32) (c1 : Addr) (k_c1 : ClassId) (e_c1_0 : Int32) (e_c1_1 : Int32) (e_c1_2 : Int32) (e_c1_3 : Int32) (h0 : Heap) (n0 : Nat) (v : Option Value) (h : Heap) (L : List Loc) : Prop := v = none ∧ Fr n0 L ∧ Keep h0 h [a1, c1] ∧ Exa Z h a1 "com/example/krel/krel/saturation/IntList" ∧ Fld Z h a1 "com/example/krel/krel/saturation/IntList" "size" "I" (.int (2 : Int32)) ∧ Fld Z h a1 "com/example/krel/krel/saturation/IntList" "values" "[I" (.ref c1) ∧ Arv Z h c1 k_c1 .int (4 : Int32) [(.int e_c1_0), (.int p2), (.int e_c1_2), (.int e_c1_3)] (.int (0 : Int32))
set_option maxRecDepth 65536 in
set_option maxHeartbeats 40000000 in
theorem rm1003 (l : Launch) (Z : State) (a0 : Array Value) (hw : ∀ d ∈ tables_1, d.before a0 Z = true) (ws : List Jvm.Cond) (a1 : Addr) (p2 : Int32) (c1 : Addr) (k_c1 : ClassId) (e_c1_0 : Int32) (e_c1_1 : Int32) (e_c1_2 : Int32) (e_c1_3 : Int32) (h0 : Heap) (n0 : Nat) (Z0 : n0 ≤ h0.size) (E_a1 : Exa Z h0 a1 "com/example/krel/krel/saturation/IntList") (F_size_a1 : Fld Z h0 a1 "com/example/krel/krel/saturation/IntList" "size" "I" (.int (1 : Int32))) (F_values_a1 : Fld Z h0 a1 "com/example/krel/krel/saturation/IntList" "values" "[I" (.ref c1)) (V_c1 : Arv Z h0 c1 k_c1 .int (4 : Int32) [(.int e_c1_0), (.int e_c1_1), (.int e_c1_2), (.int e_c1_3)] (.int (0 : Int32))) (g_a1 : n0 ≤ a1) (ne_c1_a1 : c1 ≠ a1) (g_c1 : n0 ≤ c1) :
    MetFree l (⟨"com/example/krel/krel/saturation/IntList", "add", "(I)V"⟩ : MethodName) (head1 (Jvm.Cond.code (⟨"com/example/krel/krel/saturation/IntList", "add", "(I)V"⟩ : MethodName) prog_41_method_2_code 2 none :: ws) ({ frames := 0, cells := 0, slots := 0, locals := 0 } : Room)) (fun a U => a = #[(.ref a1), (.int p2)] ∧ Z.Warmed39 U.vm ∧ U.heap = h0) (fun _ _ _ _ _ => True) (fun _ U o U' => ∃ v L, o = .returned v ∧ Q1003 Z a1 p2 c1 k_c1 e_c1_0 e_c1_1 e_c1_2 e_c1_3 h0 n0 v U'.heap L ∧ FrameEnd U o U' L ({ frames := 0, cells := 0, slots := 0, locals := 0 } : Room).cells ({ frames := 0, cells := 0, slots := 0, locals := 0 } : Room).slots) := by
  refine MetFree.of_bodySF (plainFor_of_name pn_1003) hisR ?_
  intro p e s m args below meth c s₁ Bd hml0 hP hK
  obtain ⟨rfl, hZ, hh⟩ := hP
  have hx := Bd.exec
  have hby := Bd.bytes
  have hml : c.maxLocals = 2 := hml0
  have hown : s.vm.findClass "com/example/krel/krel/saturation/IntList" = some m.cls := findClass_of_methodNamed Bd.named
  have hnm := (name_of_methodNamed Bd.named Bd.method).1
  have X0 : Stand p l e ({ frames := 0, cells := 0, slots := 0, locals := 0 } : Room) s m #[(.ref a1), (.int p2)] below meth c s₁ [] 0 0 := Stand.of_body Bd
  have e0 : s₁.heap = h0 := by rw [← hh, Bd.state]; rfl
  have N0 := Fr.nil n0
  have pre0 : ∀ t, Steps p.tables e below (s₁.setTop (mkF m 0 #[.val (.ref a1), .val (.int p2)] [])) t → Steps p.tables e below (s₁.setTop (entryFrame m #[(.ref a1), (.int p2)] 2)) t := fun t k => castTop (ef_1003 m a1 p2) k
  obtain ⟨T1, X1, e1, st1⟩ := getF X0 hx hZ hown (host := "") (Or.inl (hw _ (List.mem_of_getElem? (i := 17) rfl))) Via.refl e0 F_size_a1 (g := (mkF m 1 #[.val (.ref a1), .val (.int p2)] [(.ref a1)])) rfl rfl (hb hby d1003_1)
  obtain ⟨T2, X2, e2, st2⟩ := getF X1 hx hZ hown (host := "") (Or.inl (hw _ (List.mem_of_getElem? (i := 10) rfl))) Via.refl e1 F_values_a1 (g := (mkF m 5 #[.val (.ref a1), .val (.int p2)] [(.ref a1), (.int (1 : Int32))])) rfl rfl (hb hby d1003_5)
  obtain ⟨cl3, Ar3, q3, S3, M3, H3, G3⟩ := id V_c1
  obtain ⟨T4, X4, e4, st4⟩ := getF X2 hx hZ hown (host := "") (Or.inl (hw _ (List.mem_of_getElem? (i := 10) rfl))) Via.refl e2 F_values_a1 (g := (mkF m 30 #[.val (.ref a1), .val (.int p2)] [(.ref a1)])) rfl rfl (hb hby d1003_30)
  obtain ⟨T5, X5, e5, st5⟩ := getF X4 hx hZ hown (host := "") (Or.inl (hw _ (List.mem_of_getElem? (i := 17) rfl))) Via.refl e4 F_size_a1 (g := (mkF m 35 #[.val (.ref a1), .val (.int p2)] [(.ref a1), (.ref a1), (.ref c1)])) rfl rfl (hb hby d1003_35)
  obtain ⟨T6, h6, X6, e6, W6, st6⟩ := putF X5 hx hZ hown (host := "") (Or.inl (hw _ (List.mem_of_getElem? (i := 17) rfl))) Via.refl e5 F_size_a1 E_a1 (Or.inl (hw _ (List.mem_of_getElem? (i := 18) rfl))) (hw _ (List.mem_of_getElem? (i := 1) rfl)) (ty := .int) (by decide) rfl rfl (g := (mkF m 41 #[.val (.ref a1), .val (.int p2)] [(.int (2 : Int32)), (.ref a1), (.int (1 : Int32)), (.ref c1)])) rfl rfl (hb hby d1003_41)
  have Fw6 := Fld.same W6 F_size_a1
  have N6 := Fr.snoc X6 N0 g_a1
  have q7 := (V_c1.other W6 ne_c1_a1)
  obtain ⟨cl8, Ar8, q8, S8, M8, H8, G8⟩ := id q7
  have hin8 : ¬ ((1 : Int32) < 0 ∨ cl8.slots.size ≤ ((1 : Int32)).toNatClampNeg) := inb_of S8 ⟨by decide, by decide⟩
  obtain ⟨T8, h8, X8, e8, W8, st8⟩ := stI X6 hx hZ e6 Ar8 (j := (1 : Int32)) hin8 (g := (mkF m 45 #[.val (.ref a1), .val (.int p2)] [(.int p2), (.int (1 : Int32)), (.ref c1)])) rfl rfl (hb hby d1003_45)
  have V8 : Arv Z h8 c1 k_c1 .int (4 : Int32) [(.int e_c1_0), (.int p2), (.int e_c1_2), (.int e_c1_3)] (.int (0 : Int32)) := Arv.set Ar8 q8 S8 M8 H8 G8 rfl W8 1 rfl (Nat.le_of_ble_eq_true rfl)
  have N8 := Fr.snoc X8 N6 g_c1
  have k9 : Keep h0 h8 [a1, c1] := (((Keep.refl h0 [a1, c1]).wr W6 (Or.inl (by simp))).wr W8 (Or.inl (by simp)))
  have q10 := (Exa.wr W8 (Exa.wr W6 E_a1))
  have q11 := (Fld.other W8 Fw6 (Or.inl (Ne.symm ne_c1_a1)))
  have q12 := (Fld.other W8 (Fld.other W6 F_values_a1 (Or.inr (slot_ne (Or.inl (hw _ (List.mem_of_getElem? (i := 11) rfl))) (Or.inl (hw _ (List.mem_of_getElem? (i := 18) rfl))) (by decide) (t := (.array .int)) (t' := .int) (by decide) (by decide)))) (Or.inl (Ne.symm ne_c1_a1)))
  obtain ⟨fs, hr, hrun, hended, hW, hsame⟩ := X8.leave (v := none) (fun _ => rfl)
  refine ⟨_, _, pre0 _ ?_, hrun, hended, _, _, rfl, ?_, ⟨_, rfl⟩, hW, hsame.mono (by decide) (by decide)⟩
  · show Steps p.tables e below (s₁.setTop (mkF m 0 #[.val (.ref a1), .val (.int p2)] [])) _
    refine XS.aloadN X0.here hx rfl (hb hby d1003_0) rfl rfl ?_
    show Steps p.tables e below (s₁.setTop (mkF m 1 #[.val (.ref a1), .val (.int p2)] [(.ref a1)])) _
    refine st1 _ ?_
    show Steps p.tables e below (T1.setTop (mkF m 4 #[.val (.ref a1), .val (.int p2)] [(.int (1 : Int32))])) _
    refine XS.aloadN X1.here hx rfl (hb hby d1003_4) rfl rfl ?_
    show Steps p.tables e below (T1.setTop (mkF m 5 #[.val (.ref a1), .val (.int p2)] [(.ref a1), (.int (1 : Int32))])) _
    refine st2 _ ?_
    show Steps p.tables e below (T2.setTop (mkF m 8 #[.val (.ref a1), .val (.int p2)] [(.ref c1), (.int (1 : Int32))])) _
    refine X2.arraylength hx (by rw [e2]; exact Ar3.1) (State.isArrayOf_alike hZ.alike Ar3.2.1) (g := (mkF m 8 #[.val (.ref a1), .val (.int p2)] [(.ref c1), (.int (1 : Int32))])) rfl rfl (hb hby d1003_8) _ ?_
    rw [len_of S3 M3]
    show Steps p.tables e below (T2.setTop (mkF m 9 #[.val (.ref a1), .val (.int p2)] [(.int (4 : Int32)), (.int (1 : Int32))])) _
    refine XS.icmpYes X2.here hx rfl (pc0 := 9) (pc' := 29) rfl (hb hby d1003_9) rfl (feq (by decide : ¬ ((1 : Int32) = (4 : Int32)))).2 (by decide) (by decide) ?_
    show Steps p.tables e below (T2.setTop (mkF m 29 #[.val (.ref a1), .val (.int p2)] [])) _
    refine XS.aloadN X2.here hx rfl (hb hby d1003_29) rfl rfl ?_
    show Steps p.tables e below (T2.setTop (mkF m 30 #[.val (.ref a1), .val (.int p2)] [(.ref a1)])) _
    refine st4 _ ?_
    show Steps p.tables e below (T4.setTop (mkF m 33 #[.val (.ref a1), .val (.int p2)] [(.ref c1)])) _
    refine XS.aloadN X4.here hx rfl (hb hby d1003_33) rfl rfl ?_
    show Steps p.tables e below (T4.setTop (mkF m 34 #[.val (.ref a1), .val (.int p2)] [(.ref a1), (.ref c1)])) _
    refine XS.dup X4.here hx rfl (hb hby d1003_34) rfl rfl ?_
    show Steps p.tables e below (T4.setTop (mkF m 35 #[.val (.ref a1), .val (.int p2)] [(.ref a1), (.ref a1), (.ref c1)])) _
    refine st5 _ ?_
    show Steps p.tables e below (T5.setTop (mkF m 38 #[.val (.ref a1), .val (.int p2)] [(.int (1 : Int32)), (.ref a1), (.ref c1)])) _
    refine XS.dupX1 X5.here hx rfl (hb hby d1003_38) rfl rfl rfl ?_
    show Steps p.tables e below (T5.setTop (mkF m 39 #[.val (.ref a1), .val (.int p2)] [(.int (1 : Int32)), (.ref a1), (.int (1 : Int32)), (.ref c1)])) _
    refine XS.iconst X5.here hx rfl (hb hby d1003_39) ?_
    show Steps p.tables e below (T5.setTop (mkF m 40 #[.val (.ref a1), .val (.int p2)] [(.int (1 : Int32)), (.int (1 : Int32)), (.ref a1), (.int (1 : Int32)), (.ref c1)])) _
    refine XS.iadd X5.here hx rfl (hb hby d1003_40) rfl ?_
    show Steps p.tables e below (T5.setTop (mkF m 41 #[.val (.ref a1), .val (.int p2)] [(.int (2 : Int32)), (.ref a1), (.int (1 : Int32)), (.ref c1)])) _
    refine st6 _ ?_
    show Steps p.tables e below (T6.setTop (mkF m 44 #[.val (.ref a1), .val (.int p2)] [(.int (1 : Int32)), (.ref c1)])) _
    refine XS.iloadN X6.here hx rfl (hb hby d1003_44) rfl ?_
    show Steps p.tables e below (T6.setTop (mkF m 45 #[.val (.ref a1), .val (.int p2)] [(.int p2), (.int (1 : Int32)), (.ref c1)])) _
    refine st8 _ ?_
    show Steps p.tables e below (T8.setTop (mkF m 46 #[.val (.ref a1), .val (.int p2)] [])) _
    exact X8.returnOut hx Bd.returns (hb hby d1003_46) hr
  · show Q1003 Z a1 p2 c1 k_c1 e_c1_0 e_c1_1 e_c1_2 e_c1_3 h0 n0 _ T8.heap _
    rw [e8]
    exact ⟨rfl, N8, k9, q10, q11, q12, V8⟩
theorem d2003_0 : decode prog_41_method_2_code 0 = .ok (.aload_n 0, 1) := by decide +kernel
theorem d2003_1 : decode prog_41_method_2_code 1 = .ok (.getfield 13, 3) := by decide +kernel
theorem d2003_4 : decode prog_41_method_2_code 4 = .ok (.aload_n 0, 1) := by decide +kernel
theorem d2003_5 : decode prog_41_method_2_code 5 = .ok (.getfield 7, 3) := by decide +kernel
theorem d2003_8 : decode prog_41_method_2_code 8 = .ok (.arraylength, 1) := by decide +kernel
theorem d2003_9 : decode prog_41_method_2_code 9 = .ok (.if_icmp .ne 20, 3) := by decide +kernel
theorem d2003_29 : decode prog_41_method_2_code 29 = .ok (.aload_n 0, 1) := by decide +kernel
theorem d2003_30 : decode prog_41_method_2_code 30 = .ok (.getfield 7, 3) := by decide +kernel
theorem d2003_33 : decode prog_41_method_2_code 33 = .ok (.aload_n 0, 1) := by decide +kernel
theorem d2003_34 : decode prog_41_method_2_code 34 = .ok (.dup, 1) := by decide +kernel
theorem d2003_35 : decode prog_41_method_2_code 35 = .ok (.getfield 13, 3) := by decide +kernel
theorem d2003_38 : decode prog_41_method_2_code 38 = .ok (.dup_x1, 1) := by decide +kernel
theorem d2003_39 : decode prog_41_method_2_code 39 = .ok (.iconst 1, 1) := by decide +kernel
theorem d2003_40 : decode prog_41_method_2_code 40 = .ok (.iadd, 1) := by decide +kernel
theorem d2003_41 : decode prog_41_method_2_code 41 = .ok (.putfield 13, 3) := by decide +kernel
theorem d2003_44 : decode prog_41_method_2_code 44 = .ok (.iload_n 1, 1) := by decide +kernel
theorem d2003_45 : decode prog_41_method_2_code 45 = .ok (.iastore, 1) := by decide +kernel
theorem d2003_46 : decode prog_41_method_2_code 46 = .ok (.return_, 1) := by decide +kernel
theorem pn_2003 : plainName "com/example/krel/krel/saturation/IntList" = true := by first | (simp [plainName, overriddenIn]; done) | decide +kernel
theorem ef_2003 (m : MethodId) (a1 : Addr) (p2 : Int32) : entryFrame m #[(.ref a1), (.int p2)] 2 = mkF m 0 #[.val (.ref a1), .val (.int p2)] [] := by first | (simp [entryFrame, mkF, argsToLocals, Value.category]; done) | rfl
def Q2003 (Z : State) (a1 : Addr) (p2 : Int32) (c1 : Addr) (k_c1 : ClassId) (e_c1_0 : Int32) (e_c1_1 : Int32) (e_c1_2 : Int32) (e_c1_3 : Int32) (h0 : Heap) (n0 : Nat) (v : Option Value) (h : Heap) (L : List Loc) : Prop := v = none ∧ Fr n0 L ∧ Keep h0 h [a1, c1] ∧ Exa Z h a1 "com/example/krel/krel/saturation/IntList" ∧ Fld Z h a1 "com/example/krel/krel/saturation/IntList" "size" "I" (.int (3 : Int32)) ∧ Fld Z h a1 "com/example/krel/krel/saturation/IntList" "values" "[I" (.ref c1) ∧ Arv Z h c1 k_c1 .int (4 : Int32) [(.int e_c1_0), (.int e_c1_1), (.int p2), (.int e_c1_3)] (.int (0 : Int32))
set_option maxRecDepth 65536 in
set_option maxHeartbeats 40000000 in
theorem rm2003 (l : Launch) (Z : State) (a0 : Array Value) (hw : ∀ d ∈ tables_1, d.before a0 Z = true) (ws : List Jvm.Cond) (a1 : Addr) (p2 : Int32) (c1 : Addr) (k_c1 : ClassId) (e_c1_0 : Int32) (e_c1_1 : Int32) (e_c1_2 : Int32) (e_c1_3 : Int32) (h0 : Heap) (n0 : Nat) (Z0 : n0 ≤ h0.size) (E_a1 : Exa Z h0 a1 "com/example/krel/krel/saturation/IntList") (F_size_a1 : Fld Z h0 a1 "com/example/krel/krel/saturation/IntList" "size" "I" (.int (2 : Int32))) (F_values_a1 : Fld Z h0 a1 "com/example/krel/krel/saturation/IntList" "values" "[I" (.ref c1)) (V_c1 : Arv Z h0 c1 k_c1 .int (4 : Int32) [(.int e_c1_0), (.int e_c1_1), (.int e_c1_2), (.int e_c1_3)] (.int (0 : Int32))) (g_a1 : n0 ≤ a1) (ne_c1_a1 : c1 ≠ a1) (g_c1 : n0 ≤ c1) :
    MetFree l (⟨"com/example/krel/krel/saturation/IntList", "add", "(I)V"⟩ : MethodName) (head1 (Jvm.Cond.code (⟨"com/example/krel/krel/saturation/IntList", "add", "(I)V"⟩ : MethodName) prog_41_method_2_code 2 none :: ws) ({ frames := 0, cells := 0, slots := 0, locals := 0 } : Room)) (fun a U => a = #[(.ref a1), (.int p2)] ∧ Z.Warmed39 U.vm ∧ U.heap = h0) (fun _ _ _ _ _ => True) (fun _ U o U' => ∃ v L, o = .returned v ∧ Q2003 Z a1 p2 c1 k_c1 e_c1_0 e_c1_1 e_c1_2 e_c1_3 h0 n0 v U'.heap L ∧ FrameEnd U o U' L ({ frames := 0, cells := 0, slots := 0, locals := 0 } : Room).cells ({ frames := 0, cells := 0, slots := 0, locals := 0 } : Room).slots) := by
  refine MetFree.of_bodySF (plainFor_of_name pn_2003) hisR ?_
  intro p e s m args below meth c s₁ Bd hml0 hP hK
  obtain ⟨rfl, hZ, hh⟩ := hP
  have hx := Bd.exec
  have hby := Bd.bytes
  have hml : c.maxLocals = 2 := hml0
  have hown : s.vm.findClass "com/example/krel/krel/saturation/IntList" = some m.cls := findClass_of_methodNamed Bd.named
  have hnm := (name_of_methodNamed Bd.named Bd.method).1
  have X0 : Stand p l e ({ frames := 0, cells := 0, slots := 0, locals := 0 } : Room) s m #[(.ref a1), (.int p2)] below meth c s₁ [] 0 0 := Stand.of_body Bd
  have e0 : s₁.heap = h0 := by rw [← hh, Bd.state]; rfl
  have N0 := Fr.nil n0
  have pre0 : ∀ t, Steps p.tables e below (s₁.setTop (mkF m 0 #[.val (.ref a1), .val (.int p2)] [])) t → Steps p.tables e below (s₁.setTop (entryFrame m #[(.ref a1), (.int p2)] 2)) t := fun t k => castTop (ef_2003 m a1 p2) k
  obtain ⟨T1, X1, e1, st1⟩ := getF X0 hx hZ hown (host := "") (Or.inl (hw _ (List.mem_of_getElem? (i := 17) rfl))) Via.refl e0 F_size_a1 (g := (mkF m 1 #[.val (.ref a1), .val (.int p2)] [(.ref a1)])) rfl rfl (hb hby d2003_1)
  obtain ⟨T2, X2, e2, st2⟩ := getF X1 hx hZ hown (host := "") (Or.inl (hw _ (List.mem_of_getElem? (i := 10) rfl))) Via.refl e1 F_values_a1 (g := (mkF m 5 #[.val (.ref a1), .val (.int p2)] [(.ref a1), (.int (2 : Int32))])) rfl rfl (hb hby d2003_5)
  obtain ⟨cl3, Ar3, q3, S3, M3, H3, G3⟩ := id V_c1
  obtain ⟨T4, X4, e4, st4⟩ := getF X2 hx hZ hown (host := "") (Or.inl (hw _ (List.mem_of_getElem? (i := 10) rfl))) Via.refl e2 F_values_a1 (g := (mkF m 30 #[.val (.ref a1), .val (.int p2)] [(.ref a1)])) rfl rfl (hb hby d2003_30)
  obtain ⟨T5, X5, e5, st5⟩ := getF X4 hx hZ hown (host := "") (Or.inl (hw _ (List.mem_of_getElem? (i := 17) rfl))) Via.refl e4 F_size_a1 (g := (mkF m 35 #[.val (.ref a1), .val (.int p2)] [(.ref a1), (.ref a1), (.ref c1)])) rfl rfl (hb hby d2003_35)
  obtain ⟨T6, h6, X6, e6, W6, st6⟩ := putF X5 hx hZ hown (host := "") (Or.inl (hw _ (List.mem_of_getElem? (i := 17) rfl))) Via.refl e5 F_size_a1 E_a1 (Or.inl (hw _ (List.mem_of_getElem? (i := 18) rfl))) (hw _ (List.mem_of_getElem? (i := 1) rfl)) (ty := .int) (by decide) rfl rfl (g := (mkF m 41 #[.val (.ref a1), .val (.int p2)] [(.int (3 : Int32)), (.ref a1), (.int (2 : Int32)), (.ref c1)])) rfl rfl (hb hby d2003_41)
  have Fw6 := Fld.same W6 F_size_a1
  have N6 := Fr.snoc X6 N0 g_a1
  have q7 := (V_c1.other W6 ne_c1_a1)
  obtain ⟨cl8, Ar8, q8, S8, M8, H8, G8⟩ := id q7
  have hin8 : ¬ ((2 : Int32) < 0 ∨ cl8.slots.size ≤ ((2 : Int32)).toNatClampNeg) := inb_of S8 ⟨by decide, by decide⟩
  obtain ⟨T8, h8, X8, e8, W8, st8⟩ := stI X6 hx hZ e6 Ar8 (j := (2 : Int32)) hin8 (g := (mkF m 45 #[.val (.ref a1), .val (.int p2)] [(.int p2), (.int (2 : Int32)), (.ref c1)])) rfl rfl (hb hby d2003_45)
  have V8 : Arv Z h8 c1 k_c1 .int (4 : Int32) [(.int e_c1_0), (.int e_c1_1), (.int p2), (.int e_c1_3)] (.int (0 : Int32)) := Arv.set Ar8 q8 S8 M8 H8 G8 rfl W8 2 rfl (Nat.le_of_ble_eq_true rfl)
  have N8 := Fr.snoc X8 N6 g_c1
  have k9 : Keep h0 h8 [a1, c1] := (((Keep.refl h0 [a1, c1]).wr W6 (Or.inl (by simp))).wr W8 (Or.inl (by simp)))
  have q10 := (Exa.wr W8 (Exa.wr W6 E_a1))
  have q11 := (Fld.other W8 Fw6 (Or.inl (Ne.symm ne_c1_a1)))
  have q12 := (Fld.other W8 (Fld.other W6 F_values_a1 (Or.inr (slot_ne (Or.inl (hw _ (List.mem_of_getElem? (i := 11) rfl))) (Or.inl (hw _ (List.mem_of_getElem? (i := 18) rfl))) (by decide) (t := (.array .int)) (t' := .int) (by decide) (by decide)))) (Or.inl (Ne.symm ne_c1_a1)))
  obtain ⟨fs, hr, hrun, hended, hW, hsame⟩ := X8.leave (v := none) (fun _ => rfl)
  refine ⟨_, _, pre0 _ ?_, hrun, hended, _, _, rfl, ?_, ⟨_, rfl⟩, hW, hsame.mono (by decide) (by decide)⟩
  · show Steps p.tables e below (s₁.setTop (mkF m 0 #[.val (.ref a1), .val (.int p2)] [])) _
    refine XS.aloadN X0.here hx rfl (hb hby d2003_0) rfl rfl ?_
    show Steps p.tables e below (s₁.setTop (mkF m 1 #[.val (.ref a1), .val (.int p2)] [(.ref a1)])) _
    refine st1 _ ?_
    show Steps p.tables e below (T1.setTop (mkF m 4 #[.val (.ref a1), .val (.int p2)] [(.int (2 : Int32))])) _
    refine XS.aloadN X1.here hx rfl (hb hby d2003_4) rfl rfl ?_
    show Steps p.tables e below (T1.setTop (mkF m 5 #[.val (.ref a1), .val (.int p2)] [(.ref a1), (.int (2 : Int32))])) _
    refine st2 _ ?_
    show Steps p.tables e below (T2.setTop (mkF m 8 #[.val (.ref a1), .val (.int p2)] [(.ref c1), (.int (2 : Int32))])) _
    refine X2.arraylength hx (by rw [e2]; exact Ar3.1) (State.isArrayOf_alike hZ.alike Ar3.2.1) (g := (mkF m 8 #[.val (.ref a1), .val (.int p2)] [(.ref c1), (.int (2 : Int32))])) rfl rfl (hb hby d2003_8) _ ?_
    rw [len_of S3 M3]
    show Steps p.tables e below (T2.setTop (mkF m 9 #[.val (.ref a1), .val (.int p2)] [(.int (4 : Int32)), (.int (2 : Int32))])) _
    refine XS.icmpYes X2.here hx rfl (pc0 := 9) (pc' := 29) rfl (hb hby d2003_9) rfl (feq (by decide : ¬ ((2 : Int32) = (4 : Int32)))).2 (by decide) (by decide) ?_
    show Steps p.tables e below (T2.setTop (mkF m 29 #[.val (.ref a1), .val (.int p2)] [])) _
    refine XS.aloadN X2.here hx rfl (hb hby d2003_29) rfl rfl ?_
    show Steps p.tables e below (T2.setTop (mkF m 30 #[.val (.ref a1), .val (.int p2)] [(.ref a1)])) _
    refine st4 _ ?_
    show Steps p.tables e below (T4.setTop (mkF m 33 #[.val (.ref a1), .val (.int p2)] [(.ref c1)])) _
    refine XS.aloadN X4.here hx rfl (hb hby d2003_33) rfl rfl ?_
    show Steps p.tables e below (T4.setTop (mkF m 34 #[.val (.ref a1), .val (.int p2)] [(.ref a1), (.ref c1)])) _
    refine XS.dup X4.here hx rfl (hb hby d2003_34) rfl rfl ?_
    show Steps p.tables e below (T4.setTop (mkF m 35 #[.val (.ref a1), .val (.int p2)] [(.ref a1), (.ref a1), (.ref c1)])) _
    refine st5 _ ?_
    show Steps p.tables e below (T5.setTop (mkF m 38 #[.val (.ref a1), .val (.int p2)] [(.int (2 : Int32)), (.ref a1), (.ref c1)])) _
    refine XS.dupX1 X5.here hx rfl (hb hby d2003_38) rfl rfl rfl ?_
    show Steps p.tables e below (T5.setTop (mkF m 39 #[.val (.ref a1), .val (.int p2)] [(.int (2 : Int32)), (.ref a1), (.int (2 : Int32)), (.ref c1)])) _
    refine XS.iconst X5.here hx rfl (hb hby d2003_39) ?_
    show Steps p.tables e below (T5.setTop (mkF m 40 #[.val (.ref a1), .val (.int p2)] [(.int (1 : Int32)), (.int (2 : Int32)), (.ref a1), (.int (2 : Int32)), (.ref c1)])) _
    refine XS.iadd X5.here hx rfl (hb hby d2003_40) rfl ?_
    show Steps p.tables e below (T5.setTop (mkF m 41 #[.val (.ref a1), .val (.int p2)] [(.int (3 : Int32)), (.ref a1), (.int (2 : Int32)), (.ref c1)])) _
    refine st6 _ ?_
    show Steps p.tables e below (T6.setTop (mkF m 44 #[.val (.ref a1), .val (.int p2)] [(.int (2 : Int32)), (.ref c1)])) _
    refine XS.iloadN X6.here hx rfl (hb hby d2003_44) rfl ?_
    show Steps p.tables e below (T6.setTop (mkF m 45 #[.val (.ref a1), .val (.int p2)] [(.int p2), (.int (2 : Int32)), (.ref c1)])) _
    refine st8 _ ?_
    show Steps p.tables e below (T8.setTop (mkF m 46 #[.val (.ref a1), .val (.int p2)] [])) _
    exact X8.returnOut hx Bd.returns (hb hby d2003_46) hr
  · show Q2003 Z a1 p2 c1 k_c1 e_c1_0 e_c1_1 e_c1_2 e_c1_3 h0 n0 _ T8.heap _
    rw [e8]
    exact ⟨rfl, N8, k9, q10, q11, q12, V8⟩
theorem d3003_0 : decode prog_41_method_2_code 0 = .ok (.aload_n 0, 1) := by decide +kernel
theorem d3003_1 : decode prog_41_method_2_code 1 = .ok (.getfield 13, 3) := by decide +kernel
theorem d3003_4 : decode prog_41_method_2_code 4 = .ok (.aload_n 0, 1) := by decide +kernel
theorem d3003_5 : decode prog_41_method_2_code 5 = .ok (.getfield 7, 3) := by decide +kernel
theorem d3003_8 : decode prog_41_method_2_code 8 = .ok (.arraylength, 1) := by decide +kernel
theorem d3003_9 : decode prog_41_method_2_code 9 = .ok (.if_icmp .ne 20, 3) := by decide +kernel
theorem d3003_29 : decode prog_41_method_2_code 29 = .ok (.aload_n 0, 1) := by decide +kernel
theorem d3003_30 : decode prog_41_method_2_code 30 = .ok (.getfield 7, 3) := by decide +kernel
theorem d3003_33 : decode prog_41_method_2_code 33 = .ok (.aload_n 0, 1) := by decide +kernel
theorem d3003_34 : decode prog_41_method_2_code 34 = .ok (.dup, 1) := by decide +kernel
theorem d3003_35 : decode prog_41_method_2_code 35 = .ok (.getfield 13, 3) := by decide +kernel
theorem d3003_38 : decode prog_41_method_2_code 38 = .ok (.dup_x1, 1) := by decide +kernel
theorem d3003_39 : decode prog_41_method_2_code 39 = .ok (.iconst 1, 1) := by decide +kernel
theorem d3003_40 : decode prog_41_method_2_code 40 = .ok (.iadd, 1) := by decide +kernel
theorem d3003_41 : decode prog_41_method_2_code 41 = .ok (.putfield 13, 3) := by decide +kernel
theorem d3003_44 : decode prog_41_method_2_code 44 = .ok (.iload_n 1, 1) := by decide +kernel
theorem d3003_45 : decode prog_41_method_2_code 45 = .ok (.iastore, 1) := by decide +kernel
theorem d3003_46 : decode prog_41_method_2_code 46 = .ok (.return_, 1) := by decide +kernel
theorem pn_3003 : plainName "com/example/krel/krel/saturation/IntList" = true := by first | (simp [plainName, overriddenIn]; done) | decide +kernel
theorem ef_3003 (m : MethodId) (a1 : Addr) (p2 : Int32) : entryFrame m #[(.ref a1), (.int p2)] 2 = mkF m 0 #[.val (.ref a1), .val (.int p2)] [] := by first | (simp [entryFrame, mkF, argsToLocals, Value.category]; done) | rfl
def Q3003 (Z : State) (a1 : Addr) (p2 : Int32) (c1 : Addr) (k_c1 : ClassId) (e_c1_0 : Int32) (e_c1_1 : Int32) (e_c1_2 : Int32) (e_c1_3 : Int32) (h0 : Heap) (n0 : Nat) (v : Option Value) (h : Heap) (L : List Loc) : Prop := v = none ∧ Fr n0 L ∧ Keep h0 h [a1, c1] ∧ Exa Z h a1 "com/example/krel/krel/saturation/IntList" ∧ Fld Z h a1 "com/example/krel/krel/saturation/IntList" "size" "I" (.int (4 : Int32)) ∧ Fld Z h a1 "com/example/krel/krel/saturation/IntList" "values" "[I" (.ref c1) ∧ Arv Z h c1 k_c1 .int (4 : Int32) [(.int e_c1_0), (.int e_c1_1), (.int e_c1_2), (.int p2)] (.int (0 : Int32))
set_option maxRecDepth 65536 in
set_option maxHeartbeats 40000000 in
theorem rm3003 (l : Launch) (Z : State) (a0 : Array Value) (hw : ∀ d ∈ tables_1, d.before a0 Z = true) (ws : List Jvm.Cond) (a1 : Addr) (p2 : Int32) (c1 : Addr) (k_c1 : ClassId) (e_c1_0 : Int32) (e_c1_1 : Int32) (e_c1_2 : Int32) (e_c1_3 : Int32) (h0 : Heap) (n0 : Nat) (Z0 : n0 ≤ h0.size) (E_a1 : Exa Z h0 a1 "com/example/krel/krel/saturation/IntList") (F_size_a1 : Fld Z h0 a1 "com/example/krel/krel/saturation/IntList" "size" "I" (.int (3 : Int32))) (F_values_a1 : Fld Z h0 a1 "com/example/krel/krel/saturation/IntList" "values" "[I" (.ref c1)) (V_c1 : Arv Z h0 c1 k_c1 .int (4 : Int32) [(.int e_c1_0), (.int e_c1_1), (.int e_c1_2), (.int e_c1_3)] (.int (0 : Int32))) (g_a1 : n0 ≤ a1) (ne_c1_a1 : c1 ≠ a1) (g_c1 : n0 ≤ c1) :
    MetFree l (⟨"com/example/krel/krel/saturation/IntList", "add", "(I)V"⟩ : MethodName) (head1 (Jvm.Cond.code (⟨"com/example/krel/krel/saturation/IntList", "add", "(I)V"⟩ : MethodName) prog_41_method_2_code 2 none :: ws) ({ frames := 0, cells := 0, slots := 0, locals := 0 } : Room)) (fun a U => a = #[(.ref a1), (.int p2)] ∧ Z.Warmed39 U.vm ∧ U.heap = h0) (fun _ _ _ _ _ => True) (fun _ U o U' => ∃ v L, o = .returned v ∧ Q3003 Z a1 p2 c1 k_c1 e_c1_0 e_c1_1 e_c1_2 e_c1_3 h0 n0 v U'.heap L ∧ FrameEnd U o U' L ({ frames := 0, cells := 0, slots := 0, locals := 0 } : Room).cells ({ frames := 0, cells := 0, slots := 0, locals := 0 } : Room).slots) := by
  refine MetFree.of_bodySF (plainFor_of_name pn_3003) hisR ?_
  intro p e s m args below meth c s₁ Bd hml0 hP hK
  obtain ⟨rfl, hZ, hh⟩ := hP
  have hx := Bd.exec
  have hby := Bd.bytes
  have hml : c.maxLocals = 2 := hml0
  have hown : s.vm.findClass "com/example/krel/krel/saturation/IntList" = some m.cls := findClass_of_methodNamed Bd.named
  have hnm := (name_of_methodNamed Bd.named Bd.method).1
  have X0 : Stand p l e ({ frames := 0, cells := 0, slots := 0, locals := 0 } : Room) s m #[(.ref a1), (.int p2)] below meth c s₁ [] 0 0 := Stand.of_body Bd
  have e0 : s₁.heap = h0 := by rw [← hh, Bd.state]; rfl
  have N0 := Fr.nil n0
  have pre0 : ∀ t, Steps p.tables e below (s₁.setTop (mkF m 0 #[.val (.ref a1), .val (.int p2)] [])) t → Steps p.tables e below (s₁.setTop (entryFrame m #[(.ref a1), (.int p2)] 2)) t := fun t k => castTop (ef_3003 m a1 p2) k
  obtain ⟨T1, X1, e1, st1⟩ := getF X0 hx hZ hown (host := "") (Or.inl (hw _ (List.mem_of_getElem? (i := 17) rfl))) Via.refl e0 F_size_a1 (g := (mkF m 1 #[.val (.ref a1), .val (.int p2)] [(.ref a1)])) rfl rfl (hb hby d3003_1)
  obtain ⟨T2, X2, e2, st2⟩ := getF X1 hx hZ hown (host := "") (Or.inl (hw _ (List.mem_of_getElem? (i := 10) rfl))) Via.refl e1 F_values_a1 (g := (mkF m 5 #[.val (.ref a1), .val (.int p2)] [(.ref a1), (.int (3 : Int32))])) rfl rfl (hb hby d3003_5)
  obtain ⟨cl3, Ar3, q3, S3, M3, H3, G3⟩ := id V_c1
  obtain ⟨T4, X4, e4, st4⟩ := getF X2 hx hZ hown (host := "") (Or.inl (hw _ (List.mem_of_getElem? (i := 10) rfl))) Via.refl e2 F_values_a1 (g := (mkF m 30 #[.val (.ref a1), .val (.int p2)] [(.ref a1)])) rfl rfl (hb hby d3003_30)
  obtain ⟨T5, X5, e5, st5⟩ := getF X4 hx hZ hown (host := "") (Or.inl (hw _ (List.mem_of_getElem? (i := 17) rfl))) Via.refl e4 F_size_a1 (g := (mkF m 35 #[.val (.ref a1), .val (.int p2)] [(.ref a1), (.ref a1), (.ref c1)])) rfl rfl (hb hby d3003_35)
  obtain ⟨T6, h6, X6, e6, W6, st6⟩ := putF X5 hx hZ hown (host := "") (Or.inl (hw _ (List.mem_of_getElem? (i := 17) rfl))) Via.refl e5 F_size_a1 E_a1 (Or.inl (hw _ (List.mem_of_getElem? (i := 18) rfl))) (hw _ (List.mem_of_getElem? (i := 1) rfl)) (ty := .int) (by decide) rfl rfl (g := (mkF m 41 #[.val (.ref a1), .val (.int p2)] [(.int (4 : Int32)), (.ref a1), (.int (3 : Int32)), (.ref c1)])) rfl rfl (hb hby d3003_41)
  have Fw6 := Fld.same W6 F_size_a1
  have N6 := Fr.snoc X6 N0 g_a1
  have q7 := (V_c1.other W6 ne_c1_a1)
  obtain ⟨cl8, Ar8, q8, S8, M8, H8, G8⟩ := id q7
  have hin8 : ¬ ((3 : Int32) < 0 ∨ cl8.slots.size ≤ ((3 : Int32)).toNatClampNeg) := inb_of S8 ⟨by decide, by decide⟩
  obtain ⟨T8, h8, X8, e8, W8, st8⟩ := stI X6 hx hZ e6 Ar8 (j := (3 : Int32)) hin8 (g := (mkF m 45 #[.val (.ref a1), .val (.int p2)] [(.int p2), (.int (3 : Int32)), (.ref c1)])) rfl rfl (hb hby d3003_45)
  have V8 : Arv Z h8 c1 k_c1 .int (4 : Int32) [(.int e_c1_0), (.int e_c1_1), (.int e_c1_2), (.int p2)] (.int (0 : Int32)) := Arv.set Ar8 q8 S8 M8 H8 G8 rfl W8 3 rfl (Nat.le_of_ble_eq_true rfl)
  have N8 := Fr.snoc X8 N6 g_c1
  have k9 : Keep h0 h8 [a1, c1] := (((Keep.refl h0 [a1, c1]).wr W6 (Or.inl (by simp))).wr W8 (Or.inl (by simp)))
  have q10 := (Exa.wr W8 (Exa.wr W6 E_a1))
  have q11 := (Fld.other W8 Fw6 (Or.inl (Ne.symm ne_c1_a1)))
  have q12 := (Fld.other W8 (Fld.other W6 F_values_a1 (Or.inr (slot_ne (Or.inl (hw _ (List.mem_of_getElem? (i := 11) rfl))) (Or.inl (hw _ (List.mem_of_getElem? (i := 18) rfl))) (by decide) (t := (.array .int)) (t' := .int) (by decide) (by decide)))) (Or.inl (Ne.symm ne_c1_a1)))
  obtain ⟨fs, hr, hrun, hended, hW, hsame⟩ := X8.leave (v := none) (fun _ => rfl)
  refine ⟨_, _, pre0 _ ?_, hrun, hended, _, _, rfl, ?_, ⟨_, rfl⟩, hW, hsame.mono (by decide) (by decide)⟩
  · show Steps p.tables e below (s₁.setTop (mkF m 0 #[.val (.ref a1), .val (.int p2)] [])) _
    refine XS.aloadN X0.here hx rfl (hb hby d3003_0) rfl rfl ?_
    show Steps p.tables e below (s₁.setTop (mkF m 1 #[.val (.ref a1), .val (.int p2)] [(.ref a1)])) _
    refine st1 _ ?_
    show Steps p.tables e below (T1.setTop (mkF m 4 #[.val (.ref a1), .val (.int p2)] [(.int (3 : Int32))])) _
    refine XS.aloadN X1.here hx rfl (hb hby d3003_4) rfl rfl ?_
    show Steps p.tables e below (T1.setTop (mkF m 5 #[.val (.ref a1), .val (.int p2)] [(.ref a1), (.int (3 : Int32))])) _
    refine st2 _ ?_
    show Steps p.tables e below (T2.setTop (mkF m 8 #[.val (.ref a1), .val (.int p2)] [(.ref c1), (.int (3 : Int32))])) _
    refine X2.arraylength hx (by rw [e2]; exact Ar3.1) (State.isArrayOf_alike hZ.alike Ar3.2.1) (g := (mkF m 8 #[.val (.ref a1), .val (.int p2)] [(.ref c1), (.int (3 : Int32))])) rfl rfl (hb hby d3003_8) _ ?_
    rw [len_of S3 M3]
    show Steps p.tables e below (T2.setTop (mkF m 9 #[.val (.ref a1), .val (.int p2)] [(.int (4 : Int32)), (.int (3 : Int32))])) _
    refine XS.icmpYes X2.here hx rfl (pc0 := 9) (pc' := 29) rfl (hb hby d3003_9) rfl (feq (by decide : ¬ ((3 : Int32) = (4 : Int32)))).2 (by decide) (by decide) ?_
    show Steps p.tables e below (T2.setTop (mkF m 29 #[.val (.ref a1), .val (.int p2)] [])) _
    refine XS.aloadN X2.here hx rfl (hb hby d3003_29) rfl rfl ?_
    show Steps p.tables e below (T2.setTop (mkF m 30 #[.val (.ref a1), .val (.int p2)] [(.ref a1)])) _
    refine st4 _ ?_
    show Steps p.tables e below (T4.setTop (mkF m 33 #[.val (.ref a1), .val (.int p2)] [(.ref c1)])) _
    refine XS.aloadN X4.here hx rfl (hb hby d3003_33) rfl rfl ?_
    show Steps p.tables e below (T4.setTop (mkF m 34 #[.val (.ref a1), .val (.int p2)] [(.ref a1), (.ref c1)])) _
    refine XS.dup X4.here hx rfl (hb hby d3003_34) rfl rfl ?_
    show Steps p.tables e below (T4.setTop (mkF m 35 #[.val (.ref a1), .val (.int p2)] [(.ref a1), (.ref a1), (.ref c1)])) _
    refine st5 _ ?_
    show Steps p.tables e below (T5.setTop (mkF m 38 #[.val (.ref a1), .val (.int p2)] [(.int (3 : Int32)), (.ref a1), (.ref c1)])) _
    refine XS.dupX1 X5.here hx rfl (hb hby d3003_38) rfl rfl rfl ?_
    show Steps p.tables e below (T5.setTop (mkF m 39 #[.val (.ref a1), .val (.int p2)] [(.int (3 : Int32)), (.ref a1), (.int (3 : Int32)), (.ref c1)])) _
    refine XS.iconst X5.here hx rfl (hb hby d3003_39) ?_
    show Steps p.tables e below (T5.setTop (mkF m 40 #[.val (.ref a1), .val (.int p2)] [(.int (1 : Int32)), (.int (3 : Int32)), (.ref a1), (.int (3 : Int32)), (.ref c1)])) _
    refine XS.iadd X5.here hx rfl (hb hby d3003_40) rfl ?_
    show Steps p.tables e below (T5.setTop (mkF m 41 #[.val (.ref a1), .val (.int p2)] [(.int (4 : Int32)), (.ref a1), (.int (3 : Int32)), (.ref c1)])) _
    refine st6 _ ?_
    show Steps p.tables e below (T6.setTop (mkF m 44 #[.val (.ref a1), .val (.int p2)] [(.int (3 : Int32)), (.ref c1)])) _
    refine XS.iloadN X6.here hx rfl (hb hby d3003_44) rfl ?_
    show Steps p.tables e below (T6.setTop (mkF m 45 #[.val (.ref a1), .val (.int p2)] [(.int p2), (.int (3 : Int32)), (.ref c1)])) _
    refine st8 _ ?_
    show Steps p.tables e below (T8.setTop (mkF m 46 #[.val (.ref a1), .val (.int p2)] [])) _
    exact X8.returnOut hx Bd.returns (hb hby d3003_46) hr
  · show Q3003 Z a1 p2 c1 k_c1 e_c1_0 e_c1_1 e_c1_2 e_c1_3 h0 n0 _ T8.heap _
    rw [e8]
    exact ⟨rfl, N8, k9, q10, q11, q12, V8⟩
theorem d4003_0 : decode prog_41_method_2_code 0 = .ok (.aload_n 0, 1) := by decide +kernel
theorem d4003_1 : decode prog_41_method_2_code 1 = .ok (.getfield 13, 3) := by decide +kernel
theorem d4003_4 : decode prog_41_method_2_code 4 = .ok (.aload_n 0, 1) := by decide +kernel
theorem d4003_5 : decode prog_41_method_2_code 5 = .ok (.getfield 7, 3) := by decide +kernel
theorem d4003_8 : decode prog_41_method_2_code 8 = .ok (.arraylength, 1) := by decide +kernel
theorem d4003_9 : decode prog_41_method_2_code 9 = .ok (.if_icmp .ne 20, 3) := by decide +kernel
theorem d4003_12 : decode prog_41_method_2_code 12 = .ok (.aload_n 0, 1) := by decide +kernel
theorem d4003_13 : decode prog_41_method_2_code 13 = .ok (.aload_n 0, 1) := by decide +kernel
theorem d4003_14 : decode prog_41_method_2_code 14 = .ok (.getfield 7, 3) := by decide +kernel
theorem d4003_17 : decode prog_41_method_2_code 17 = .ok (.aload_n 0, 1) := by decide +kernel
theorem d4003_18 : decode prog_41_method_2_code 18 = .ok (.getfield 13, 3) := by decide +kernel
theorem d4003_21 : decode prog_41_method_2_code 21 = .ok (.iconst 2, 1) := by decide +kernel
theorem d4003_22 : decode prog_41_method_2_code 22 = .ok (.imul, 1) := by decide +kernel
theorem d4003_23 : decode prog_41_method_2_code 23 = .ok (.invokestatic 17, 3) := by decide +kernel
theorem d4003_26 : decode prog_41_method_2_code 26 = .ok (.putfield 7, 3) := by decide +kernel
theorem d4003_29 : decode prog_41_method_2_code 29 = .ok (.aload_n 0, 1) := by decide +kernel
theorem d4003_30 : decode prog_41_method_2_code 30 = .ok (.getfield 7, 3) := by decide +kernel
theorem d4003_33 : decode prog_41_method_2_code 33 = .ok (.aload_n 0, 1) := by decide +kernel
theorem d4003_34 : decode prog_41_method_2_code 34 = .ok (.dup, 1) := by decide +kernel
theorem d4003_35 : decode prog_41_method_2_code 35 = .ok (.getfield 13, 3) := by decide +kernel
theorem d4003_38 : decode prog_41_method_2_code 38 = .ok (.dup_x1, 1) := by decide +kernel
theorem d4003_39 : decode prog_41_method_2_code 39 = .ok (.iconst 1, 1) := by decide +kernel
theorem d4003_40 : decode prog_41_method_2_code 40 = .ok (.iadd, 1) := by decide +kernel
theorem d4003_41 : decode prog_41_method_2_code 41 = .ok (.putfield 13, 3) := by decide +kernel
theorem d4003_44 : decode prog_41_method_2_code 44 = .ok (.iload_n 1, 1) := by decide +kernel
theorem d4003_45 : decode prog_41_method_2_code 45 = .ok (.iastore, 1) := by decide +kernel
theorem d4003_46 : decode prog_41_method_2_code 46 = .ok (.return_, 1) := by decide +kernel
theorem pn_4003 : plainName "com/example/krel/krel/saturation/IntList" = true := by first | (simp [plainName, overriddenIn]; done) | decide +kernel
theorem pd_4003_2 : parseMethodDescriptor "([II)[I" = some ⟨[(.array .int), .int], some (.array .int)⟩ := by decide +kernel
theorem ef_4003 (m : MethodId) (a1 : Addr) (p2 : Int32) : entryFrame m #[(.ref a1), (.int p2)] 2 = mkF m 0 #[.val (.ref a1), .val (.int p2)] [] := by first | (simp [entryFrame, mkF, argsToLocals, Value.category]; done) | rfl
def Q4003 (Z : State) (a1 : Addr) (p2 : Int32) (c1 : Addr) (k_c1 : ClassId) (e_c1_0 : Int32) (e_c1_1 : Int32) (e_c1_2 : Int32) (e_c1_3 : Int32) (h0 : Heap) (n0 : Nat) (v : Option Value) (h : Heap) (L : List Loc) : Prop := ∃ (rb0 : Addr) (kb0 : ClassId) , v = none ∧ Fr n0 L ∧ n0 ≤ rb0 ∧ h0.size ≤ rb0 ∧ Keep h0 h [a1] ∧ Exa Z h a1 "com/example/krel/krel/saturation/IntList" ∧ Fld Z h a1 "com/example/krel/krel/saturation/IntList" "size" "I" (.int (5 : Int32)) ∧ Fld Z h a1 "com/example/krel/krel/saturation/IntList" "values" "[I" (.ref rb0) ∧ Arv Z h rb0 kb0 .int (8 : Int32) [(.int e_c1_0), (.int e_c1_1), (.int e_c1_2), (.int e_c1_3), (.int p2), (.int (0 : Int32)), (.int (0 : Int32)), (.int (0 : Int32))] (.int (0 : Int32))
set_option maxRecDepth 65536 in
set_option maxHeartbeats 40000000 in
theorem rm4003 (l : Launch) (Z : State) (a0 : Array Value) (hw : ∀ d ∈ tables_1, d.before a0 Z = true) (ws : List Jvm.Cond) (a1 : Addr) (p2 : Int32) (c1 : Addr) (k_c1 : ClassId) (e_c1_0 : Int32) (e_c1_1 : Int32) (e_c1_2 : Int32) (e_c1_3 : Int32) (h0 : Heap) (n0 : Nat) (Z0 : n0 ≤ h0.size) (E_a1 : Exa Z h0 a1 "com/example/krel/krel/saturation/IntList") (F_size_a1 : Fld Z h0 a1 "com/example/krel/krel/saturation/IntList" "size" "I" (.int (4 : Int32))) (F_values_a1 : Fld Z h0 a1 "com/example/krel/krel/saturation/IntList" "values" "[I" (.ref c1)) (V_c1 : Arv Z h0 c1 k_c1 .int (4 : Int32) [(.int e_c1_0), (.int e_c1_1), (.int e_c1_2), (.int e_c1_3)] (.int (0 : Int32))) (g_a1 : n0 ≤ a1) :
    MetFree l (⟨"com/example/krel/krel/saturation/IntList", "add", "(I)V"⟩ : MethodName) (head1 (Jvm.Cond.code (⟨"com/example/krel/krel/saturation/IntList", "add", "(I)V"⟩ : MethodName) prog_41_method_2_code 2 none :: ws) ({ frames := 2, cells := 1, slots := 8, locals := 66 } : Room)) (fun a U => a = #[(.ref a1), (.int p2)] ∧ Z.Warmed39 U.vm ∧ U.heap = h0) (fun _ _ _ _ _ => True) (fun _ U o U' => ∃ v L, o = .returned v ∧ Q4003 Z a1 p2 c1 k_c1 e_c1_0 e_c1_1 e_c1_2 e_c1_3 h0 n0 v U'.heap L ∧ FrameEnd U o U' L ({ frames := 2, cells := 1, slots := 8, locals := 66 } : Room).cells ({ frames := 2, cells := 1, slots := 8, locals := 66 } : Room).slots) := by
  refine MetFree.of_bodySF (plainFor_of_name pn_4003) hisR ?_
  intro p e s m args below meth c s₁ Bd hml0 hP hK
  obtain ⟨rfl, hZ, hh⟩ := hP
  have hx := Bd.exec
  have hby := Bd.bytes
  have hml : c.maxLocals = 2 := hml0
  have hown : s.vm.findClass "com/example/krel/krel/saturation/IntList" = some m.cls := findClass_of_methodNamed Bd.named
  have hnm := (name_of_methodNamed Bd.named Bd.method).1
  have X0 : Stand p l e ({ frames := 2, cells := 1, slots := 8, locals := 66 } : Room) s m #[(.ref a1), (.int p2)] below meth c s₁ [] 0 0 := Stand.of_body Bd
  have e0 : s₁.heap = h0 := by rw [← hh, Bd.state]; rfl
  have N0 := Fr.nil n0
  have pre0 : ∀ t, Steps p.tables e below (s₁.setTop (mkF m 0 #[.val (.ref a1), .val (.int p2)] [])) t → Steps p.tables e below (s₁.setTop (entryFrame m #[(.ref a1), (.int p2)] 2)) t := fun t k => castTop (ef_4003 m a1 p2) k
  obtain ⟨T1, X1, e1, st1⟩ := getF X0 hx hZ hown (host := "") (Or.inl (hw _ (List.mem_of_getElem? (i := 17) rfl))) Via.refl e0 F_size_a1 (g := (mkF m 1 #[.val (.ref a1), .val (.int p2)] [(.ref a1)])) rfl rfl (hb hby d4003_1)
  obtain ⟨T2, X2, e2, st2⟩ := getF X1 hx hZ hown (host := "") (Or.inl (hw _ (List.mem_of_getElem? (i := 10) rfl))) Via.refl e1 F_values_a1 (g := (mkF m 5 #[.val (.ref a1), .val (.int p2)] [(.ref a1), (.int (4 : Int32))])) rfl rfl (hb hby d4003_5)
  obtain ⟨cl3, Ar3, q3, S3, M3, H3, G3⟩ := id V_c1
  obtain ⟨T4, X4, e4, st4⟩ := getF X2 hx hZ hown (host := "") (Or.inl (hw _ (List.mem_of_getElem? (i := 10) rfl))) Via.refl e2 F_values_a1 (g := (mkF m 14 #[.val (.ref a1), .val (.int p2)] [(.ref a1), (.ref a1)])) rfl rfl (hb hby d4003_14)
  obtain ⟨T5, X5, e5, st5⟩ := getF X4 hx hZ hown (host := "") (Or.inl (hw _ (List.mem_of_getElem? (i := 17) rfl))) Via.refl e4 F_size_a1 (g := (mkF m 18 #[.val (.ref a1), .val (.int p2)] [(.ref a1), (.ref c1), (.ref a1)])) rfl rfl (hb hby d4003_18)
  obtain ⟨_, _, ⟨T6, L6, k6, n6⟩, -, X6, ⟨Lc6, hQ6, l6, y6, z6⟩, st6⟩ := Jvm.LawKit.callS X5 hx (y := (⟨"java/util/Arrays", "copyOf", "([II)[I"⟩ : MethodName)) hown (mvT hZ (hw _ (List.mem_of_getElem? (i := 19) rfl))) (mvT hZ (hw _ (List.mem_of_getElem? (i := 20) rfl))) (mvT hZ (hw _ (List.mem_of_getElem? (i := 21) rfl))) (mvT hZ (hw _ (List.mem_of_getElem? (i := 22) rfl))) (by decide) (backOf (W := 1) (rm4 l Z a0 hw [] c1 k_c1 e_c1_0 e_c1_1 e_c1_2 e_c1_3 h0 n0 Z0 V_c1) hZ (hw _ (List.mem_of_getElem? (i := 22) rfl)) (hw _ (List.mem_of_getElem? (i := 21) rfl)) (by decide) (by decide)) (g := (mkF m 23 #[.val (.ref a1), .val (.int p2)] [(.int (8 : Int32)), (.ref c1), (.ref a1)])) rfl (by rw [hml]; rfl) (argsL := [(.ref c1), (.int (8 : Int32))]) (rest := [(.ref a1)]) (lenOf pd_4003_2 rfl) rfl (by show 2 * 0 + _ ≤ _; exact Nat.le_of_eq rfl) (hb hby d4003_23) (fun _ _ => ⟨rfl, e5, (by decide : 0 + 1 ≤ _), (by decide : 0 + 8 ≤ _)⟩)
  dsimp only [Pt.U, Pt.locs, Pt.cells, Pt.slots] at X6 l6 y6 z6 st6 hQ6
  subst l6 y6 z6
  obtain ⟨b6_0, kk6_0, rfl, N6q, g_b6_0, hz_b6_0, K6, f6_0⟩ := hQ6
  have ne_a1_b6_0 : a1 ≠ b6_0 := Nat.ne_of_lt (Nat.lt_of_lt_of_le E_a1.lt hz_b6_0)
  have ne_c1_b6_0 : c1 ≠ b6_0 := Nat.ne_of_lt (Nat.lt_of_lt_of_le V_c1.lt hz_b6_0)
  have sz_b6_0 : h0.size ≤ b6_0 := Nat.le_trans (Keep.refl h0 ([] : List Addr)).1 hz_b6_0
  have N6 := Fr.app N0 N6q
  have q7 := (E_a1.keep K6)
  have q8 := (F_values_a1.keep K6 nin0)
  obtain ⟨T9, h9, X9, e9, W9, st9⟩ := putF X6 hx hZ hown (host := "") (Or.inl (hw _ (List.mem_of_getElem? (i := 10) rfl))) Via.refl rfl q8 q7 (Or.inl (hw _ (List.mem_of_getElem? (i := 11) rfl))) (hw _ (List.mem_of_getElem? (i := 1) rfl)) (ty := (.array .int)) (by decide) rfl rfl (g := (mkF m 26 #[.val (.ref a1), .val (.int p2)] [(.ref b6_0), (.ref a1)])) rfl rfl (hb hby d4003_26)
  have Fw9 := Fld.same W9 q8
  have N9 := Fr.snoc X9 N6 g_a1
  obtain ⟨T10, X10, e10, st10⟩ := getF X9 hx hZ hown (host := "") (Or.inl (hw _ (List.mem_of_getElem? (i := 10) rfl))) Via.refl e9 Fw9 (g := (mkF m 30 #[.val (.ref a1), .val (.int p2)] [(.ref a1)])) rfl rfl (hb hby d4003_30)
  have q11 := (Fld.other W9 (F_size_a1.keep K6 nin0) (Or.inr (slot_ne (Or.inl (hw _ (List.mem_of_getElem? (i := 18) rfl))) (Or.inl (hw _ (List.mem_of_getElem? (i := 11) rfl))) (by decide) (t := .int) (t' := (.array .int)) (by decide) (by decide))))
  obtain ⟨T12, X12, e12, st12⟩ := getF X10 hx hZ hown (host := "") (Or.inl (hw _ (List.mem_of_getElem? (i := 17) rfl))) Via.refl e10 q11 (g := (mkF m 35 #[.val (.ref a1), .val (.int p2)] [(.ref a1), (.ref a1), (.ref b6_0)])) rfl rfl (hb hby d4003_35)
  have q13 := (Exa.wr W9 q7)
  obtain ⟨T14, h14, X14, e14, W14, st14⟩ := putF X12 hx hZ hown (host := "") (Or.inl (hw _ (List.mem_of_getElem? (i := 17) rfl))) Via.refl e12 q11 q13 (Or.inl (hw _ (List.mem_of_getElem? (i := 18) rfl))) (hw _ (List.mem_of_getElem? (i := 1) rfl)) (ty := .int) (by decide) rfl rfl (g := (mkF m 41 #[.val (.ref a1), .val (.int p2)] [(.int (5 : Int32)), (.ref a1), (.int (4 : Int32)), (.ref b6_0)])) rfl rfl (hb hby d4003_41)
  have Fw14 := Fld.same W14 q11
  have N14 := Fr.snoc X14 N9 g_a1
  have q15 := ((f6_0.other W9 (Ne.symm ne_a1_b6_0)).other W14 (Ne.symm ne_a1_b6_0))
  obtain ⟨cl16, Ar16, q16, S16, M16, H16, G16⟩ := id q15
  have hin16 : ¬ ((4 : Int32) < 0 ∨ cl16.slots.size ≤ ((4 : Int32)).toNatClampNeg) := inb_of S16 ⟨by decide, by decide⟩
  obtain ⟨T16, h16, X16, e16, W16, st16⟩ := stI X14 hx hZ e14 Ar16 (j := (4 : Int32)) hin16 (g := (mkF m 45 #[.val (.ref a1), .val (.int p2)] [(.int p2), (.int (4 : Int32)), (.ref b6_0)])) rfl rfl (hb hby d4003_45)
  have V16 : Arv Z h16 b6_0 kk6_0 .int (8 : Int32) [(.int e_c1_0), (.int e_c1_1), (.int e_c1_2), (.int e_c1_3), (.int p2), (.int (0 : Int32)), (.int (0 : Int32)), (.int (0 : Int32))] (.int (0 : Int32)) := Arv.set Ar16 q16 S16 M16 H16 G16 rfl W16 4 rfl (Nat.le_of_ble_eq_true rfl)
  have N16 := Fr.snoc X16 N14 g_b6_0
  have k17 : Keep h0 h16 [a1] := (((((Keep.refl h0 [a1]).trans K6 all0).wr W9 (Or.inl (by simp))).wr W14 (Or.inl (by simp))).wr W16 (Or.inr sz_b6_0))
  have q18 := (Exa.wr W16 (Exa.wr W14 q13))
  have q19 := (Fld.other W16 Fw14 (Or.inl ne_a1_b6_0))
  have q20 := (Fld.other W16 (Fld.other W14 Fw9 (Or.inr (slot_ne (Or.inl (hw _ (List.mem_of_getElem? (i := 11) rfl))) (Or.inl (hw _ (List.mem_of_getElem? (i := 18) rfl))) (by decide) (t := (.array .int)) (t' := .int) (by decide) (by decide)))) (Or.inl ne_a1_b6_0))
  obtain ⟨fs, hr, hrun, hended, hW, hsame⟩ := X16.leave (v := none) (fun _ => rfl)
  refine ⟨_, _, pre0 _ ?_, hrun, hended, _, _, rfl, ?_, ⟨_, rfl⟩, hW, hsame.mono (by decide) (by decide)⟩
  · show Steps p.tables e below (s₁.setTop (mkF m 0 #[.val (.ref a1), .val (.int p2)] [])) _
    refine XS.aloadN X0.here hx rfl (hb hby d4003_0) rfl rfl ?_
    show Steps p.tables e below (s₁.setTop (mkF m 1 #[.val (.ref a1), .val (.int p2)] [(.ref a1)])) _
    refine st1 _ ?_
    show Steps p.tables e below (T1.setTop (mkF m 4 #[.val (.ref a1), .val (.int p2)] [(.int (4 : Int32))])) _
    refine XS.aloadN X1.here hx rfl (hb hby d4003_4) rfl rfl ?_
    show Steps p.tables e below (T1.setTop (mkF m 5 #[.val (.ref a1), .val (.int p2)] [(.ref a1), (.int (4 : Int32))])) _
    refine st2 _ ?_
    show Steps p.tables e below (T2.setTop (mkF m 8 #[.val (.ref a1), .val (.int p2)] [(.ref c1), (.int (4 : Int32))])) _
    refine X2.arraylength hx (by rw [e2]; exact Ar3.1) (State.isArrayOf_alike hZ.alike Ar3.2.1) (g := (mkF m 8 #[.val (.ref a1), .val (.int p2)] [(.ref c1), (.int (4 : Int32))])) rfl rfl (hb hby d4003_8) _ ?_
    rw [len_of S3 M3]
    show Steps p.tables e below (T2.setTop (mkF m 9 #[.val (.ref a1), .val (.int p2)] [(.int (4 : Int32)), (.int (4 : Int32))])) _
    refine XS.icmpNo X2.here hx rfl (hb hby d4003_9) rfl (teq (rfl : (4 : Int32) = (4 : Int32))).2 ?_
    show Steps p.tables e below (T2.setTop (mkF m 12 #[.val (.ref a1), .val (.int p2)] [])) _
    refine XS.aloadN X2.here hx rfl (hb hby d4003_12) rfl rfl ?_
    show Steps p.tables e below (T2.setTop (mkF m 13 #[.val (.ref a1), .val (.int p2)] [(.ref a1)])) _
    refine XS.aloadN X2.here hx rfl (hb hby d4003_13) rfl rfl ?_
    show Steps p.tables e below (T2.setTop (mkF m 14 #[.val (.ref a1), .val (.int p2)] [(.ref a1), (.ref a1)])) _
    refine st4 _ ?_
    show Steps p.tables e below (T4.setTop (mkF m 17 #[.val (.ref a1), .val (.int p2)] [(.ref c1), (.ref a1)])) _
    refine XS.aloadN X4.here hx rfl (hb hby d4003_17) rfl rfl ?_
    show Steps p.tables e below (T4.setTop (mkF m 18 #[.val (.ref a1), .val (.int p2)] [(.ref a1), (.ref c1), (.ref a1)])) _
    refine st5 _ ?_
    show Steps p.tables e below (T5.setTop (mkF m 21 #[.val (.ref a1), .val (.int p2)] [(.int (4 : Int32)), (.ref c1), (.ref a1)])) _
    refine XS.iconst X5.here hx rfl (hb hby d4003_21) ?_
    show Steps p.tables e below (T5.setTop (mkF m 22 #[.val (.ref a1), .val (.int p2)] [(.int (2 : Int32)), (.int (4 : Int32)), (.ref c1), (.ref a1)])) _
    refine XS.imul X5.here hx rfl (hb hby d4003_22) rfl ?_
    show Steps p.tables e below (T5.setTop (mkF m 23 #[.val (.ref a1), .val (.int p2)] [(.int (8 : Int32)), (.ref c1), (.ref a1)])) _
    refine st6 _ ?_
    show Steps p.tables e below (T6.setTop (mkF m 26 #[.val (.ref a1), .val (.int p2)] [(.ref b6_0), (.ref a1)])) _
    refine st9 _ ?_
    show Steps p.tables e below (T9.setTop (mkF m 29 #[.val (.ref a1), .val (.int p2)] [])) _
    refine XS.aloadN X9.here hx rfl (hb hby d4003_29) rfl rfl ?_
    show Steps p.tables e below (T9.setTop (mkF m 30 #[.val (.ref a1), .val (.int p2)] [(.ref a1)])) _
    refine st10 _ ?_
    show Steps p.tables e below (T10.setTop (mkF m 33 #[.val (.ref a1), .val (.int p2)] [(.ref b6_0)])) _
    refine XS.aloadN X10.here hx rfl (hb hby d4003_33) rfl rfl ?_
    show Steps p.tables e below (T10.setTop (mkF m 34 #[.val (.ref a1), .val (.int p2)] [(.ref a1), (.ref b6_0)])) _
    refine XS.dup X10.here hx rfl (hb hby d4003_34) rfl rfl ?_
    show Steps p.tables e below (T10.setTop (mkF m 35 #[.val (.ref a1), .val (.int p2)] [(.ref a1), (.ref a1), (.ref b6_0)])) _
    refine st12 _ ?_
    show Steps p.tables e below (T12.setTop (mkF m 38 #[.val (.ref a1), .val (.int p2)] [(.int (4 : Int32)), (.ref a1), (.ref b6_0)])) _
    refine XS.dupX1 X12.here hx rfl (hb hby d4003_38) rfl rfl rfl ?_
    show Steps p.tables e below (T12.setTop (mkF m 39 #[.val (.ref a1), .val (.int p2)] [(.int (4 : Int32)), (.ref a1), (.int (4 : Int32)), (.ref b6_0)])) _
    refine XS.iconst X12.here hx rfl (hb hby d4003_39) ?_
    show Steps p.tables e below (T12.setTop (mkF m 40 #[.val (.ref a1), .val (.int p2)] [(.int (1 : Int32)), (.int (4 : Int32)), (.ref a1), (.int (4 : Int32)), (.ref b6_0)])) _
    refine XS.iadd X12.here hx rfl (hb hby d4003_40) rfl ?_
    show Steps p.tables e below (T12.setTop (mkF m 41 #[.val (.ref a1), .val (.int p2)] [(.int (5 : Int32)), (.ref a1), (.int (4 : Int32)), (.ref b6_0)])) _
    refine st14 _ ?_
    show Steps p.tables e below (T14.setTop (mkF m 44 #[.val (.ref a1), .val (.int p2)] [(.int (4 : Int32)), (.ref b6_0)])) _
    refine XS.iloadN X14.here hx rfl (hb hby d4003_44) rfl ?_
    show Steps p.tables e below (T14.setTop (mkF m 45 #[.val (.ref a1), .val (.int p2)] [(.int p2), (.int (4 : Int32)), (.ref b6_0)])) _
    refine st16 _ ?_
    show Steps p.tables e below (T16.setTop (mkF m 46 #[.val (.ref a1), .val (.int p2)] [])) _
    exact X16.returnOut hx Bd.returns (hb hby d4003_46) hr
  · show Q4003 Z a1 p2 c1 k_c1 e_c1_0 e_c1_1 e_c1_2 e_c1_3 h0 n0 _ T16.heap _
    rw [e16]
    exact ⟨b6_0, kk6_0, rfl, N16, g_b6_0, sz_b6_0, k17, q18, q19, q20, V16⟩
theorem d6_0 : decode prog_41_method_5_code 0 = .ok (.aload_n 0, 1) := by decide +kernel
theorem d6_1 : decode prog_41_method_5_code 1 = .ok (.getfield 7, 3) := by decide +kernel
theorem d6_4 : decode prog_41_method_5_code 4 = .ok (.aload_n 0, 1) := by decide +kernel
theorem d6_5 : decode prog_41_method_5_code 5 = .ok (.dup, 1) := by decide +kernel
theorem d6_6 : decode prog_41_method_5_code 6 = .ok (.getfield 13, 3) := by decide +kernel
theorem d6_9 : decode prog_41_method_5_code 9 = .ok (.iconst 1, 1) := by decide +kernel
theorem d6_10 : decode prog_41_method_5_code 10 = .ok (.isub, 1) := by decide +kernel
theorem d6_11 : decode prog_41_method_5_code 11 = .ok (.dup_x1, 1) := by decide +kernel
theorem d6_12 : decode prog_41_method_5_code 12 = .ok (.putfield 13, 3) := by decide +kernel
theorem d6_15 : decode prog_41_method_5_code 15 = .ok (.iaload, 1) := by decide +kernel
theorem d6_16 : decode prog_41_method_5_code 16 = .ok (.ireturn, 1) := by decide +kernel
theorem pn_6 : plainName "com/example/krel/krel/saturation/IntList" = true := by first | (simp [plainName, overriddenIn]; done) | decide +kernel
theorem ef_6 (m : MethodId) (a1 : Addr) : entryFrame m #[(.ref a1)] 1 = mkF m 0 #[.val (.ref a1)] [] := by first | (simp [entryFrame, mkF, argsToLocals, Value.category]; done) | rfl
def F6 (e_c1_0 : Int32) (e_c1_1 : Int32) (e_c1_2 : Int32) (e_c1_3 : Int32) : Int32 := e_c1_0
def Q6 (Z : State) (a1 : Addr) (c1 : Addr) (k_c1 : ClassId) (e_c1_0 : Int32) (e_c1_1 : Int32) (e_c1_2 : Int32) (e_c1_3 : Int32) (h0 : Heap) (n0 : Nat) (v : Option Value) (h : Heap) (L : List Loc) : Prop := v = some (.int (F6 e_c1_0 e_c1_1 e_c1_2 e_c1_3)) ∧ Fr n0 L ∧ Keep h0 h [a1] ∧ Exa Z h a1 "com/example/krel/krel/saturation/IntList" ∧ Fld Z h a1 "com/example/krel/krel/saturation/IntList" "size" "I" (.int (0 : Int32)) ∧ Fld Z h a1 "com/example/krel/krel/saturation/IntList" "values" "[I" (.ref c1)
set_option maxRecDepth 65536 in
set_option maxHeartbeats 40000000 in
theorem rm6 (l : Launch) (Z : State) (a0 : Array Value) (hw : ∀ d ∈ tables_1, d.before a0 Z = true) (ws : List Jvm.Cond) (a1 : Addr) (c1 : Addr) (k_c1 : ClassId) (e_c1_0 : Int32) (e_c1_1 : Int32) (e_c1_2 : Int32) (e_c1_3 : Int32) (h0 : Heap) (n0 : Nat) (Z0 : n0 ≤ h0.size) (E_a1 : Exa Z h0 a1 "com/example/krel/krel/saturation/IntList") (F_size_a1 : Fld Z h0 a1 "com/example/krel/krel/saturation/IntList" "size" "I" (.int (1 : Int32))) (F_values_a1 : Fld Z h0 a1 "com/example/krel/krel/saturation/IntList" "values" "[I" (.ref c1)) (V_c1 : Arv Z h0 c1 k_c1 .int (4 : Int32) [(.int e_c1_0), (.int e_c1_1), (.int e_c1_2), (.int e_c1_3)] (.int (0 : Int32))) (g_a1 : n0 ≤ a1) (ne_c1_a1 : c1 ≠ a1) :
    MetFree l (⟨"com/example/krel/krel/saturation/IntList", "pop", "()I"⟩ : MethodName) (head1 (Jvm.Cond.code (⟨"com/example/krel/krel/saturation/IntList", "pop", "()I"⟩ : MethodName) prog_41_method_5_code 1 (some .int) :: ws) ({ frames := 0, cells := 0, slots := 0, locals := 0 } : Room)) (fun a U => a = #[(.ref a1)] ∧ Z.Warmed39 U.vm ∧ U.heap = h0) (fun _ _ _ _ _ => True) (fun _ U o U' => ∃ v L, o = .returned v ∧ Q6 Z a1 c1 k_c1 e_c1_0 e_c1_1 e_c1_2 e_c1_3 h0 n0 v U'.heap L ∧ FrameEnd U o U' L ({ frames := 0, cells := 0, slots := 0, locals := 0 } : Room).cells ({ frames := 0, cells := 0, slots := 0, locals := 0 } : Room).slots) := by
  refine MetFree.of_bodySF (plainFor_of_name pn_6) hisR ?_
  intro p e s m args below meth c s₁ Bd hml0 hP hK
  obtain ⟨rfl, hZ, hh⟩ := hP
  have hx := Bd.exec
  have hby := Bd.bytes
  have hml : c.maxLocals = 1 := hml0
  have hown : s.vm.findClass "com/example/krel/krel/saturation/IntList" = some m.cls := findClass_of_methodNamed Bd.named
  have hnm := (name_of_methodNamed Bd.named Bd.method).1
  have X0 : Stand p l e ({ frames := 0, cells := 0, slots := 0, locals := 0 } : Room) s m #[(.ref a1)] below meth c s₁ [] 0 0 := Stand.of_body Bd
  have e0 : s₁.heap = h0 := by rw [← hh, Bd.state]; rfl
  have N0 := Fr.nil n0
  have pre0 : ∀ t, Steps p.tables e below (s₁.setTop (mkF m 0 #[.val (.ref a1)] [])) t → Steps p.tables e below (s₁.setTop (entryFrame m #[(.ref a1)] 1)) t := fun t k => castTop (ef_6 m a1) k
  obtain ⟨T1, X1, e1, st1⟩ := getF X0 hx hZ hown (host := "") (Or.inl (hw _ (List.mem_of_getElem? (i := 10) rfl))) Via.refl e0 F_values_a1 (g := (mkF m 1 #[.val (.ref a1)] [(.ref a1)])) rfl rfl (hb hby d6_1)
  obtain ⟨T2, X2, e2, st2⟩ := getF X1 hx hZ hown (host := "") (Or.inl (hw _ (List.mem_of_getElem? (i := 17) rfl))) Via.refl e1 F_size_a1 (g := (mkF m 6 #[.val (.ref a1)] [(.ref a1), (.ref a1), (.ref c1)])) rfl rfl (hb hby d6_6)
  obtain ⟨T3, h3, X3, e3, W3, st3⟩ := putF X2 hx hZ hown (host := "") (Or.inl (hw _ (List.mem_of_getElem? (i := 17) rfl))) Via.refl e2 F_size_a1 E_a1 (Or.inl (hw _ (List.mem_of_getElem? (i := 18) rfl))) (hw _ (List.mem_of_getElem? (i := 1) rfl)) (ty := .int) (by decide) rfl rfl (g := (mkF m 12 #[.val (.ref a1)] [(.int (0 : Int32)), (.ref a1), (.int (0 : Int32)), (.ref c1)])) rfl rfl (hb hby d6_12)
  have Fw3 := Fld.same W3 F_size_a1
  have N3 := Fr.snoc X3 N0 g_a1
  have q4 := (V_c1.other W3 ne_c1_a1)
  obtain ⟨cl5, Ar5, q5, S5, M5, H5, G5⟩ := id q4
  have hin5 : ¬ ((0 : Int32) < 0 ∨ cl5.slots.size ≤ ((0 : Int32)).toNatClampNeg) := inb_of S5 ⟨by decide, by decide⟩
  have hat5 : cl5.slots[((0 : Int32)).toNatClampNeg]? = some (.int e_c1_0) := Has.at H5 hin5 rfl
  have k6 : Keep h0 h3 [a1] := ((Keep.refl h0 [a1]).wr W3 (Or.inl (by simp)))
  have q7 := (Exa.wr W3 E_a1)
  have q8 := (Fld.other W3 F_values_a1 (Or.inr (slot_ne (Or.inl (hw _ (List.mem_of_getElem? (i := 11) rfl))) (Or.inl (hw _ (List.mem_of_getElem? (i := 18) rfl))) (by decide) (t := (.array .int)) (t' := .int) (by decide) (by decide))))
  obtain ⟨fs, hr, hrun, hended, hW, hsame⟩ := X3.leave (v := some (.int e_c1_0)) (fun h => by rw [Bd.returns] at h; cases h)
  refine ⟨_, _, pre0 _ ?_, hrun, hended, _, _, rfl, ?_, ⟨_, rfl⟩, hW, hsame.mono (by decide) (by decide)⟩
  · show Steps p.tables e below (s₁.setTop (mkF m 0 #[.val (.ref a1)] [])) _
    refine XS.aloadN X0.here hx rfl (hb hby d6_0) rfl rfl ?_
    show Steps p.tables e below (s₁.setTop (mkF m 1 #[.val (.ref a1)] [(.ref a1)])) _
    refine st1 _ ?_
    show Steps p.tables e below (T1.setTop (mkF m 4 #[.val (.ref a1)] [(.ref c1)])) _
    refine XS.aloadN X1.here hx rfl (hb hby d6_4) rfl rfl ?_
    show Steps p.tables e below (T1.setTop (mkF m 5 #[.val (.ref a1)] [(.ref a1), (.ref c1)])) _
    refine XS.dup X1.here hx rfl (hb hby d6_5) rfl rfl ?_
    show Steps p.tables e below (T1.setTop (mkF m 6 #[.val (.ref a1)] [(.ref a1), (.ref a1), (.ref c1)])) _
    refine st2 _ ?_
    show Steps p.tables e below (T2.setTop (mkF m 9 #[.val (.ref a1)] [(.int (1 : Int32)), (.ref a1), (.ref c1)])) _
    refine XS.iconst X2.here hx rfl (hb hby d6_9) ?_
    show Steps p.tables e below (T2.setTop (mkF m 10 #[.val (.ref a1)] [(.int (1 : Int32)), (.int (1 : Int32)), (.ref a1), (.ref c1)])) _
    refine XS.isub X2.here hx rfl (hb hby d6_10) rfl ?_
    show Steps p.tables e below (T2.setTop (mkF m 11 #[.val (.ref a1)] [(.int (0 : Int32)), (.ref a1), (.ref c1)])) _
    refine XS.dupX1 X2.here hx rfl (hb hby d6_11) rfl rfl rfl ?_
    show Steps p.tables e below (T2.setTop (mkF m 12 #[.val (.ref a1)] [(.int (0 : Int32)), (.ref a1), (.int (0 : Int32)), (.ref c1)])) _
    refine st3 _ ?_
    show Steps p.tables e below (T3.setTop (mkF m 15 #[.val (.ref a1)] [(.int (0 : Int32)), (.ref c1)])) _
    refine X3.iaload hx (j := (0 : Int32)) (v := (.int e_c1_0)) (by rw [e3]; exact Ar5.1) (State.isArrayOf_alike hZ.alike Ar5.2.1) Ar5.2.2 hin5 hat5 (g := (mkF m 15 #[.val (.ref a1)] [(.int (0 : Int32)), (.ref c1)])) rfl rfl (hb hby d6_15) _ ?_
    show Steps p.tables e below (T3.setTop (mkF m 16 #[.val (.ref a1)] [(.int e_c1_0)])) _
    exact retI X3 hx Bd.returns (hb hby d6_16) hr
  · show Q6 Z a1 c1 k_c1 e_c1_0 e_c1_1 e_c1_2 e_c1_3 h0 n0 _ T3.heap _
    rw [e3]
    refine ⟨?_, N3, k6, q7, Fw3, q8⟩
    show (some (.int e_c1_0) : Option Value) = some (.int (F6 e_c1_0 e_c1_1 e_c1_2 e_c1_3))
    rw [F6]
theorem d1006_0 : decode prog_41_method_5_code 0 = .ok (.aload_n 0, 1) := by decide +kernel
theorem d1006_1 : decode prog_41_method_5_code 1 = .ok (.getfield 7, 3) := by decide +kernel
theorem d1006_4 : decode prog_41_method_5_code 4 = .ok (.aload_n 0, 1) := by decide +kernel
theorem d1006_5 : decode prog_41_method_5_code 5 = .ok (.dup, 1) := by decide +kernel
theorem d1006_6 : decode prog_41_method_5_code 6 = .ok (.getfield 13, 3) := by decide +kernel
theorem d1006_9 : decode prog_41_method_5_code 9 = .ok (.iconst 1, 1) := by decide +kernel
theorem d1006_10 : decode prog_41_method_5_code 10 = .ok (.isub, 1) := by decide +kernel
theorem d1006_11 : decode prog_41_method_5_code 11 = .ok (.dup_x1, 1) := by decide +kernel
theorem d1006_12 : decode prog_41_method_5_code 12 = .ok (.putfield 13, 3) := by decide +kernel
theorem d1006_15 : decode prog_41_method_5_code 15 = .ok (.iaload, 1) := by decide +kernel
theorem d1006_16 : decode prog_41_method_5_code 16 = .ok (.ireturn, 1) := by decide +kernel
theorem pn_1006 : plainName "com/example/krel/krel/saturation/IntList" = true := by first | (simp [plainName, overriddenIn]; done) | decide +kernel
theorem ef_1006 (m : MethodId) (a1 : Addr) : entryFrame m #[(.ref a1)] 1 = mkF m 0 #[.val (.ref a1)] [] := by first | (simp [entryFrame, mkF, argsToLocals, Value.category]; done) | rfl
def F1006 (e_c1_0 : Int32) (e_c1_1 : Int32) (e_c1_2 : Int32) (e_c1_3 : Int32) : Int32 := e_c1_1
def Q1006 (Z : State) (a1 : Addr) (c1 : Addr) (k_c1 : ClassId) (e_c1_0 : Int32) (e_c1_1 : Int32) (e_c1_2 : Int32) (e_c1_3 : Int32) (h0 : Heap) (n0 : Nat) (v : Option Value) (h : Heap) (L : List Loc) : Prop := v = some (.int (F1006 e_c1_0 e_c1_1 e_c1_2 e_c1_3)) ∧ Fr n0 L ∧ Keep h0 h [a1] ∧ Exa Z h a1 "com/example/krel/krel/saturation/IntList" ∧ Fld Z h a1 "com/example/krel/krel/saturation/IntList" "size" "I" (.int (1 : Int32)) ∧ Fld Z h a1 "com/example/krel/krel/saturation/IntList" "values" "[I" (.ref c1)
set_option maxRecDepth 65536 in
set_option maxHeartbeats 40000000 in
theorem rm1006 (l : Launch) (Z : State) (a0 : Array Value) (hw : ∀ d ∈ tables_1, d.before a0 Z = true) (ws : List Jvm.Cond) (a1 : Addr) (c1 : Addr) (k_c1 : ClassId) (e_c1_0 : Int32) (e_c1_1 : Int32) (e_c1_2 : Int32) (e_c1_3 : Int32) (h0 : Heap) (n0 : Nat) (Z0 : n0 ≤ h0.size) (E_a1 : Exa Z h0 a1 "com/example/krel/krel/saturation/IntList") (F_size_a1 : Fld Z h0 a1 "com/example/krel/krel/saturation/IntList" "size" "I" (.int (2 : Int32))) (F_values_a1 : Fld Z h0 a1 "com/example/krel/krel/saturation/IntList" "values" "[I" (.ref c1)) (V_c1 : Arv Z h0 c1 k_c1 .int (4 : Int32) [(.int e_c1_0), (.int e_c1_1), (.int e_c1_2), (.int e_c1_3)] (.int (0 : Int32))) (g_a1 : n0 ≤ a1) (ne_c1_a1 : c1 ≠ a1) :
    MetFree l (⟨"com/example/krel/krel/saturation/IntList", "pop", "()I"⟩ : MethodName) (head1 (Jvm.Cond.code (⟨"com/example/krel/krel/saturation/IntList", "pop", "()I"⟩ : MethodName) prog_41_method_5_code 1 (some .int) :: ws) ({ frames := 0, cells := 0, slots := 0, locals := 0 } : Room)) (fun a U => a = #[(.ref a1)] ∧ Z.Warmed39 U.vm ∧ U.heap = h0) (fun _ _ _ _ _ => True) (fun _ U o U' => ∃ v L, o = .returned v ∧ Q1006 Z a1 c1 k_c1 e_c1_0 e_c1_1 e_c1_2 e_c1_3 h0 n0 v U'.heap L ∧ FrameEnd U o U' L ({ frames := 0, cells := 0, slots := 0, locals := 0 } : Room).cells ({ frames := 0, cells := 0, slots := 0, locals := 0 } : Room).slots) := by
  refine MetFree.of_bodySF (plainFor_of_name pn_1006) hisR ?_
  intro p e s m args below meth c s₁ Bd hml0 hP hK
  obtain ⟨rfl, hZ, hh⟩ := hP
  have hx := Bd.exec
  have hby := Bd.bytes
  have hml : c.maxLocals = 1 := hml0
  have hown : s.vm.findClass "com/example/krel/krel/saturation/IntList" = some m.cls := findClass_of_methodNamed Bd.named
  have hnm := (name_of_methodNamed Bd.named Bd.method).1
  have X0 : Stand p l e ({ frames := 0, cells := 0, slots := 0, locals := 0 } : Room) s m #[(.ref a1)] below meth c s₁ [] 0 0 := Stand.of_body Bd
  have e0 : s₁.heap = h0 := by rw [← hh, Bd.state]; rfl
  have N0 := Fr.nil n0
  have pre0 : ∀ t, Steps p.tables e below (s₁.setTop (mkF m 0 #[.val (.ref a1)] [])) t → Steps p.tables e below (s₁.setTop (entryFrame m #[(.ref a1)] 1)) t := fun t k => castTop (ef_1006 m a1) k
  obtain ⟨T1, X1, e1, st1⟩ := getF X0 hx hZ hown (host := "") (Or.inl (hw _ (List.mem_of_getElem? (i := 10) rfl))) Via.refl e0 F_values_a1 (g := (mkF m 1 #[.val (.ref a1)] [(.ref a1)])) rfl rfl (hb hby d1006_1)
  obtain ⟨T2, X2, e2, st2⟩ := getF X1 hx hZ hown (host := "") (Or.inl (hw _ (List.mem_of_getElem? (i := 17) rfl))) Via.refl e1 F_size_a1 (g := (mkF m 6 #[.val (.ref a1)] [(.ref a1), (.ref a1), (.ref c1)])) rfl rfl (hb hby d1006_6)
  obtain ⟨T3, h3, X3, e3, W3, st3⟩ := putF X2 hx hZ hown (host := "") (Or.inl (hw _ (List.mem_of_getElem? (i := 17) rfl))) Via.refl e2 F_size_a1 E_a1 (Or.inl (hw _ (List.mem_of_getElem? (i := 18) rfl))) (hw _ (List.mem_of_getElem? (i := 1) rfl)) (ty := .int) (by decide) rfl rfl (g := (mkF m 12 #[.val (.ref a1)] [(.int (1 : Int32)), (.ref a1), (.int (1 : Int32)), (.ref c1)])) rfl rfl (hb hby d1006_12)
  have Fw3 := Fld.same W3 F_size_a1
  have N3 := Fr.snoc X3 N0 g_a1
  have q4 := (V_c1.other W3 ne_c1_a1)
  obtain ⟨cl5, Ar5, q5, S5, M5, H5, G5⟩ := id q4
  have hin5 : ¬ ((1 : Int32) < 0 ∨ cl5.slots.size ≤ ((1 : Int32)).toNatClampNeg) := inb_of S5 ⟨by decide, by decide⟩
  have hat5 : cl5.slots[((1 : Int32)).toNatClampNeg]? = some (.int e_c1_1) := Has.at H5 hin5 rfl
  have k6 : Keep h0 h3 [a1] := ((Keep.refl h0 [a1]).wr W3 (Or.inl (by simp)))
  have q7 := (Exa.wr W3 E_a1)
  have q8 := (Fld.other W3 F_values_a1 (Or.inr (slot_ne (Or.inl (hw _ (List.mem_of_getElem? (i := 11) rfl))) (Or.inl (hw _ (List.mem_of_getElem? (i := 18) rfl))) (by decide) (t := (.array .int)) (t' := .int) (by decide) (by decide))))
  obtain ⟨fs, hr, hrun, hended, hW, hsame⟩ := X3.leave (v := some (.int e_c1_1)) (fun h => by rw [Bd.returns] at h; cases h)
  refine ⟨_, _, pre0 _ ?_, hrun, hended, _, _, rfl, ?_, ⟨_, rfl⟩, hW, hsame.mono (by decide) (by decide)⟩
  · show Steps p.tables e below (s₁.setTop (mkF m 0 #[.val (.ref a1)] [])) _
    refine XS.aloadN X0.here hx rfl (hb hby d1006_0) rfl rfl ?_
    show Steps p.tables e below (s₁.setTop (mkF m 1 #[.val (.ref a1)] [(.ref a1)])) _
    refine st1 _ ?_
    show Steps p.tables e below (T1.setTop (mkF m 4 #[.val (.ref a1)] [(.ref c1)])) _
    refine XS.aloadN X1.here hx rfl (hb hby d1006_4) rfl rfl ?_
    show Steps p.tables e below (T1.setTop (mkF m 5 #[.val (.ref a1)] [(.ref a1), (.ref c1)])) _
    refine XS.dup X1.here hx rfl (hb hby d1006_5) rfl rfl ?_
    show Steps p.tables e below (T1.setTop (mkF m 6 #[.val (.ref a1)] [(.ref a1), (.ref a1), (.ref c1)])) _
    refine st2 _ ?_
    show Steps p.tables e below (T2.setTop (mkF m 9 #[.val (.ref a1)] [(.int (2 : Int32)), (.ref a1), (.ref c1)])) _
    refine XS.iconst X2.here hx rfl (hb hby d1006_9) ?_
    show Steps p.tables e below (T2.setTop (mkF m 10 #[.val (.ref a1)] [(.int (1 : Int32)), (.int (2 : Int32)), (.ref a1), (.ref c1)])) _
    refine XS.isub X2.here hx rfl (hb hby d1006_10) rfl ?_
    show Steps p.tables e below (T2.setTop (mkF m 11 #[.val (.ref a1)] [(.int (1 : Int32)), (.ref a1), (.ref c1)])) _
    refine XS.dupX1 X2.here hx rfl (hb hby d1006_11) rfl rfl rfl ?_
    show Steps p.tables e below (T2.setTop (mkF m 12 #[.val (.ref a1)] [(.int (1 : Int32)), (.ref a1), (.int (1 : Int32)), (.ref c1)])) _
    refine st3 _ ?_
    show Steps p.tables e below (T3.setTop (mkF m 15 #[.val (.ref a1)] [(.int (1 : Int32)), (.ref c1)])) _
    refine X3.iaload hx (j := (1 : Int32)) (v := (.int e_c1_1)) (by rw [e3]; exact Ar5.1) (State.isArrayOf_alike hZ.alike Ar5.2.1) Ar5.2.2 hin5 hat5 (g := (mkF m 15 #[.val (.ref a1)] [(.int (1 : Int32)), (.ref c1)])) rfl rfl (hb hby d1006_15) _ ?_
    show Steps p.tables e below (T3.setTop (mkF m 16 #[.val (.ref a1)] [(.int e_c1_1)])) _
    exact retI X3 hx Bd.returns (hb hby d1006_16) hr
  · show Q1006 Z a1 c1 k_c1 e_c1_0 e_c1_1 e_c1_2 e_c1_3 h0 n0 _ T3.heap _
    rw [e3]
    refine ⟨?_, N3, k6, q7, Fw3, q8⟩
    show (some (.int e_c1_1) : Option Value) = some (.int (F1006 e_c1_0 e_c1_1 e_c1_2 e_c1_3))
    rw [F1006]
theorem d2006_0 : decode prog_41_method_5_code 0 = .ok (.aload_n 0, 1) := by decide +kernel
theorem d2006_1 : decode prog_41_method_5_code 1 = .ok (.getfield 7, 3) := by decide +kernel
theorem d2006_4 : decode prog_41_method_5_code 4 = .ok (.aload_n 0, 1) := by decide +kernel
theorem d2006_5 : decode prog_41_method_5_code 5 = .ok (.dup, 1) := by decide +kernel
theorem d2006_6 : decode prog_41_method_5_code 6 = .ok (.getfield 13, 3) := by decide +kernel
theorem d2006_9 : decode prog_41_method_5_code 9 = .ok (.iconst 1, 1) := by decide +kernel
theorem d2006_10 : decode prog_41_method_5_code 10 = .ok (.isub, 1) := by decide +kernel
theorem d2006_11 : decode prog_41_method_5_code 11 = .ok (.dup_x1, 1) := by decide +kernel
theorem d2006_12 : decode prog_41_method_5_code 12 = .ok (.putfield 13, 3) := by decide +kernel
theorem d2006_15 : decode prog_41_method_5_code 15 = .ok (.iaload, 1) := by decide +kernel
theorem d2006_16 : decode prog_41_method_5_code 16 = .ok (.ireturn, 1) := by decide +kernel
theorem pn_2006 : plainName "com/example/krel/krel/saturation/IntList" = true := by first | (simp [plainName, overriddenIn]; done) | decide +kernel
theorem ef_2006 (m : MethodId) (a1 : Addr) : entryFrame m #[(.ref a1)] 1 = mkF m 0 #[.val (.ref a1)] [] := by first | (simp [entryFrame, mkF, argsToLocals, Value.category]; done) | rfl
def F2006 (e_c1_0 : Int32) (e_c1_1 : Int32) (e_c1_2 : Int32) (e_c1_3 : Int32) : Int32 := e_c1_2
def Q2006 (Z : State) (a1 : Addr) (c1 : Addr) (k_c1 : ClassId) (e_c1_0 : Int32) (e_c1_1 : Int32) (e_c1_2 : Int32) (e_c1_3 : Int32) (h0 : Heap) (n0 : Nat) (v : Option Value) (h : Heap) (L : List Loc) : Prop := v = some (.int (F2006 e_c1_0 e_c1_1 e_c1_2 e_c1_3)) ∧ Fr n0 L ∧ Keep h0 h [a1] ∧ Exa Z h a1 "com/example/krel/krel/saturation/IntList" ∧ Fld Z h a1 "com/example/krel/krel/saturation/IntList" "size" "I" (.int (2 : Int32)) ∧ Fld Z h a1 "com/example/krel/krel/saturation/IntList" "values" "[I" (.ref c1)
set_option maxRecDepth 65536 in
set_option maxHeartbeats 40000000 in
theorem rm2006 (l : Launch) (Z : State) (a0 : Array Value) (hw : ∀ d ∈ tables_1, d.before a0 Z = true) (ws : List Jvm.Cond) (a1 : Addr) (c1 : Addr) (k_c1 : ClassId) (e_c1_0 : Int32) (e_c1_1 : Int32) (e_c1_2 : Int32) (e_c1_3 : Int32) (h0 : Heap) (n0 : Nat) (Z0 : n0 ≤ h0.size) (E_a1 : Exa Z h0 a1 "com/example/krel/krel/saturation/IntList") (F_size_a1 : Fld Z h0 a1 "com/example/krel/krel/saturation/IntList" "size" "I" (.int (3 : Int32))) (F_values_a1 : Fld Z h0 a1 "com/example/krel/krel/saturation/IntList" "values" "[I" (.ref c1)) (V_c1 : Arv Z h0 c1 k_c1 .int (4 : Int32) [(.int e_c1_0), (.int e_c1_1), (.int e_c1_2), (.int e_c1_3)] (.int (0 : Int32))) (g_a1 : n0 ≤ a1) (ne_c1_a1 : c1 ≠ a1) :
    MetFree l (⟨"com/example/krel/krel/saturation/IntList", "pop", "()I"⟩ : MethodName) (head1 (Jvm.Cond.code (⟨"com/example/krel/krel/saturation/IntList", "pop", "()I"⟩ : MethodName) prog_41_method_5_code 1 (some .int) :: ws) ({ frames := 0, cells := 0, slots := 0, locals := 0 } : Room)) (fun a U => a = #[(.ref a1)] ∧ Z.Warmed39 U.vm ∧ U.heap = h0) (fun _ _ _ _ _ => True) (fun _ U o U' => ∃ v L, o = .returned v ∧ Q2006 Z a1 c1 k_c1 e_c1_0 e_c1_1 e_c1_2 e_c1_3 h0 n0 v U'.heap L ∧ FrameEnd U o U' L ({ frames := 0, cells := 0, slots := 0, locals := 0 } : Room).cells ({ frames := 0, cells := 0, slots := 0, locals := 0 } : Room).slots) := by
  refine MetFree.of_bodySF (plainFor_of_name pn_2006) hisR ?_
  intro p e s m args below meth c s₁ Bd hml0 hP hK
  obtain ⟨rfl, hZ, hh⟩ := hP
  have hx := Bd.exec
  have hby := Bd.bytes
  have hml : c.maxLocals = 1 := hml0
  have hown : s.vm.findClass "com/example/krel/krel/saturation/IntList" = some m.cls := findClass_of_methodNamed Bd.named
  have hnm := (name_of_methodNamed Bd.named Bd.method).1
  have X0 : Stand p l e ({ frames := 0, cells := 0, slots := 0, locals := 0 } : Room) s m #[(.ref a1)] below meth c s₁ [] 0 0 := Stand.of_body Bd
  have e0 : s₁.heap = h0 := by rw [← hh, Bd.state]; rfl
  have N0 := Fr.nil n0
  have pre0 : ∀ t, Steps p.tables e below (s₁.setTop (mkF m 0 #[.val (.ref a1)] [])) t → Steps p.tables e below (s₁.setTop (entryFrame m #[(.ref a1)] 1)) t := fun t k => castTop (ef_2006 m a1) k
  obtain ⟨T1, X1, e1, st1⟩ := getF X0 hx hZ hown (host := "") (Or.inl (hw _ (List.mem_of_getElem? (i := 10) rfl))) Via.refl e0 F_values_a1 (g := (mkF m 1 #[.val (.ref a1)] [(.ref a1)])) rfl rfl (hb hby d2006_1)
  obtain ⟨T2, X2, e2, st2⟩ := getF X1 hx hZ hown (host := "") (Or.inl (hw _ (List.mem_of_getElem? (i := 17) rfl))) Via.refl e1 F_size_a1 (g := (mkF m 6 #[.val (.ref a1)] [(.ref a1), (.ref a1), (.ref c1)])) rfl rfl (hb hby d2006_6)
  obtain ⟨T3, h3, X3, e3, W3, st3⟩ := putF X2 hx hZ hown (host := "") (Or.inl (hw _ (List.mem_of_getElem? (i := 17) rfl))) Via.refl e2 F_size_a1 E_a1 (Or.inl (hw _ (List.mem_of_getElem? (i := 18) rfl))) (hw _ (List.mem_of_getElem? (i := 1) rfl)) (ty := .int) (by decide) rfl rfl (g := (mkF m 12 #[.val (.ref a1)] [(.int (2 : Int32)), (.ref a1), (.int (2 : Int32)), (.ref c1)])) rfl rfl (hb hby d2006_12)
  have Fw3 := Fld.same W3 F_size_a1
  have N3 := Fr.snoc X3 N0 g_a1
  have q4 := (V_c1.other W3 ne_c1_a1)
  obtain ⟨cl5, Ar5, q5, S5, M5, H5, G5⟩ := id q4
  have hin5 : ¬ ((2 : Int32) < 0 ∨ cl5.slots.size ≤ ((2 : Int32)).toNatClampNeg) := inb_of S5 ⟨by decide, by decide⟩
  have hat5 : cl5.slots[((2 : Int32)).toNatClampNeg]? = some (.int e_c1_2) := Has.at H5 hin5 rfl
  have k6 : Keep h0 h3 [a1] := ((Keep.refl h0 [a1]).wr W3 (Or.inl (by simp)))
  have q7 := (Exa.wr W3 E_a1)
  have q8 := (Fld.other W3 F_values_a1 (Or.inr (slot_ne (Or.inl (hw _ (List.mem_of_getElem? (i := 11) rfl))) (Or.inl (hw _ (List.mem_of_getElem? (i := 18) rfl))) (by decide) (t := (.array .int)) (t' := .int) (by decide) (by decide))))
  obtain ⟨fs, hr, hrun, hended, hW, hsame⟩ := X3.leave (v := some (.int e_c1_2)) (fun h => by rw [Bd.returns] at h; cases h)
  refine ⟨_, _, pre0 _ ?_, hrun, hended, _, _, rfl, ?_, ⟨_, rfl⟩, hW, hsame.mono (by decide) (by decide)⟩
  · show Steps p.tables e below (s₁.setTop (mkF m 0 #[.val (.ref a1)] [])) _
    refine XS.aloadN X0.here hx rfl (hb hby d2006_0) rfl rfl ?_
    show Steps p.tables e below (s₁.setTop (mkF m 1 #[.val (.ref a1)] [(.ref a1)])) _
    refine st1 _ ?_
    show Steps p.tables e below (T1.setTop (mkF m 4 #[.val (.ref a1)] [(.ref c1)])) _
    refine XS.aloadN X1.here hx rfl (hb hby d2006_4) rfl rfl ?_
    show Steps p.tables e below (T1.setTop (mkF m 5 #[.val (.ref a1)] [(.ref a1), (.ref c1)])) _
    refine XS.dup X1.here hx rfl (hb hby d2006_5) rfl rfl ?_
    show Steps p.tables e below (T1.setTop (mkF m 6 #[.val (.ref a1)] [(.ref a1), (.ref a1), (.ref c1)])) _
    refine st2 _ ?_
    show Steps p.tables e below (T2.setTop (mkF m 9 #[.val (.ref a1)] [(.int (3 : Int32)), (.ref a1), (.ref c1)])) _
    refine XS.iconst X2.here hx rfl (hb hby d2006_9) ?_
    show Steps p.tables e below (T2.setTop (mkF m 10 #[.val (.ref a1)] [(.int (1 : Int32)), (.int (3 : Int32)), (.ref a1), (.ref c1)])) _
    refine XS.isub X2.here hx rfl (hb hby d2006_10) rfl ?_
    show Steps p.tables e below (T2.setTop (mkF m 11 #[.val (.ref a1)] [(.int (2 : Int32)), (.ref a1), (.ref c1)])) _
    refine XS.dupX1 X2.here hx rfl (hb hby d2006_11) rfl rfl rfl ?_
    show Steps p.tables e below (T2.setTop (mkF m 12 #[.val (.ref a1)] [(.int (2 : Int32)), (.ref a1), (.int (2 : Int32)), (.ref c1)])) _
    refine st3 _ ?_
    show Steps p.tables e below (T3.setTop (mkF m 15 #[.val (.ref a1)] [(.int (2 : Int32)), (.ref c1)])) _
    refine X3.iaload hx (j := (2 : Int32)) (v := (.int e_c1_2)) (by rw [e3]; exact Ar5.1) (State.isArrayOf_alike hZ.alike Ar5.2.1) Ar5.2.2 hin5 hat5 (g := (mkF m 15 #[.val (.ref a1)] [(.int (2 : Int32)), (.ref c1)])) rfl rfl (hb hby d2006_15) _ ?_
    show Steps p.tables e below (T3.setTop (mkF m 16 #[.val (.ref a1)] [(.int e_c1_2)])) _
    exact retI X3 hx Bd.returns (hb hby d2006_16) hr
  · show Q2006 Z a1 c1 k_c1 e_c1_0 e_c1_1 e_c1_2 e_c1_3 h0 n0 _ T3.heap _
    rw [e3]
    refine ⟨?_, N3, k6, q7, Fw3, q8⟩
    show (some (.int e_c1_2) : Option Value) = some (.int (F2006 e_c1_0 e_c1_1 e_c1_2 e_c1_3))
    rw [F2006]
theorem d3006_0 : decode prog_41_method_5_code 0 = .ok (.aload_n 0, 1) := by decide +kernel
theorem d3006_1 : decode prog_41_method_5_code 1 = .ok (.getfield 7, 3) := by decide +kernel
theorem d3006_4 : decode prog_41_method_5_code 4 = .ok (.aload_n 0, 1) := by decide +kernel
theorem d3006_5 : decode prog_41_method_5_code 5 = .ok (.dup, 1) := by decide +kernel
theorem d3006_6 : decode prog_41_method_5_code 6 = .ok (.getfield 13, 3) := by decide +kernel
theorem d3006_9 : decode prog_41_method_5_code 9 = .ok (.iconst 1, 1) := by decide +kernel
theorem d3006_10 : decode prog_41_method_5_code 10 = .ok (.isub, 1) := by decide +kernel
theorem d3006_11 : decode prog_41_method_5_code 11 = .ok (.dup_x1, 1) := by decide +kernel
theorem d3006_12 : decode prog_41_method_5_code 12 = .ok (.putfield 13, 3) := by decide +kernel
theorem d3006_15 : decode prog_41_method_5_code 15 = .ok (.iaload, 1) := by decide +kernel
theorem d3006_16 : decode prog_41_method_5_code 16 = .ok (.ireturn, 1) := by decide +kernel
theorem pn_3006 : plainName "com/example/krel/krel/saturation/IntList" = true := by first | (simp [plainName, overriddenIn]; done) | decide +kernel
theorem ef_3006 (m : MethodId) (a1 : Addr) : entryFrame m #[(.ref a1)] 1 = mkF m 0 #[.val (.ref a1)] [] := by first | (simp [entryFrame, mkF, argsToLocals, Value.category]; done) | rfl
def F3006 (e_c1_0 : Int32) (e_c1_1 : Int32) (e_c1_2 : Int32) (e_c1_3 : Int32) : Int32 := e_c1_3
def Q3006 (Z : State) (a1 : Addr) (c1 : Addr) (k_c1 : ClassId) (e_c1_0 : Int32) (e_c1_1 : Int32) (e_c1_2 : Int32) (e_c1_3 : Int32) (h0 : Heap) (n0 : Nat) (v : Option Value) (h : Heap) (L : List Loc) : Prop := v = some (.int (F3006 e_c1_0 e_c1_1 e_c1_2 e_c1_3)) ∧ Fr n0 L ∧ Keep h0 h [a1] ∧ Exa Z h a1 "com/example/krel/krel/saturation/IntList" ∧ Fld Z h a1 "com/example/krel/krel/saturation/IntList" "size" "I" (.int (3 : Int32)) ∧ Fld Z h a1 "com/example/krel/krel/saturation/IntList" "values" "[I" (.ref c1)
set_option maxRecDepth 65536 in
set_option maxHeartbeats 40000000 in
theorem rm3006 (l : Launch) (Z : State) (a0 : Array Value) (hw : ∀ d ∈ tables_1, d.before a0 Z = true) (ws : List Jvm.Cond) (a1 : Addr) (c1 : Addr) (k_c1 : ClassId) (e_c1_0 : Int32) (e_c1_1 : Int32) (e_c1_2 : Int32) (e_c1_3 : Int32) (h0 : Heap) (n0 : Nat) (Z0 : n0 ≤ h0.size) (E_a1 : Exa Z h0 a1 "com/example/krel/krel/saturation/IntList") (F_size_a1 : Fld Z h0 a1 "com/example/krel/krel/saturation/IntList" "size" "I" (.int (4 : Int32))) (F_values_a1 : Fld Z h0 a1 "com/example/krel/krel/saturation/IntList" "values" "[I" (.ref c1)) (V_c1 : Arv Z h0 c1 k_c1 .int (4 : Int32) [(.int e_c1_0), (.int e_c1_1), (.int e_c1_2), (.int e_c1_3)] (.int (0 : Int32))) (g_a1 : n0 ≤ a1) (ne_c1_a1 : c1 ≠ a1) :
    MetFree l (⟨"com/example/krel/krel/saturation/IntList", "pop", "()I"⟩ : MethodName) (head1 (Jvm.Cond.code (⟨"com/example/krel/krel/saturation/IntList", "pop", "()I"⟩ : MethodName) prog_41_method_5_code 1 (some .int) :: ws) ({ frames := 0, cells := 0, slots := 0, locals := 0 } : Room)) (fun a U => a = #[(.ref a1)] ∧ Z.Warmed39 U.vm ∧ U.heap = h0) (fun _ _ _ _ _ => True) (fun _ U o U' => ∃ v L, o = .returned v ∧ Q3006 Z a1 c1 k_c1 e_c1_0 e_c1_1 e_c1_2 e_c1_3 h0 n0 v U'.heap L ∧ FrameEnd U o U' L ({ frames := 0, cells := 0, slots := 0, locals := 0 } : Room).cells ({ frames := 0, cells := 0, slots := 0, locals := 0 } : Room).slots) := by
  refine MetFree.of_bodySF (plainFor_of_name pn_3006) hisR ?_
  intro p e s m args below meth c s₁ Bd hml0 hP hK
  obtain ⟨rfl, hZ, hh⟩ := hP
  have hx := Bd.exec
  have hby := Bd.bytes
  have hml : c.maxLocals = 1 := hml0
  have hown : s.vm.findClass "com/example/krel/krel/saturation/IntList" = some m.cls := findClass_of_methodNamed Bd.named
  have hnm := (name_of_methodNamed Bd.named Bd.method).1
  have X0 : Stand p l e ({ frames := 0, cells := 0, slots := 0, locals := 0 } : Room) s m #[(.ref a1)] below meth c s₁ [] 0 0 := Stand.of_body Bd
  have e0 : s₁.heap = h0 := by rw [← hh, Bd.state]; rfl
  have N0 := Fr.nil n0
  have pre0 : ∀ t, Steps p.tables e below (s₁.setTop (mkF m 0 #[.val (.ref a1)] [])) t → Steps p.tables e below (s₁.setTop (entryFrame m #[(.ref a1)] 1)) t := fun t k => castTop (ef_3006 m a1) k
  obtain ⟨T1, X1, e1, st1⟩ := getF X0 hx hZ hown (host := "") (Or.inl (hw _ (List.mem_of_getElem? (i := 10) rfl))) Via.refl e0 F_values_a1 (g := (mkF m 1 #[.val (.ref a1)] [(.ref a1)])) rfl rfl (hb hby d3006_1)
  obtain ⟨T2, X2, e2, st2⟩ := getF X1 hx hZ hown (host := "") (Or.inl (hw _ (List.mem_of_getElem? (i := 17) rfl))) Via.refl e1 F_size_a1 (g := (mkF m 6 #[.val (.ref a1)] [(.ref a1), (.ref a1), (.ref c1)])) rfl rfl (hb hby d3006_6)
  obtain ⟨T3, h3, X3, e3, W3, st3⟩ := putF X2 hx hZ hown (host := "") (Or.inl (hw _ (List.mem_of_getElem? (i := 17) rfl))) Via.refl e2 F_size_a1 E_a1 (Or.inl (hw _ (List.mem_of_getElem? (i := 18) rfl))) (hw _ (List.mem_of_getElem? (i := 1) rfl)) (ty := .int) (by decide) rfl rfl (g := (mkF m 12 #[.val (.ref a1)] [(.int (3 : Int32)), (.ref a1), (.int (3 : Int32)), (.ref c1)])) rfl rfl (hb hby d3006_12)
  have Fw3 := Fld.same W3 F_size_a1
  have N3 := Fr.snoc X3 N0 g_a1
  have q4 := (V_c1.other W3 ne_c1_a1)
  obtain ⟨cl5, Ar5, q5, S5, M5, H5, G5⟩ := id q4
  have hin5 : ¬ ((3 : Int32) < 0 ∨ cl5.slots.size ≤ ((3 : Int32)).toNatClampNeg) := inb_of S5 ⟨by decide, by decide⟩
  have hat5 : cl5.slots[((3 : Int32)).toNatClampNeg]? = some (.int e_c1_3) := Has.at H5 hin5 rfl
  have k6 : Keep h0 h3 [a1] := ((Keep.refl h0 [a1]).wr W3 (Or.inl (by simp)))
  have q7 := (Exa.wr W3 E_a1)
  have q8 := (Fld.other W3 F_values_a1 (Or.inr (slot_ne (Or.inl (hw _ (List.mem_of_getElem? (i := 11) rfl))) (Or.inl (hw _ (List.mem_of_getElem? (i := 18) rfl))) (by decide) (t := (.array .int)) (t' := .int) (by decide) (by decide))))
  obtain ⟨fs, hr, hrun, hended, hW, hsame⟩ := X3.leave (v := some (.int e_c1_3)) (fun h => by rw [Bd.returns] at h; cases h)
  refine ⟨_, _, pre0 _ ?_, hrun, hended, _, _, rfl, ?_, ⟨_, rfl⟩, hW, hsame.mono (by decide) (by decide)⟩
  · show Steps p.tables e below (s₁.setTop (mkF m 0 #[.val (.ref a1)] [])) _
    refine XS.aloadN X0.here hx rfl (hb hby d3006_0) rfl rfl ?_
    show Steps p.tables e below (s₁.setTop (mkF m 1 #[.val (.ref a1)] [(.ref a1)])) _
    refine st1 _ ?_
    show Steps p.tables e below (T1.setTop (mkF m 4 #[.val (.ref a1)] [(.ref c1)])) _
    refine XS.aloadN X1.here hx rfl (hb hby d3006_4) rfl rfl ?_
    show Steps p.tables e below (T1.setTop (mkF m 5 #[.val (.ref a1)] [(.ref a1), (.ref c1)])) _
    refine XS.dup X1.here hx rfl (hb hby d3006_5) rfl rfl ?_
    show Steps p.tables e below (T1.setTop (mkF m 6 #[.val (.ref a1)] [(.ref a1), (.ref a1), (.ref c1)])) _
    refine st2 _ ?_
    show Steps p.tables e below (T2.setTop (mkF m 9 #[.val (.ref a1)] [(.int (4 : Int32)), (.ref a1), (.ref c1)])) _
    refine XS.iconst X2.here hx rfl (hb hby d3006_9) ?_
    show Steps p.tables e below (T2.setTop (mkF m 10 #[.val (.ref a1)] [(.int (1 : Int32)), (.int (4 : Int32)), (.ref a1), (.ref c1)])) _
    refine XS.isub X2.here hx rfl (hb hby d3006_10) rfl ?_
    show Steps p.tables e below (T2.setTop (mkF m 11 #[.val (.ref a1)] [(.int (3 : Int32)), (.ref a1), (.ref c1)])) _
    refine XS.dupX1 X2.here hx rfl (hb hby d3006_11) rfl rfl rfl ?_
    show Steps p.tables e below (T2.setTop (mkF m 12 #[.val (.ref a1)] [(.int (3 : Int32)), (.ref a1), (.int (3 : Int32)), (.ref c1)])) _
    refine st3 _ ?_
    show Steps p.tables e below (T3.setTop (mkF m 15 #[.val (.ref a1)] [(.int (3 : Int32)), (.ref c1)])) _
    refine X3.iaload hx (j := (3 : Int32)) (v := (.int e_c1_3)) (by rw [e3]; exact Ar5.1) (State.isArrayOf_alike hZ.alike Ar5.2.1) Ar5.2.2 hin5 hat5 (g := (mkF m 15 #[.val (.ref a1)] [(.int (3 : Int32)), (.ref c1)])) rfl rfl (hb hby d3006_15) _ ?_
    show Steps p.tables e below (T3.setTop (mkF m 16 #[.val (.ref a1)] [(.int e_c1_3)])) _
    exact retI X3 hx Bd.returns (hb hby d3006_16) hr
  · show Q3006 Z a1 c1 k_c1 e_c1_0 e_c1_1 e_c1_2 e_c1_3 h0 n0 _ T3.heap _
    rw [e3]
    refine ⟨?_, N3, k6, q7, Fw3, q8⟩
    show (some (.int e_c1_3) : Option Value) = some (.int (F3006 e_c1_0 e_c1_1 e_c1_2 e_c1_3))
    rw [F3006]
theorem d4006_0 : decode prog_41_method_5_code 0 = .ok (.aload_n 0, 1) := by decide +kernel
theorem d4006_1 : decode prog_41_method_5_code 1 = .ok (.getfield 7, 3) := by decide +kernel
theorem d4006_4 : decode prog_41_method_5_code 4 = .ok (.aload_n 0, 1) := by decide +kernel
theorem d4006_5 : decode prog_41_method_5_code 5 = .ok (.dup, 1) := by decide +kernel
theorem d4006_6 : decode prog_41_method_5_code 6 = .ok (.getfield 13, 3) := by decide +kernel
theorem d4006_9 : decode prog_41_method_5_code 9 = .ok (.iconst 1, 1) := by decide +kernel
theorem d4006_10 : decode prog_41_method_5_code 10 = .ok (.isub, 1) := by decide +kernel
theorem d4006_11 : decode prog_41_method_5_code 11 = .ok (.dup_x1, 1) := by decide +kernel
theorem d4006_12 : decode prog_41_method_5_code 12 = .ok (.putfield 13, 3) := by decide +kernel
theorem d4006_15 : decode prog_41_method_5_code 15 = .ok (.iaload, 1) := by decide +kernel
theorem d4006_16 : decode prog_41_method_5_code 16 = .ok (.ireturn, 1) := by decide +kernel
theorem pn_4006 : plainName "com/example/krel/krel/saturation/IntList" = true := by first | (simp [plainName, overriddenIn]; done) | decide +kernel
theorem ef_4006 (m : MethodId) (a1 : Addr) : entryFrame m #[(.ref a1)] 1 = mkF m 0 #[.val (.ref a1)] [] := by first | (simp [entryFrame, mkF, argsToLocals, Value.category]; done) | rfl
def F4006 (e_c1_0 : Int32) (e_c1_1 : Int32) (e_c1_2 : Int32) (e_c1_3 : Int32) (e_c1_4 : Int32) (e_c1_5 : Int32) (e_c1_6 : Int32) (e_c1_7 : Int32) : Int32 := e_c1_3
def Q4006 (Z : State) (a1 : Addr) (c1 : Addr) (k_c1 : ClassId) (e_c1_0 : Int32) (e_c1_1 : Int32) (e_c1_2 : Int32) (e_c1_3 : Int32) (e_c1_4 : Int32) (e_c1_5 : Int32) (e_c1_6 : Int32) (e_c1_7 : Int32) (h0 : Heap) (n0 : Nat) (v : Option Value) (h : Heap) (L : List Loc) : Prop := v = some (.int (F4006 e_c1_0 e_c1_1 e_c1_2 e_c1_3 e_c1_4 e_c1_5 e_c1_6 e_c1_7)) ∧ Fr n0 L ∧ Keep h0 h [a1] ∧ Exa Z h a1 "com/example/krel/krel/saturation/IntList" ∧ Fld Z h a1 "com/example/krel/krel/saturation/IntList" "size" "I" (.int (3 : Int32)) ∧ Fld Z h a1 "com/example/krel/krel/saturation/IntList" "values" "[I" (.ref c1)
set_option maxRecDepth 65536 in
set_option maxHeartbeats 40000000 in
theorem rm4006 (l : Launch) (Z : State) (a0 : Array Value) (hw : ∀ d ∈ tables_1, d.before a0 Z = true) (ws : List Jvm.Cond) (a1 : Addr) (c1 : Addr) (k_c1 : ClassId) (e_c1_0 : Int32) (e_c1_1 : Int32) (e_c1_2 : Int32) (e_c1_3 : Int32) (e_c1_4 : Int32) (e_c1_5 : Int32) (e_c1_6 : Int32) (e_c1_7 : Int32) (h0 : Heap) (n0 : Nat) (Z0 : n0 ≤ h0.size) (E_a1 : Exa Z h0 a1 "com/example/krel/krel/saturation/IntList") (F_size_a1 : Fld Z h0 a1 "com/example/krel/krel/saturation/IntList" "size" "I" (.int (4 : Int32))) (F_values_a1 : Fld Z h0 a1 "com/example/krel/krel/saturation/IntList" "values" "[I" (.ref c1)) (V_c1 : Arv Z h0 c1 k_c1 .int (8 : Int32) [(.int e_c1_0), (.int e_c1_1), (.int e_c1_2), (.int e_c1_3), (.int e_c1_4), (.int e_c1_5), (.int e_c1_6), (.int e_c1_7)] (.int (0 : Int32))) (g_a1 : n0 ≤ a1) (ne_c1_a1 : c1 ≠ a1) :
    MetFree l (⟨"com/example/krel/krel/saturation/IntList", "pop", "()I"⟩ : MethodName) (head1 (Jvm.Cond.code (⟨"com/example/krel/krel/saturation/IntList", "pop", "()I"⟩ : MethodName) prog_41_method_5_code 1 (some .int) :: ws) ({ frames := 0, cells := 0, slots := 0, locals := 0 } : Room)) (fun a U => a = #[(.ref a1)] ∧ Z.Warmed39 U.vm ∧ U.heap = h0) (fun _ _ _ _ _ => True) (fun _ U o U' => ∃ v L, o = .returned v ∧ Q4006 Z a1 c1 k_c1 e_c1_0 e_c1_1 e_c1_2 e_c1_3 e_c1_4 e_c1_5 e_c1_6 e_c1_7 h0 n0 v U'.heap L ∧ FrameEnd U o U' L ({ frames := 0, cells := 0, slots := 0, locals := 0 } : Room).cells ({ frames := 0, cells := 0, slots := 0, locals := 0 } : Room).slots) := by
  refine MetFree.of_bodySF (plainFor_of_name pn_4006) hisR ?_
  intro p e s m args below meth c s₁ Bd hml0 hP hK
  obtain ⟨rfl, hZ, hh⟩ := hP
  have hx := Bd.exec
  have hby := Bd.bytes
  have hml : c.maxLocals = 1 := hml0
  have hown : s.vm.findClass "com/example/krel/krel/saturation/IntList" = some m.cls := findClass_of_methodNamed Bd.named
  have hnm := (name_of_methodNamed Bd.named Bd.method).1
  have X0 : Stand p l e ({ frames := 0, cells := 0, slots := 0, locals := 0 } : Room) s m #[(.ref a1)] below meth c s₁ [] 0 0 := Stand.of_body Bd
  have e0 : s₁.heap = h0 := by rw [← hh, Bd.state]; rfl
  have N0 := Fr.nil n0
  have pre0 : ∀ t, Steps p.tables e below (s₁.setTop (mkF m 0 #[.val (.ref a1)] [])) t → Steps p.tables e below (s₁.setTop (entryFrame m #[(.ref a1)] 1)) t := fun t k => castTop (ef_4006 m a1) k
  obtain ⟨T1, X1, e1, st1⟩ := getF X0 hx hZ hown (host := "") (Or.inl (hw _ (List.mem_of_getElem? (i := 10) rfl))) Via.refl e0 F_values_a1 (g := (mkF m 1 #[.val (.ref a1)] [(.ref a1)])) rfl rfl (hb hby d4006_1)
  obtain ⟨T2, X2, e2, st2⟩ := getF X1 hx hZ hown (host := "") (Or.inl (hw _ (List.mem_of_getElem? (i := 17) rfl))) Via.refl e1 F_size_a1 (g := (mkF m 6 #[.val (.ref a1)] [(.ref a1), (.ref a1), (.ref c1)])) rfl rfl (hb hby d4006_6)
  obtain ⟨T3, h3, X3, e3, W3, st3⟩ := putF X2 hx hZ hown (host := "") (Or.inl (hw _ (List.mem_of_getElem? (i := 17) rfl))) Via.refl e2 F_size_a1 E_a1 (Or.inl (hw _ (List.mem_of_getElem? (i := 18) rfl))) (hw _ (List.mem_of_getElem? (i := 1) rfl)) (ty := .int) (by decide) rfl rfl (g := (mkF m 12 #[.val (.ref a1)] [(.int (3 : Int32)), (.ref a1), (.int (3 : Int32)), (.ref c1)])) rfl rfl (hb hby d4006_12)
  have Fw3 := Fld.same W3 F_size_a1
  have N3 := Fr.snoc X3 N0 g_a1
  have q4 := (V_c1.other W3 ne_c1_a1)
  obtain ⟨cl5, Ar5, q5, S5, M5, H5, G5⟩ := id q4
  have hin5 : ¬ ((3 : Int32) < 0 ∨ cl5.slots.size ≤ ((3 : Int32)).toNatClampNeg) := inb_of S5 ⟨by decide, by decide⟩
  have hat5 : cl5.slots[((3 : Int32)).toNatClampNeg]? = some (.int e_c1_3) := Has.at H5 hin5 rfl
  have k6 : Keep h0 h3 [a1] := ((Keep.refl h0 [a1]).wr W3 (Or.inl (by simp)))
  have q7 := (Exa.wr W3 E_a1)
  have q8 := (Fld.other W3 F_values_a1 (Or.inr (slot_ne (Or.inl (hw _ (List.mem_of_getElem? (i := 11) rfl))) (Or.inl (hw _ (List.mem_of_getElem? (i := 18) rfl))) (by decide) (t := (.array .int)) (t' := .int) (by decide) (by decide))))
  obtain ⟨fs, hr, hrun, hended, hW, hsame⟩ := X3.leave (v := some (.int e_c1_3)) (fun h => by rw [Bd.returns] at h; cases h)
  refine ⟨_, _, pre0 _ ?_, hrun, hended, _, _, rfl, ?_, ⟨_, rfl⟩, hW, hsame.mono (by decide) (by decide)⟩
  · show Steps p.tables e below (s₁.setTop (mkF m 0 #[.val (.ref a1)] [])) _
    refine XS.aloadN X0.here hx rfl (hb hby d4006_0) rfl rfl ?_
    show Steps p.tables e below (s₁.setTop (mkF m 1 #[.val (.ref a1)] [(.ref a1)])) _
    refine st1 _ ?_
    show Steps p.tables e below (T1.setTop (mkF m 4 #[.val (.ref a1)] [(.ref c1)])) _
    refine XS.aloadN X1.here hx rfl (hb hby d4006_4) rfl rfl ?_
    show Steps p.tables e below (T1.setTop (mkF m 5 #[.val (.ref a1)] [(.ref a1), (.ref c1)])) _
    refine XS.dup X1.here hx rfl (hb hby d4006_5) rfl rfl ?_
    show Steps p.tables e below (T1.setTop (mkF m 6 #[.val (.ref a1)] [(.ref a1), (.ref a1), (.ref c1)])) _
    refine st2 _ ?_
    show Steps p.tables e below (T2.setTop (mkF m 9 #[.val (.ref a1)] [(.int (4 : Int32)), (.ref a1), (.ref c1)])) _
    refine XS.iconst X2.here hx rfl (hb hby d4006_9) ?_
    show Steps p.tables e below (T2.setTop (mkF m 10 #[.val (.ref a1)] [(.int (1 : Int32)), (.int (4 : Int32)), (.ref a1), (.ref c1)])) _
    refine XS.isub X2.here hx rfl (hb hby d4006_10) rfl ?_
    show Steps p.tables e below (T2.setTop (mkF m 11 #[.val (.ref a1)] [(.int (3 : Int32)), (.ref a1), (.ref c1)])) _
    refine XS.dupX1 X2.here hx rfl (hb hby d4006_11) rfl rfl rfl ?_
    show Steps p.tables e below (T2.setTop (mkF m 12 #[.val (.ref a1)] [(.int (3 : Int32)), (.ref a1), (.int (3 : Int32)), (.ref c1)])) _
    refine st3 _ ?_
    show Steps p.tables e below (T3.setTop (mkF m 15 #[.val (.ref a1)] [(.int (3 : Int32)), (.ref c1)])) _
    refine X3.iaload hx (j := (3 : Int32)) (v := (.int e_c1_3)) (by rw [e3]; exact Ar5.1) (State.isArrayOf_alike hZ.alike Ar5.2.1) Ar5.2.2 hin5 hat5 (g := (mkF m 15 #[.val (.ref a1)] [(.int (3 : Int32)), (.ref c1)])) rfl rfl (hb hby d4006_15) _ ?_
    show Steps p.tables e below (T3.setTop (mkF m 16 #[.val (.ref a1)] [(.int e_c1_3)])) _
    exact retI X3 hx Bd.returns (hb hby d4006_16) hr
  · show Q4006 Z a1 c1 k_c1 e_c1_0 e_c1_1 e_c1_2 e_c1_3 e_c1_4 e_c1_5 e_c1_6 e_c1_7 h0 n0 _ T3.heap _
    rw [e3]
    refine ⟨?_, N3, k6, q7, Fw3, q8⟩
    show (some (.int e_c1_3) : Option Value) = some (.int (F4006 e_c1_0 e_c1_1 e_c1_2 e_c1_3 e_c1_4 e_c1_5 e_c1_6 e_c1_7))
    rw [F4006]
theorem d5006_0 : decode prog_41_method_5_code 0 = .ok (.aload_n 0, 1) := by decide +kernel
theorem d5006_1 : decode prog_41_method_5_code 1 = .ok (.getfield 7, 3) := by decide +kernel
theorem d5006_4 : decode prog_41_method_5_code 4 = .ok (.aload_n 0, 1) := by decide +kernel
theorem d5006_5 : decode prog_41_method_5_code 5 = .ok (.dup, 1) := by decide +kernel
theorem d5006_6 : decode prog_41_method_5_code 6 = .ok (.getfield 13, 3) := by decide +kernel
theorem d5006_9 : decode prog_41_method_5_code 9 = .ok (.iconst 1, 1) := by decide +kernel
theorem d5006_10 : decode prog_41_method_5_code 10 = .ok (.isub, 1) := by decide +kernel
theorem d5006_11 : decode prog_41_method_5_code 11 = .ok (.dup_x1, 1) := by decide +kernel
theorem d5006_12 : decode prog_41_method_5_code 12 = .ok (.putfield 13, 3) := by decide +kernel
theorem d5006_15 : decode prog_41_method_5_code 15 = .ok (.iaload, 1) := by decide +kernel
theorem d5006_16 : decode prog_41_method_5_code 16 = .ok (.ireturn, 1) := by decide +kernel
theorem pn_5006 : plainName "com/example/krel/krel/saturation/IntList" = true := by first | (simp [plainName, overriddenIn]; done) | decide +kernel
theorem ef_5006 (m : MethodId) (a1 : Addr) : entryFrame m #[(.ref a1)] 1 = mkF m 0 #[.val (.ref a1)] [] := by first | (simp [entryFrame, mkF, argsToLocals, Value.category]; done) | rfl
def F5006 (e_c1_0 : Int32) (e_c1_1 : Int32) (e_c1_2 : Int32) (e_c1_3 : Int32) (e_c1_4 : Int32) (e_c1_5 : Int32) (e_c1_6 : Int32) (e_c1_7 : Int32) : Int32 := e_c1_4
def Q5006 (Z : State) (a1 : Addr) (c1 : Addr) (k_c1 : ClassId) (e_c1_0 : Int32) (e_c1_1 : Int32) (e_c1_2 : Int32) (e_c1_3 : Int32) (e_c1_4 : Int32) (e_c1_5 : Int32) (e_c1_6 : Int32) (e_c1_7 : Int32) (h0 : Heap) (n0 : Nat) (v : Option Value) (h : Heap) (L : List Loc) : Prop := v = some (.int (F5006 e_c1_0 e_c1_1 e_c1_2 e_c1_3 e_c1_4 e_c1_5 e_c1_6 e_c1_7)) ∧ Fr n0 L ∧ Keep h0 h [a1] ∧ Exa Z h a1 "com/example/krel/krel/saturation/IntList" ∧ Fld Z h a1 "com/example/krel/krel/saturation/IntList" "size" "I" (.int (4 : Int32)) ∧ Fld Z h a1 "com/example/krel/krel/saturation/IntList" "values" "[I" (.ref c1)
set_option maxRecDepth 65536 in
set_option maxHeartbeats 40000000 in
theorem rm5006 (l : Launch) (Z : State) (a0 : Array Value) (hw : ∀ d ∈ tables_1, d.before a0 Z = true) (ws : List Jvm.Cond) (a1 : Addr) (c1 : Addr) (k_c1 : ClassId) (e_c1_0 : Int32) (e_c1_1 : Int32) (e_c1_2 : Int32) (e_c1_3 : Int32) (e_c1_4 : Int32) (e_c1_5 : Int32) (e_c1_6 : Int32) (e_c1_7 : Int32) (h0 : Heap) (n0 : Nat) (Z0 : n0 ≤ h0.size) (E_a1 : Exa Z h0 a1 "com/example/krel/krel/saturation/IntList") (F_size_a1 : Fld Z h0 a1 "com/example/krel/krel/saturation/IntList" "size" "I" (.int (5 : Int32))) (F_values_a1 : Fld Z h0 a1 "com/example/krel/krel/saturation/IntList" "values" "[I" (.ref c1)) (V_c1 : Arv Z h0 c1 k_c1 .int (8 : Int32) [(.int e_c1_0), (.int e_c1_1), (.int e_c1_2), (.int e_c1_3), (.int e_c1_4), (.int e_c1_5), (.int e_c1_6), (.int e_c1_7)] (.int (0 : Int32))) (g_a1 : n0 ≤ a1) (ne_c1_a1 : c1 ≠ a1) :
    MetFree l (⟨"com/example/krel/krel/saturation/IntList", "pop", "()I"⟩ : MethodName) (head1 (Jvm.Cond.code (⟨"com/example/krel/krel/saturation/IntList", "pop", "()I"⟩ : MethodName) prog_41_method_5_code 1 (some .int) :: ws) ({ frames := 0, cells := 0, slots := 0, locals := 0 } : Room)) (fun a U => a = #[(.ref a1)] ∧ Z.Warmed39 U.vm ∧ U.heap = h0) (fun _ _ _ _ _ => True) (fun _ U o U' => ∃ v L, o = .returned v ∧ Q5006 Z a1 c1 k_c1 e_c1_0 e_c1_1 e_c1_2 e_c1_3 e_c1_4 e_c1_5 e_c1_6 e_c1_7 h0 n0 v U'.heap L ∧ FrameEnd U o U' L ({ frames := 0, cells := 0, slots := 0, locals := 0 } : Room).cells ({ frames := 0, cells := 0, slots := 0, locals := 0 } : Room).slots) := by
  refine MetFree.of_bodySF (plainFor_of_name pn_5006) hisR ?_
  intro p e s m args below meth c s₁ Bd hml0 hP hK
  obtain ⟨rfl, hZ, hh⟩ := hP
  have hx := Bd.exec
  have hby := Bd.bytes
  have hml : c.maxLocals = 1 := hml0
  have hown : s.vm.findClass "com/example/krel/krel/saturation/IntList" = some m.cls := findClass_of_methodNamed Bd.named
  have hnm := (name_of_methodNamed Bd.named Bd.method).1
  have X0 : Stand p l e ({ frames := 0, cells := 0, slots := 0, locals := 0 } : Room) s m #[(.ref a1)] below meth c s₁ [] 0 0 := Stand.of_body Bd
  have e0 : s₁.heap = h0 := by rw [← hh, Bd.state]; rfl
  have N0 := Fr.nil n0
  have pre0 : ∀ t, Steps p.tables e below (s₁.setTop (mkF m 0 #[.val (.ref a1)] [])) t → Steps p.tables e below (s₁.setTop (entryFrame m #[(.ref a1)] 1)) t := fun t k => castTop (ef_5006 m a1) k
  obtain ⟨T1, X1, e1, st1⟩ := getF X0 hx hZ hown (host := "") (Or.inl (hw _ (List.mem_of_getElem? (i := 10) rfl))) Via.refl e0 F_values_a1 (g := (mkF m 1 #[.val (.ref a1)] [(.ref a1)])) rfl rfl (hb hby d5006_1)
  obtain ⟨T2, X2, e2, st2⟩ := getF X1 hx hZ hown (host := "") (Or.inl (hw _ (List.mem_of_getElem? (i := 17) rfl))) Via.refl e1 F_size_a1 (g := (mkF m 6 #[.val (.ref a1)] [(.ref a1), (.ref a1), (.ref c1)])) rfl rfl (hb hby d5006_6)
  obtain ⟨T3, h3, X3, e3, W3, st3⟩ := putF X2 hx hZ hown (host := "") (Or.inl (hw _ (List.mem_of_getElem? (i := 17) rfl))) Via.refl e2 F_size_a1 E_a1 (Or.inl (hw _ (List.mem_of_getElem? (i := 18) rfl))) (hw _ (List.mem_of_getElem? (i := 1) rfl)) (ty := .int) (by decide) rfl rfl (g := (mkF m 12 #[.val (.ref a1)] [(.int (4 : Int32)), (.ref a1), (.int (4 : Int32)), (.ref c1)])) rfl rfl (hb hby d5006_12)
  have Fw3 := Fld.same W3 F_size_a1
  have N3 := Fr.snoc X3 N0 g_a1
  have q4 := (V_c1.other W3 ne_c1_a1)
  obtain ⟨cl5, Ar5, q5, S5, M5, H5, G5⟩ := id q4
  have hin5 : ¬ ((4 : Int32) < 0 ∨ cl5.slots.size ≤ ((4 : Int32)).toNatClampNeg) := inb_of S5 ⟨by decide, by decide⟩
  have hat5 : cl5.slots[((4 : Int32)).toNatClampNeg]? = some (.int e_c1_4) := Has.at H5 hin5 rfl
  have k6 : Keep h0 h3 [a1] := ((Keep.refl h0 [a1]).wr W3 (Or.inl (by simp)))
  have q7 := (Exa.wr W3 E_a1)
  have q8 := (Fld.other W3 F_values_a1 (Or.inr (slot_ne (Or.inl (hw _ (List.mem_of_getElem? (i := 11) rfl))) (Or.inl (hw _ (List.mem_of_getElem? (i := 18) rfl))) (by decide) (t := (.array .int)) (t' := .int) (by decide) (by decide))))
  obtain ⟨fs, hr, hrun, hended, hW, hsame⟩ := X3.leave (v := some (.int e_c1_4)) (fun h => by rw [Bd.returns] at h; cases h)
  refine ⟨_, _, pre0 _ ?_, hrun, hended, _, _, rfl, ?_, ⟨_, rfl⟩, hW, hsame.mono (by decide) (by decide)⟩
  · show Steps p.tables e below (s₁.setTop (mkF m 0 #[.val (.ref a1)] [])) _
    refine XS.aloadN X0.here hx rfl (hb hby d5006_0) rfl rfl ?_
    show Steps p.tables e below (s₁.setTop (mkF m 1 #[.val (.ref a1)] [(.ref a1)])) _
    refine st1 _ ?_
    show Steps p.tables e below (T1.setTop (mkF m 4 #[.val (.ref a1)] [(.ref c1)])) _
    refine XS.aloadN X1.here hx rfl (hb hby d5006_4) rfl rfl ?_
    show Steps p.tables e below (T1.setTop (mkF m 5 #[.val (.ref a1)] [(.ref a1), (.ref c1)])) _
    refine XS.dup X1.here hx rfl (hb hby d5006_5) rfl rfl ?_
    show Steps p.tables e below (T1.setTop (mkF m 6 #[.val (.ref a1)] [(.ref a1), (.ref a1), (.ref c1)])) _
    refine st2 _ ?_
    show Steps p.tables e below (T2.setTop (mkF m 9 #[.val (.ref a1)] [(.int (5 : Int32)), (.ref a1), (.ref c1)])) _
    refine XS.iconst X2.here hx rfl (hb hby d5006_9) ?_
    show Steps p.tables e below (T2.setTop (mkF m 10 #[.val (.ref a1)] [(.int (1 : Int32)), (.int (5 : Int32)), (.ref a1), (.ref c1)])) _
    refine XS.isub X2.here hx rfl (hb hby d5006_10) rfl ?_
    show Steps p.tables e below (T2.setTop (mkF m 11 #[.val (.ref a1)] [(.int (4 : Int32)), (.ref a1), (.ref c1)])) _
    refine XS.dupX1 X2.here hx rfl (hb hby d5006_11) rfl rfl rfl ?_
    show Steps p.tables e below (T2.setTop (mkF m 12 #[.val (.ref a1)] [(.int (4 : Int32)), (.ref a1), (.int (4 : Int32)), (.ref c1)])) _
    refine st3 _ ?_
    show Steps p.tables e below (T3.setTop (mkF m 15 #[.val (.ref a1)] [(.int (4 : Int32)), (.ref c1)])) _
    refine X3.iaload hx (j := (4 : Int32)) (v := (.int e_c1_4)) (by rw [e3]; exact Ar5.1) (State.isArrayOf_alike hZ.alike Ar5.2.1) Ar5.2.2 hin5 hat5 (g := (mkF m 15 #[.val (.ref a1)] [(.int (4 : Int32)), (.ref c1)])) rfl rfl (hb hby d5006_15) _ ?_
    show Steps p.tables e below (T3.setTop (mkF m 16 #[.val (.ref a1)] [(.int e_c1_4)])) _
    exact retI X3 hx Bd.returns (hb hby d5006_16) hr
  · show Q5006 Z a1 c1 k_c1 e_c1_0 e_c1_1 e_c1_2 e_c1_3 e_c1_4 e_c1_5 e_c1_6 e_c1_7 h0 n0 _ T3.heap _
    rw [e3]
    refine ⟨?_, N3, k6, q7, Fw3, q8⟩
    show (some (.int e_c1_4) : Option Value) = some (.int (F5006 e_c1_0 e_c1_1 e_c1_2 e_c1_3 e_c1_4 e_c1_5 e_c1_6 e_c1_7))
    rw [F5006]
theorem d7_0 : decode prog_41_method_4_code 0 = .ok (.aload_n 0, 1) := by decide +kernel
theorem d7_1 : decode prog_41_method_4_code 1 = .ok (.getfield 13, 3) := by decide +kernel
theorem d7_4 : decode prog_41_method_4_code 4 = .ok (.ireturn, 1) := by decide +kernel
theorem pn_7 : plainName "com/example/krel/krel/saturation/IntList" = true := by first | (simp [plainName, overriddenIn]; done) | decide +kernel
theorem ef_7 (m : MethodId) (a1 : Addr) : entryFrame m #[(.ref a1)] 1 = mkF m 0 #[.val (.ref a1)] [] := by first | (simp [entryFrame, mkF, argsToLocals, Value.category]; done) | rfl
def F7 (w_size_a1 : Int32) : Int32 := w_size_a1
def Q7 (Z : State) (a1 : Addr) (w_size_a1 : Int32) (h0 : Heap) (n0 : Nat) (v : Option Value) (h : Heap) (L : List Loc) : Prop := v = some (.int (F7 w_size_a1)) ∧ Fr n0 L ∧ h = h0
set_option maxRecDepth 65536 in
set_option maxHeartbeats 40000000 in
theorem rm7 (l : Launch) (Z : State) (a0 : Array Value) (hw : ∀ d ∈ tables_1, d.before a0 Z = true) (ws : List Jvm.Cond) (a1 : Addr) (w_size_a1 : Int32) (h0 : Heap) (n0 : Nat) (Z0 : n0 ≤ h0.size) (F_size_a1 : Fld Z h0 a1 "com/example/krel/krel/saturation/IntList" "size" "I" (.int w_size_a1)) :
    MetFree l (⟨"com/example/krel/krel/saturation/IntList", "size", "()I"⟩ : MethodName) (head1 (Jvm.Cond.code (⟨"com/example/krel/krel/saturation/IntList", "size", "()I"⟩ : MethodName) prog_41_method_4_code 1 (some .int) :: ws) ({ frames := 0, cells := 0, slots := 0, locals := 0 } : Room)) (fun a U => a = #[(.ref a1)] ∧ Z.Warmed39 U.vm ∧ U.heap = h0) (fun _ _ _ _ _ => True) (fun _ U o U' => ∃ v L, o = .returned v ∧ Q7 Z a1 w_size_a1 h0 n0 v U'.heap L ∧ FrameEnd U o U' L ({ frames := 0, cells := 0, slots := 0, locals := 0 } : Room).cells ({ frames := 0, cells := 0, slots := 0, locals := 0 } : Room).slots) := by
  refine MetFree.of_bodySF (plainFor_of_name pn_7) hisR ?_
  intro p e s m args below meth c s₁ Bd hml0 hP hK
  obtain ⟨rfl, hZ, hh⟩ := hP
  have hx := Bd.exec
  have hby := Bd.bytes
  have hml : c.maxLocals = 1 := hml0
  have hown : s.vm.findClass "com/example/krel/krel/saturation/IntList" = some m.cls := findClass_of_methodNamed Bd.named
  have hnm := (name_of_methodNamed Bd.named Bd.method).1
  have X0 : Stand p l e ({ frames := 0, cells := 0, slots := 0, locals := 0 } : Room) s m #[(.ref a1)] below meth c s₁ [] 0 0 := Stand.of_body Bd
  have e0 : s₁.heap = h0 := by rw [← hh, Bd.state]; rfl
  have N0 := Fr.nil n0
  have pre0 : ∀ t, Steps p.tables e below (s₁.setTop (mkF m 0 #[.val (.ref a1)] [])) t → Steps p.tables e below (s₁.setTop (entryFrame m #[(.ref a1)] 1)) t := fun t k => castTop (ef_7 m a1) k
  obtain ⟨T1, X1, e1, st1⟩ := getF X0 hx hZ hown (host := "") (Or.inl (hw _ (List.mem_of_getElem? (i := 17) rfl))) Via.refl e0 F_size_a1 (g := (mkF m 1 #[.val (.ref a1)] [(.ref a1)])) rfl rfl (hb hby d7_1)
  obtain ⟨fs, hr, hrun, hended, hW, hsame⟩ := X1.leave (v := some (.int w_size_a1)) (fun h => by rw [Bd.returns] at h; cases h)
  refine ⟨_, _, pre0 _ ?_, hrun, hended, _, _, rfl, ?_, ⟨_, rfl⟩, hW, hsame.mono (by decide) (by decide)⟩
  · show Steps p.tables e below (s₁.setTop (mkF m 0 #[.val (.ref a1)] [])) _
    refine XS.aloadN X0.here hx rfl (hb hby d7_0) rfl rfl ?_
    show Steps p.tables e below (s₁.setTop (mkF m 1 #[.val (.ref a1)] [(.ref a1)])) _
    refine st1 _ ?_
    show Steps p.tables e below (T1.setTop (mkF m 4 #[.val (.ref a1)] [(.int w_size_a1)])) _
    exact retI X1 hx Bd.returns (hb hby d7_4) hr
  · show Q7 Z a1 w_size_a1 h0 n0 _ T1.heap _
    rw [e1]
    refine ⟨?_, N0, rfl⟩
    show (some (.int w_size_a1) : Option Value) = some (.int (F7 w_size_a1))
    rw [F7]
theorem d8_0 : decode prog_41_method_3_code 0 = .ok (.aload_n 0, 1) := by decide +kernel
theorem d8_1 : decode prog_41_method_3_code 1 = .ok (.getfield 7, 3) := by decide +kernel
theorem d8_4 : decode prog_41_method_3_code 4 = .ok (.iload_n 1, 1) := by decide +kernel
theorem d8_5 : decode prog_41_method_3_code 5 = .ok (.iaload, 1) := by decide +kernel
theorem d8_6 : decode prog_41_method_3_code 6 = .ok (.ireturn, 1) := by decide +kernel
theorem pn_8 : plainName "com/example/krel/krel/saturation/IntList" = true := by first | (simp [plainName, overriddenIn]; done) | decide +kernel
theorem ef_8 (m : MethodId) (a1 : Addr) : entryFrame m #[(.ref a1), (.int (0 : Int32))] 2 = mkF m 0 #[.val (.ref a1), .val (.int (0 : Int32))] [] := by first | (simp [entryFrame, mkF, argsToLocals, Value.category]; done) | rfl
def F8 (e_c1_0 : Int32) (e_c1_1 : Int32) (e_c1_2 : Int32) (e_c1_3 : Int32) : Int32 := e_c1_0
def Q8 (Z : State) (a1 : Addr) (c1 : Addr) (k_c1 : ClassId) (e_c1_0 : Int32) (e_c1_1 : Int32) (e_c1_2 : Int32) (e_c1_3 : Int32) (h0 : Heap) (n0 : Nat) (v : Option Value) (h : Heap) (L : List Loc) : Prop := v = some (.int (F8 e_c1_0 e_c1_1 e_c1_2 e_c1_3)) ∧ Fr n0 L ∧ h = h0
set_option maxRecDepth 65536 in
set_option maxHeartbeats 40000000 in
theorem rm8 (l : Launch) (Z : State) (a0 : Array Value) (hw : ∀ d ∈ tables_1, d.before a0 Z = true) (ws : List Jvm.Cond) (a1 : Addr) (c1 : Addr) (k_c1 : ClassId) (e_c1_0 : Int32) (e_c1_1 : Int32) (e_c1_2 : Int32) (e_c1_3 : Int32) (h0 : Heap) (n0 : Nat) (Z0 : n0 ≤ h0.size) (E_a1 : Exa Z h0 a1 "com/example/krel/krel/saturation/IntList") (F_values_a1 : Fld Z h0 a1 "com/example/krel/krel/saturation/IntList" "values" "[I" (.ref c1)) (V_c1 : Arv Z h0 c1 k_c1 .int (4 : Int32) [(.int e_c1_0), (.int e_c1_1), (.int e_c1_2), (.int e_c1_3)] (.int (0 : Int32))) :
    MetFree l (⟨"com/example/krel/krel/saturation/IntList", "get", "(I)I"⟩ : MethodName) (head1 (Jvm.Cond.code (⟨"com/example/krel/krel/saturation/IntList", "get", "(I)I"⟩ : MethodName) prog_41_method_3_code 2 (some .int) :: ws) ({ frames := 0, cells := 0, slots := 0, locals := 0 } : Room)) (fun a U => a = #[(.ref a1), (.int (0 : Int32))] ∧ Z.Warmed39 U.vm ∧ U.heap = h0) (fun _ _ _ _ _ => True) (fun _ U o U' => ∃ v L, o = .returned v ∧ Q8 Z a1 c1 k_c1 e_c1_0 e_c1_1 e_c1_2 e_c1_3 h0 n0 v U'.heap L ∧ FrameEnd U o U' L ({ frames := 0, cells := 0, slots := 0, locals := 0 } : Room).cells ({ frames := 0, cells := 0, slots := 0, locals := 0 } : Room).slots) := by
  refine MetFree.of_bodySF (plainFor_of_name pn_8) hisR ?_
  intro p e s m args below meth c s₁ Bd hml0 hP hK
  obtain ⟨rfl, hZ, hh⟩ := hP
  have hx := Bd.exec
  have hby := Bd.bytes
  have hml : c.maxLocals = 2 := hml0
  have hown : s.vm.findClass "com/example/krel/krel/saturation/IntList" = some m.cls := findClass_of_methodNamed Bd.named
  have hnm := (name_of_methodNamed Bd.named Bd.method).1
  have X0 : Stand p l e ({ frames := 0, cells := 0, slots := 0, locals := 0 } : Room) s m #[(.ref a1), (.int (0 : Int32))] below meth c s₁ [] 0 0 := Stand.of_body Bd
  have e0 : s₁.heap = h0 := by rw [← hh, Bd.state]; rfl
  have N0 := Fr.nil n0
  have pre0 : ∀ t, Steps p.tables e below (s₁.setTop (mkF m 0 #[.val (.ref a1), .val (.int (0 : Int32))] [])) t → Steps p.tables e below (s₁.setTop (entryFrame m #[(.ref a1), (.int (0 : Int32))] 2)) t := fun t k => castTop (ef_8 m a1) k
  obtain ⟨T1, X1, e1, st1⟩ := getF X0 hx hZ hown (host := "") (Or.inl (hw _ (List.mem_of_getElem? (i := 10) rfl))) Via.refl e0 F_values_a1 (g := (mkF m 1 #[.val (.ref a1), .val (.int (0 : Int32))] [(.ref a1)])) rfl rfl (hb hby d8_1)
  obtain ⟨cl2, Ar2, q2, S2, M2, H2, G2⟩ := id V_c1
  have hin2 : ¬ ((0 : Int32) < 0 ∨ cl2.slots.size ≤ ((0 : Int32)).toNatClampNeg) := inb_of S2 ⟨by decide, by decide⟩
  have hat2 : cl2.slots[((0 : Int32)).toNatClampNeg]? = some (.int e_c1_0) := Has.at H2 hin2 rfl
  obtain ⟨fs, hr, hrun, hended, hW, hsame⟩ := X1.leave (v := some (.int e_c1_0)) (fun h => by rw [Bd.returns] at h; cases h)
  refine ⟨_, _, pre0 _ ?_, hrun, hended, _, _, rfl, ?_, ⟨_, rfl⟩, hW, hsame.mono (by decide) (by decide)⟩
  · show Steps p.tables e below (s₁.setTop (mkF m 0 #[.val (.ref a1), .val (.int (0 : Int32))] [])) _
    refine XS.aloadN X0.here hx rfl (hb hby d8_0) rfl rfl ?_
    show Steps p.tables e below (s₁.setTop (mkF m 1 #[.val (.ref a1), .val (.int (0 : Int32))] [(.ref a1)])) _
    refine st1 _ ?_
    show Steps p.tables e below (T1.setTop (mkF m 4 #[.val (.ref a1), .val (.int (0 : Int32))] [(.ref c1)])) _
    refine XS.iloadN X1.here hx rfl (hb hby d8_4) rfl ?_
    show Steps p.tables e below (T1.setTop (mkF m 5 #[.val (.ref a1), .val (.int (0 : Int32))] [(.int (0 : Int32)), (.ref c1)])) _
    refine X1.iaload hx (j := (0 : Int32)) (v := (.int e_c1_0)) (by rw [e1]; exact Ar2.1) (State.isArrayOf_alike hZ.alike Ar2.2.1) Ar2.2.2 hin2 hat2 (g := (mkF m 5 #[.val (.ref a1), .val (.int (0 : Int32))] [(.int (0 : Int32)), (.ref c1)])) rfl rfl (hb hby d8_5) _ ?_
    show Steps p.tables e below (T1.setTop (mkF m 6 #[.val (.ref a1), .val (.int (0 : Int32))] [(.int e_c1_0)])) _
    exact retI X1 hx Bd.returns (hb hby d8_6) hr
  · show Q8 Z a1 c1 k_c1 e_c1_0 e_c1_1 e_c1_2 e_c1_3 h0 n0 _ T1.heap _
    rw [e1]
    refine ⟨?_, N0, rfl⟩
    show (some (.int e_c1_0) : Option Value) = some (.int (F8 e_c1_0 e_c1_1 e_c1_2 e_c1_3))
    rw [F8]
theorem d1008_0 : decode prog_41_method_3_code 0 = .ok (.aload_n 0, 1) := by decide +kernel
theorem d1008_1 : decode prog_41_method_3_code 1 = .ok (.getfield 7, 3) := by decide +kernel
theorem d1008_4 : decode prog_41_method_3_code 4 = .ok (.iload_n 1, 1) := by decide +kernel
theorem d1008_5 : decode prog_41_method_3_code 5 = .ok (.iaload, 1) := by decide +kernel
theorem d1008_6 : decode prog_41_method_3_code 6 = .ok (.ireturn, 1) := by decide +kernel
theorem pn_1008 : plainName "com/example/krel/krel/saturation/IntList" = true := by first | (simp [plainName, overriddenIn]; done) | decide +kernel
theorem ef_1008 (m : MethodId) (a1 : Addr) : entryFrame m #[(.ref a1), (.int (0 : Int32))] 2 = mkF m 0 #[.val (.ref a1), .val (.int (0 : Int32))] [] := by first | (simp [entryFrame, mkF, argsToLocals, Value.category]; done) | rfl
def F1008 (e_c1_0 : Int32) (e_c1_1 : Int32) (e_c1_2 : Int32) (e_c1_3 : Int32) (e_c1_4 : Int32) (e_c1_5 : Int32) (e_c1_6 : Int32) (e_c1_7 : Int32) : Int32 := e_c1_0
def Q1008 (Z : State) (a1 : Addr) (c1 : Addr) (k_c1 : ClassId) (e_c1_0 : Int32) (e_c1_1 : Int32) (e_c1_2 : Int32) (e_c1_3 : Int32) (e_c1_4 : Int32) (e_c1_5 : Int32) (e_c1_6 : Int32) (e_c1_7 : Int32) (h0 : Heap) (n0 : Nat) (v : Option Value) (h : Heap) (L : List Loc) : Prop := v = some (.int (F1008 e_c1_0 e_c1_1 e_c1_2 e_c1_3 e_c1_4 e_c1_5 e_c1_6 e_c1_7)) ∧ Fr n0 L ∧ h = h0
set_option maxRecDepth 65536 in
set_option maxHeartbeats 40000000 in
theorem rm1008 (l : Launch) (Z : State) (a0 : Array Value) (hw : ∀ d ∈ tables_1, d.before a0 Z = true) (ws : List Jvm.Cond) (a1 : Addr) (c1 : Addr) (k_c1 : ClassId) (e_c1_0 : Int32) (e_c1_1 : Int32) (e_c1_2 : Int32) (e_c1_3 : Int32) (e_c1_4 : Int32) (e_c1_5 : Int32) (e_c1_6 : Int32) (e_c1_7 : Int32) (h0 : Heap) (n0 : Nat) (Z0 : n0 ≤ h0.size) (E_a1 : Exa Z h0 a1 "com/example/krel/krel/saturation/IntList") (F_values_a1 : Fld Z h0 a1 "com/example/krel/krel/saturation/IntList" "values" "[I" (.ref c1)) (V_c1 : Arv Z h0 c1 k_c1 .int (8 : Int32) [(.int e_c1_0), (.int e_c1_1), (.int e_c1_2), (.int e_c1_3), (.int e_c1_4), (.int e_c1_5), (.int e_c1_6), (.int e_c1_7)] (.int (0 : Int32))) :
    MetFree l (⟨"com/example/krel/krel/saturation/IntList", "get", "(I)I"⟩ : MethodName) (head1 (Jvm.Cond.code (⟨"com/example/krel/krel/saturation/IntList", "get", "(I)I"⟩ : MethodName) prog_41_method_3_code 2 (some .int) :: ws) ({ frames := 0, cells := 0, slots := 0, locals := 0 } : Room)) (fun a U => a = #[(.ref a1), (.int (0 : Int32))] ∧ Z.Warmed39 U.vm ∧ U.heap = h0) (fun _ _ _ _ _ => True) (fun _ U o U' => ∃ v L, o = .returned v ∧ Q1008 Z a1 c1 k_c1 e_c1_0 e_c1_1 e_c1_2 e_c1_3 e_c1_4 e_c1_5 e_c1_6 e_c1_7 h0 n0 v U'.heap L ∧ FrameEnd U o U' L ({ frames := 0, cells := 0, slots := 0, locals := 0 } : Room).cells ({ frames := 0, cells := 0, slots := 0, locals := 0 } : Room).slots) := by
  refine MetFree.of_bodySF (plainFor_of_name pn_1008) hisR ?_
  intro p e s m args below meth c s₁ Bd hml0 hP hK
  obtain ⟨rfl, hZ, hh⟩ := hP
  have hx := Bd.exec
  have hby := Bd.bytes
  have hml : c.maxLocals = 2 := hml0
  have hown : s.vm.findClass "com/example/krel/krel/saturation/IntList" = some m.cls := findClass_of_methodNamed Bd.named
  have hnm := (name_of_methodNamed Bd.named Bd.method).1
  have X0 : Stand p l e ({ frames := 0, cells := 0, slots := 0, locals := 0 } : Room) s m #[(.ref a1), (.int (0 : Int32))] below meth c s₁ [] 0 0 := Stand.of_body Bd
  have e0 : s₁.heap = h0 := by rw [← hh, Bd.state]; rfl
  have N0 := Fr.nil n0
  have pre0 : ∀ t, Steps p.tables e below (s₁.setTop (mkF m 0 #[.val (.ref a1), .val (.int (0 : Int32))] [])) t → Steps p.tables e below (s₁.setTop (entryFrame m #[(.ref a1), (.int (0 : Int32))] 2)) t := fun t k => castTop (ef_1008 m a1) k
  obtain ⟨T1, X1, e1, st1⟩ := getF X0 hx hZ hown (host := "") (Or.inl (hw _ (List.mem_of_getElem? (i := 10) rfl))) Via.refl e0 F_values_a1 (g := (mkF m 1 #[.val (.ref a1), .val (.int (0 : Int32))] [(.ref a1)])) rfl rfl (hb hby d1008_1)
  obtain ⟨cl2, Ar2, q2, S2, M2, H2, G2⟩ := id V_c1
  have hin2 : ¬ ((0 : Int32) < 0 ∨ cl2.slots.size ≤ ((0 : Int32)).toNatClampNeg) := inb_of S2 ⟨by decide, by decide⟩
  have hat2 : cl2.slots[((0 : Int32)).toNatClampNeg]? = some (.int e_c1_0) := Has.at H2 hin2 rfl
  obtain ⟨fs, hr, hrun, hended, hW, hsame⟩ := X1.leave (v := some (.int e_c1_0)) (fun h => by rw [Bd.returns] at h; cases h)
  refine ⟨_, _, pre0 _ ?_, hrun, hended, _, _, rfl, ?_, ⟨_, rfl⟩, hW, hsame.mono (by decide) (by decide)⟩
  · show Steps p.tables e below (s₁.setTop (mkF m 0 #[.val (.ref a1), .val (.int (0 : Int32))] [])) _
    refine XS.aloadN X0.here hx rfl (hb hby d1008_0) rfl rfl ?_
    show Steps p.tables e below (s₁.setTop (mkF m 1 #[.val (.ref a1), .val (.int (0 : Int32))] [(.ref a1)])) _
    refine st1 _ ?_
    show Steps p.tables e below (T1.setTop (mkF m 4 #[.val (.ref a1), .val (.int (0 : Int32))] [(.ref c1)])) _
    refine XS.iloadN X1.here hx rfl (hb hby d1008_4) rfl ?_
    show Steps p.tables e below (T1.setTop (mkF m 5 #[.val (.ref a1), .val (.int (0 : Int32))] [(.int (0 : Int32)), (.ref c1)])) _
    refine X1.iaload hx (j := (0 : Int32)) (v := (.int e_c1_0)) (by rw [e1]; exact Ar2.1) (State.isArrayOf_alike hZ.alike Ar2.2.1) Ar2.2.2 hin2 hat2 (g := (mkF m 5 #[.val (.ref a1), .val (.int (0 : Int32))] [(.int (0 : Int32)), (.ref c1)])) rfl rfl (hb hby d1008_5) _ ?_
    show Steps p.tables e below (T1.setTop (mkF m 6 #[.val (.ref a1), .val (.int (0 : Int32))] [(.int e_c1_0)])) _
    exact retI X1 hx Bd.returns (hb hby d1008_6) hr
  · show Q1008 Z a1 c1 k_c1 e_c1_0 e_c1_1 e_c1_2 e_c1_3 e_c1_4 e_c1_5 e_c1_6 e_c1_7 h0 n0 _ T1.heap _
    rw [e1]
    refine ⟨?_, N0, rfl⟩
    show (some (.int e_c1_0) : Option Value) = some (.int (F1008 e_c1_0 e_c1_1 e_c1_2 e_c1_3 e_c1_4 e_c1_5 e_c1_6 e_c1_7))
    rw [F1008]
theorem pn_0 : plainName "com/example/krel/krel/saturation/IntListPopPinLaw" = true := by first | (simp [plainName, overriddenIn]; done) | decide +kernel
theorem pd_0_0 : parseMethodDescriptor "()V" = some ⟨[], none⟩ := by decide +kernel
theorem pd_0_1 : parseMethodDescriptor "(I)V" = some ⟨[.int], none⟩ := by decide +kernel
theorem pd_0_5 : parseMethodDescriptor "()I" = some ⟨[], some .int⟩ := by decide +kernel
theorem pd_0_6 : parseMethodDescriptor "(I)I" = some ⟨[.int], some .int⟩ := by decide +kernel
theorem ef_0 (m : MethodId) (p1 : Int32) (p2 : Int32) (p3 : Int32) (p4 : Int32) (p5 : Int32) (p6 : Int32) : entryFrame m #[(.int p1), (.int p2), (.int p3), (.int p4), (.int p5), (.int p6)] maxLocals = mkF m 0 #[.val (.int p1), .val (.int p2), .val (.int p3), .val (.int p4), .val (.int p5), .val (.int p6), .unset, .unset, .unset, .unset, .unset, .unset, .unset, .unset, .unset] [] := by first | (simp [entryFrame, mkF, argsToLocals, Value.category, maxLocals]; done) | rfl
set_option maxRecDepth 65536 in
set_option maxHeartbeats 40000000 in
theorem case_0_8 (p1 : Int32) (p2 : Int32) (p3 : Int32) (p4 : Int32) (p5 : Int32) (p6 : Int32) : ((p6 &&& (3 : Int32)) + (2 : Int32)) = (2 : Int32) ∨ ((p6 &&& (3 : Int32)) + (2 : Int32)) = (3 : Int32) ∨ ((p6 &&& (3 : Int32)) + (2 : Int32)) = (4 : Int32) ∨ ((p6 &&& (3 : Int32)) + (2 : Int32)) = (5 : Int32) := by
  have m1 := Jvm.Kit.i32_mask p6 3 (k := 2) (by decide) (by decide)
  have a1 : ((p6 &&& 3) + 2).toInt = (p6 &&& 3).toInt + (2 : Int32).toInt := Jvm.Kit.i32_add (by have : (2 : Int32).toInt = 2 := rfl; omega) (by have : (2 : Int32).toInt = 2 := rfl; omega)
  simp only [own_eqI, Int32.reduceToInt] at a1 ⊢
  omega
set_option maxRecDepth 65536 in
set_option maxHeartbeats 40000000 in
theorem leaf_0_1 (p1 : Int32) (p2 : Int32) (p3 : Int32) (p4 : Int32) (p5 : Int32) (p6 : Int32) (hk2 : ((p6 &&& (3 : Int32)) + (2 : Int32)) = (2 : Int32)) (v27 : Int32) (hv27 : v27 = (if (F1006 p1 p2 (0 : Int32) (0 : Int32)) = p2 then (if (F7 (1 : Int32)) = (1 : Int32) then (if (F6 p1 p2 (0 : Int32) (0 : Int32)) = p1 then (if (F7 (0 : Int32)) = (0 : Int32) then (1 : Int32) else (0 : Int32)) else (0 : Int32)) else (0 : Int32)) else (0 : Int32))) : (nar .boolean v27) = (1 : Int32) := by
  rw [hv27]; simp [F5, F6, F1006, F2006, F3006, F4006, F5006, F7, F8, F1008]; rfl
set_option maxRecDepth 65536 in
set_option maxHeartbeats 40000000 in
theorem leaf_0_2 (p1 : Int32) (p2 : Int32) (p3 : Int32) (p4 : Int32) (p5 : Int32) (p6 : Int32) (hk2 : ((p6 &&& (3 : Int32)) + (2 : Int32)) = (3 : Int32)) (v54 : Int32) (hv54 : v54 = (if (F2006 p1 p2 p3 (0 : Int32)) = p3 then (if (F7 (2 : Int32)) = (2 : Int32) then (if (F1006 p1 p2 p3 (0 : Int32)) = p2 then (if (F7 (1 : Int32)) = (1 : Int32) then (1 : Int32) else (0 : Int32)) else (0 : Int32)) else (0 : Int32)) else (0 : Int32))) (hc56 : v54 = (0 : Int32)) : False := by
  simp_all [F5, F6, F1006, F2006, F3006, F4006, F5006, F7, F8, F1008]
set_option maxRecDepth 65536 in
set_option maxHeartbeats 40000000 in
theorem leaf_0_4 (p1 : Int32) (p2 : Int32) (p3 : Int32) (p4 : Int32) (p5 : Int32) (p6 : Int32) (hk2 : ((p6 &&& (3 : Int32)) + (2 : Int32)) = (3 : Int32)) (v54 : Int32) (hv54 : v54 = (if (F2006 p1 p2 p3 (0 : Int32)) = p3 then (if (F7 (2 : Int32)) = (2 : Int32) then (if (F1006 p1 p2 p3 (0 : Int32)) = p2 then (if (F7 (1 : Int32)) = (1 : Int32) then (1 : Int32) else (0 : Int32)) else (0 : Int32)) else (0 : Int32)) else (0 : Int32))) (hc56 : ¬ (v54 = (0 : Int32))) (hc60 : ¬ ((F8 p1 p2 p3 (0 : Int32)) = p1)) : False := by
  simp_all [F5, F6, F1006, F2006, F3006, F4006, F5006, F7, F8, F1008]
set_option maxRecDepth 65536 in
set_option maxHeartbeats 40000000 in
theorem leaf_0_5 (p1 : Int32) (p2 : Int32) (p3 : Int32) (p4 : Int32) (p5 : Int32) (p6 : Int32) (hk2 : ((p6 &&& (3 : Int32)) + (2 : Int32)) = (4 : Int32)) (v89 : Int32) (hv89 : v89 = (if (F3006 p1 p2 p3 p4) = p4 then (if (F7 (3 : Int32)) = (3 : Int32) then (if (F2006 p1 p2 p3 p4) = p3 then (if (F7 (2 : Int32)) = (2 : Int32) then (1 : Int32) else (0 : Int32)) else (0 : Int32)) else (0 : Int32)) else (0 : Int32))) (hc91 : v89 = (0 : Int32)) : False := by
  simp_all [F5, F6, F1006, F2006, F3006, F4006, F5006, F7, F8, F1008]
set_option maxRecDepth 65536 in
set_option maxHeartbeats 40000000 in
theorem leaf_0_7 (p1 : Int32) (p2 : Int32) (p3 : Int32) (p4 : Int32) (p5 : Int32) (p6 : Int32) (hk2 : ((p6 &&& (3 : Int32)) + (2 : Int32)) = (4 : Int32)) (v89 : Int32) (hv89 : v89 = (if (F3006 p1 p2 p3 p4) = p4 then (if (F7 (3 : Int32)) = (3 : Int32) then (if (F2006 p1 p2 p3 p4) = p3 then (if (F7 (2 : Int32)) = (2 : Int32) then (1 : Int32) else (0 : Int32)) else (0 : Int32)) else (0 : Int32)) else (0 : Int32))) (hc91 : ¬ (v89 = (0 : Int32))) (hc95 : ¬ ((F8 p1 p2 p3 p4) = p1)) : False := by
  simp_all [F5, F6, F1006, F2006, F3006, F4006, F5006, F7, F8, F1008]
set_option maxRecDepth 65536 in
set_option maxHeartbeats 40000000 in
theorem leaf_0_8 (p1 : Int32) (p2 : Int32) (p3 : Int32) (p4 : Int32) (p5 : Int32) (p6 : Int32) (hk2 : ((p6 &&& (3 : Int32)) + (2 : Int32)) = (5 : Int32)) (v126 : Int32) (hv126 : v126 = (if (F5006 p1 p2 p3 p4 p5 (0 : Int32) (0 : Int32) (0 : Int32)) = p5 then (if (F7 (4 : Int32)) = (4 : Int32) then (if (F4006 p1 p2 p3 p4 p5 (0 : Int32) (0 : Int32) (0 : Int32)) = p4 then (if (F7 (3 : Int32)) = (3 : Int32) then (1 : Int32) else (0 : Int32)) else (0 : Int32)) else (0 : Int32)) else (0 : Int32))) (hc128 : v126 = (0 : Int32)) : False := by
  simp_all [F5, F6, F1006, F2006, F3006, F4006, F5006, F7, F8, F1008]
set_option maxRecDepth 65536 in
set_option maxHeartbeats 40000000 in
theorem leaf_0_10 (p1 : Int32) (p2 : Int32) (p3 : Int32) (p4 : Int32) (p5 : Int32) (p6 : Int32) (hk2 : ((p6 &&& (3 : Int32)) + (2 : Int32)) = (5 : Int32)) (v126 : Int32) (hv126 : v126 = (if (F5006 p1 p2 p3 p4 p5 (0 : Int32) (0 : Int32) (0 : Int32)) = p5 then (if (F7 (4 : Int32)) = (4 : Int32) then (if (F4006 p1 p2 p3 p4 p5 (0 : Int32) (0 : Int32) (0 : Int32)) = p4 then (if (F7 (3 : Int32)) = (3 : Int32) then (1 : Int32) else (0 : Int32)) else (0 : Int32)) else (0 : Int32)) else (0 : Int32))) (hc128 : ¬ (v126 = (0 : Int32))) (hc132 : ¬ ((F1008 p1 p2 p3 p4 p5 (0 : Int32) (0 : Int32) (0 : Int32)) = p1)) : False := by
  simp_all [F5, F6, F1006, F2006, F3006, F4006, F5006, F7, F8, F1008]
def Q0 (Z : State) (p1 : Int32) (p2 : Int32) (p3 : Int32) (p4 : Int32) (p5 : Int32) (p6 : Int32) (h0 : Heap) (n0 : Nat) (v : Option Value) (h : Heap) (L : List Loc) : Prop := v = some (.int (1 : Int32)) ∧ Fr n0 L
set_option maxRecDepth 65536 in
set_option maxHeartbeats 40000000 in
theorem rm0 (l : Launch) (Z : State) (a0 : Array Value) (hw : ∀ d ∈ tables_1, d.before a0 Z = true) (ws : List Jvm.Cond) (p1 : Int32) (p2 : Int32) (p3 : Int32) (p4 : Int32) (p5 : Int32) (p6 : Int32) (h0 : Heap) (n0 : Nat) (Z0 : n0 ≤ h0.size) :
    MetFree l x (head1 (Jvm.Cond.code x code maxLocals ret :: ws) room_1) (fun a U => a = #[(.int p1), (.int p2), (.int p3), (.int p4), (.int p5), (.int p6)] ∧ Z.Warmed39 U.vm ∧ U.heap = h0) (fun _ _ _ _ _ => True) (fun _ U o U' => ∃ v L, o = .returned v ∧ Q0 Z p1 p2 p3 p4 p5 p6 h0 n0 v U'.heap L ∧ FrameEnd U o U' L room_1.cells room_1.slots) := by
  refine MetFree.of_bodySF (plainFor_of_name pn_0) hisR ?_
  intro p e s m args below meth c s₁ Bd hml0 hP hK
  obtain ⟨rfl, hZ, hh⟩ := hP
  have hx := Bd.exec
  have hby := Bd.bytes
  have hml : c.maxLocals = 15 := hml0
  have hown : s.vm.findClass "com/example/krel/krel/saturation/IntListPopPinLaw" = some m.cls := findClass_of_methodNamed Bd.named
  have hnm := (name_of_methodNamed Bd.named Bd.method).1
  have X0 : Stand p l e room_1 s m #[(.int p1), (.int p2), (.int p3), (.int p4), (.int p5), (.int p6)] below meth c s₁ [] 0 0 := Stand.of_body Bd
  have e0 : s₁.heap = h0 := by rw [← hh, Bd.state]; rfl
  have N0 := Fr.nil n0
  have pre0 : ∀ t, Steps p.tables e below (s₁.setTop (mkF m 0 #[.val (.int p1), .val (.int p2), .val (.int p3), .val (.int p4), .val (.int p5), .val (.int p6), .unset, .unset, .unset, .unset, .unset, .unset, .unset, .unset, .unset] [])) t → Steps p.tables e below (s₁.setTop (entryFrame m #[(.int p1), (.int p2), (.int p3), (.int p4), (.int p5), (.int p6)] maxLocals)) t := fun t k => castTop (ef_0 m p1 p2 p3 p4 p5 p6) k
  have pre1 : ∀ t, Steps p.tables e below (s₁.setTop (mkF m 8 #[.val (.int p1), .val (.int p2), .val (.int p3), .val (.int p4), .val (.int p5), .val (.int p6), .val (.int ((p6 &&& (3 : Int32)) + (2 : Int32))), .unset, .unset, .unset, .unset, .unset, .unset, .unset, .unset] [])) t → Steps p.tables e below (s₁.setTop (entryFrame m #[(.int p1), (.int p2), (.int p3), (.int p4), (.int p5), (.int p6)] maxLocals)) t := fun t kt => by
    refine pre0 t ?_
    show Steps p.tables e below (s₁.setTop (mkF m 0 #[.val (.int p1), .val (.int p2), .val (.int p3), .val (.int p4), .val (.int p5), .val (.int p6), .unset, .unset, .unset, .unset, .unset, .unset, .unset, .unset, .unset] [])) _
    refine XS.iload X0.here hx rfl (hb hby at_0) rfl ?_
    show Steps p.tables e below (s₁.setTop (mkF m 2 #[.val (.int p1), .val (.int p2), .val (.int p3), .val (.int p4), .val (.int p5), .val (.int p6), .unset, .unset, .unset, .unset, .unset, .unset, .unset, .unset, .unset] [(.int p6)])) _
    refine XS.iconst X0.here hx rfl (hb hby at_2) ?_
    show Steps p.tables e below (s₁.setTop (mkF m 3 #[.val (.int p1), .val (.int p2), .val (.int p3), .val (.int p4), .val (.int p5), .val (.int p6), .unset, .unset, .unset, .unset, .unset, .unset, .unset, .unset, .unset] [(.int (3 : Int32)), (.int p6)])) _
    refine XS.iand X0.here hx rfl (hb hby at_3) rfl ?_
    show Steps p.tables e below (s₁.setTop (mkF m 4 #[.val (.int p1), .val (.int p2), .val (.int p3), .val (.int p4), .val (.int p5), .val (.int p6), .unset, .unset, .unset, .unset, .unset, .unset, .unset, .unset, .unset] [(.int (p6 &&& (3 : Int32)))])) _
    refine XS.iconst X0.here hx rfl (hb hby at_4) ?_
    show Steps p.tables e below (s₁.setTop (mkF m 5 #[.val (.int p1), .val (.int p2), .val (.int p3), .val (.int p4), .val (.int p5), .val (.int p6), .unset, .unset, .unset, .unset, .unset, .unset, .unset, .unset, .unset] [(.int (2 : Int32)), (.int (p6 &&& (3 : Int32)))])) _
    refine XS.iadd X0.here hx rfl (hb hby at_5) rfl ?_
    show Steps p.tables e below (s₁.setTop (mkF m 6 #[.val (.int p1), .val (.int p2), .val (.int p3), .val (.int p4), .val (.int p5), .val (.int p6), .unset, .unset, .unset, .unset, .unset, .unset, .unset, .unset, .unset] [(.int ((p6 &&& (3 : Int32)) + (2 : Int32)))])) _
    refine XS.istore X0.here hx rfl (hb hby at_6) rfl (l' := #[.val (.int p1), .val (.int p2), .val (.int p3), .val (.int p4), .val (.int p5), .val (.int p6), .val (.int ((p6 &&& (3 : Int32)) + (2 : Int32))), .unset, .unset, .unset, .unset, .unset, .unset, .unset, .unset]) rfl ?_
    exact kt
  rcases (case_0_8 p1 p2 p3 p4 p5 p6) with hk2 | hk2 | hk2 | hk2
  · rw [hk2] at pre1
    obtain ⟨b3, g3⟩ : ∃ z, z = h0.size := ⟨_, rfl⟩
    obtain ⟨T3, h3, X3, e3, E3, A3, D3, -, st3⟩ := newO X0 hx hZ hown (hw _ (List.mem_of_getElem? (i := 0) rfl)) (hw _ (List.mem_of_getElem? (i := 1) rfl)) (hw _ (List.mem_of_getElem? (i := 2) rfl)) e0 (g := (mkF m 8 #[.val (.int p1), .val (.int p2), .val (.int p3), .val (.int p4), .val (.int p5), .val (.int p6), .val (.int (2 : Int32)), .unset, .unset, .unset, .unset, .unset, .unset, .unset, .unset] [])) rfl (hb hby at_8) (by decide) (by decide)
    rw [← g3] at A3 D3 st3
    have g_b3 : n0 ≤ b3 := Nat.le_trans Z0 (Nat.le_of_eq g3.symm)
    have F_values_b3 : Fld Z h3 b3 "com/example/krel/krel/saturation/IntList" "values" "[I" .null := D3 (Or.inl (hw _ (List.mem_of_getElem? (i := 11) rfl))) (ty := (.array .int)) (by decide)
    have F_size_b3 : Fld Z h3 b3 "com/example/krel/krel/saturation/IntList" "size" "I" (.int (0 : Int32)) := D3 (Or.inl (hw _ (List.mem_of_getElem? (i := 18) rfl))) (ty := .int) (by decide)
    have z5 : n0 ≤ h3.size := (Nat.le_trans Z0 E3.1)
    obtain ⟨_, _, ⟨T4, L4, k4, n4⟩, -, X4, ⟨Lc4, hQ4, l4, y4, z4⟩, st4⟩ := X3.specialBack hx (y := (⟨"com/example/krel/krel/saturation/IntList", "<init>", "()V"⟩ : MethodName)) rfl hown (mvT hZ (hw _ (List.mem_of_getElem? (i := 3) rfl))) (mvT hZ (hw _ (List.mem_of_getElem? (i := 4) rfl))) (mvT hZ (hw _ (List.mem_of_getElem? (i := 5) rfl))) (by decide) (backOf (W := 1) (rm1 l Z a0 hw [] b3 (.int (0 : Int32)) .null h3 n0 z5 A3 F_size_b3 F_values_b3 g_b3) hZ (hw _ (List.mem_of_getElem? (i := 5) rfl)) (hw _ (List.mem_of_getElem? (i := 2) rfl)) (by decide) (by decide)) (g := (mkF m 12 #[.val (.int p1), .val (.int p2), .val (.int p3), .val (.int p4), .val (.int p5), .val (.int p6), .val (.int (2 : Int32)), .unset, .unset, .unset, .unset, .unset, .unset, .unset, .unset] [(.ref b3), (.ref b3)])) rfl (by rw [hml]; rfl) (Steps.refl _) (a := b3) (argsL := []) (rest := [(.ref b3)]) (lenOf pd_0_0 rfl) rfl (by show 2 * 0 + _ ≤ _; exact Nat.le_of_eq rfl) (hb hby at_12) (fun _ _ => ⟨rfl, e3, (by decide : 1 + 1 ≤ _), (by decide : 2 + 4 ≤ _)⟩)
    dsimp only [Pt.U, Pt.locs, Pt.cells, Pt.slots] at X4 l4 y4 z4 st4 hQ4
    subst l4 y4 z4
    obtain ⟨b4_0, kk4_0, rfl, N4q, g_b4_0, hz_b4_0, K4, f4_0, f4_1, f4_2, f4_3⟩ := hQ4
    have ne_b3_b4_0 : b3 ≠ b4_0 := Nat.ne_of_lt (Nat.lt_of_lt_of_le A3.lt hz_b4_0)
    have N4 := Fr.app N0 N4q
    have z7 : n0 ≤ T4.heap.size := (Nat.le_trans z5 K4.1)
    obtain ⟨cq6, kq6, q6a, q6b, q6c⟩ := isOf hZ rfl f4_0
    obtain ⟨_, _, ⟨T6, L6, k6, n6⟩, -, X6, ⟨Lc6, hQ6, l6, y6, z6⟩, st6⟩ := X4.virtualBack hx (y := (⟨"com/example/krel/krel/saturation/IntList", "add", "(I)V"⟩ : MethodName)) (z := (⟨"com/example/krel/krel/saturation/IntList", "add", "(I)V"⟩ : MethodName)) hown (mvT hZ (hw _ (List.mem_of_getElem? (i := 12) rfl))) (mvT hZ (hw _ (List.mem_of_getElem? (i := 13) rfl))) (notFace_of_selects (args := #[]) (mvT hZ (hw _ (List.mem_of_getElem? (i := 15) rfl)))) (mvT hZ (hw _ (List.mem_of_getElem? (i := 15) rfl))) (mvT hZ (hw _ (List.mem_of_getElem? (i := 14) rfl))) (by decide) (backOf (W := 0) (rm3 l Z a0 hw [] b3 p1 b4_0 kk4_0 (0 : Int32) (0 : Int32) (0 : Int32) (0 : Int32) T4.heap n0 z7 f4_0 f4_1 f4_2 f4_3 g_b3 (Ne.symm ne_b3_b4_0) g_b4_0) hZ (hw _ (List.mem_of_getElem? (i := 16) rfl)) (hw _ (List.mem_of_getElem? (i := 2) rfl)) (by decide) (by decide)) q6a q6c (g := (mkF m 20 #[.val (.int p1), .val (.int p2), .val (.int p3), .val (.int p4), .val (.int p5), .val (.int p6), .val (.int (2 : Int32)), .val (.ref b3), .unset, .unset, .unset, .unset, .unset, .unset, .unset] [(.int p1), (.ref b3)])) rfl (by rw [hml]; rfl) (Steps.refl _) (argsL := [(.int p1)]) (rest := []) (lenOf pd_0_1 rfl) rfl (by show 2 * 0 + _ ≤ _; exact Nat.le_of_eq rfl) (hb hby at_20) (fun _ _ => ⟨rfl, rfl, (by decide : 2 + 0 ≤ _), (by decide : 6 + 0 ≤ _)⟩)
    dsimp only [Pt.U, Pt.locs, Pt.cells, Pt.slots] at X6 l6 y6 z6 st6 hQ6
    subst l6 y6 z6
    obtain ⟨rfl, N6q, K6, f6_0, f6_1, f6_2, f6_3⟩ := hQ6
    have N6 := Fr.app N4 N6q
    have z9 : n0 ≤ T6.heap.size := (Nat.le_trans z7 K6.1)
    obtain ⟨cq8, kq8, q8a, q8b, q8c⟩ := isOf hZ rfl f6_0
    obtain ⟨_, _, ⟨T8, L8, k8, n8⟩, -, X8, ⟨Lc8, hQ8, l8, y8, z8⟩, st8⟩ := X6.virtualBack hx (y := (⟨"com/example/krel/krel/saturation/IntList", "add", "(I)V"⟩ : MethodName)) (z := (⟨"com/example/krel/krel/saturation/IntList", "add", "(I)V"⟩ : MethodName)) hown (mvT hZ (hw _ (List.mem_of_getElem? (i := 12) rfl))) (mvT hZ (hw _ (List.mem_of_getElem? (i := 13) rfl))) (notFace_of_selects (args := #[]) (mvT hZ (hw _ (List.mem_of_getElem? (i := 15) rfl)))) (mvT hZ (hw _ (List.mem_of_getElem? (i := 15) rfl))) (mvT hZ (hw _ (List.mem_of_getElem? (i := 14) rfl))) (by decide) (backOf (W := 0) (rm1003 l Z a0 hw [] b3 p2 b4_0 kk4_0 p1 (0 : Int32) (0 : Int32) (0 : Int32) T6.heap n0 z9 f6_0 f6_1 f6_2 f6_3 g_b3 (Ne.symm ne_b3_b4_0) g_b4_0) hZ (hw _ (List.mem_of_getElem? (i := 16) rfl)) (hw _ (List.mem_of_getElem? (i := 2) rfl)) (by decide) (by decide)) q8a q8c (g := (mkF m 26 #[.val (.int p1), .val (.int p2), .val (.int p3), .val (.int p4), .val (.int p5), .val (.int p6), .val (.int (2 : Int32)), .val (.ref b3), .unset, .unset, .unset, .unset, .unset, .unset, .unset] [(.int p2), (.ref b3)])) rfl (by rw [hml]; rfl) (Steps.refl _) (argsL := [(.int p2)]) (rest := []) (lenOf pd_0_1 rfl) rfl (by show 2 * 0 + _ ≤ _; exact Nat.le_of_eq rfl) (hb hby at_26) (fun _ _ => ⟨rfl, rfl, (by decide : 2 + 0 ≤ _), (by decide : 6 + 0 ≤ _)⟩)
    dsimp only [Pt.U, Pt.locs, Pt.cells, Pt.slots] at X8 l8 y8 z8 st8 hQ8
    subst l8 y8 z8
    obtain ⟨rfl, N8q, K8, f8_0, f8_1, f8_2, f8_3⟩ := hQ8
    have N8 := Fr.app N6 N8q
    have z11 : n0 ≤ T8.heap.size := (Nat.le_trans z9 K8.1)
    obtain ⟨cq10, kq10, q10a, q10b, q10c⟩ := isOf hZ rfl f8_0
    obtain ⟨_, _, ⟨T10, L10, k10, n10⟩, -, X10, ⟨Lc10, hQ10, l10, y10, z10⟩, st10⟩ := X8.virtualBack hx (y := (⟨"com/example/krel/krel/saturation/IntList", "pop", "()I"⟩ : MethodName)) (z := (⟨"com/example/krel/krel/saturation/IntList", "pop", "()I"⟩ : MethodName)) hown (mvT hZ (hw _ (List.mem_of_getElem? (i := 31) rfl))) (mvT hZ (hw _ (List.mem_of_getElem? (i := 32) rfl))) (notFace_of_selects (args := #[]) (mvT hZ (hw _ (List.mem_of_getElem? (i := 34) rfl)))) (mvT hZ (hw _ (List.mem_of_getElem? (i := 34) rfl))) (mvT hZ (hw _ (List.mem_of_getElem? (i := 33) rfl))) (by decide) (backOf (W := 0) (rm1006 l Z a0 hw [] b3 b4_0 kk4_0 p1 p2 (0 : Int32) (0 : Int32) T8.heap n0 z11 f8_0 f8_1 f8_2 f8_3 g_b3 (Ne.symm ne_b3_b4_0)) hZ (hw _ (List.mem_of_getElem? (i := 35) rfl)) (hw _ (List.mem_of_getElem? (i := 2) rfl)) (by decide) (by decide)) q10a q10c (g := (mkF m 135 #[.val (.int p1), .val (.int p2), .val (.int p3), .val (.int p4), .val (.int p5), .val (.int p6), .val (.int (2 : Int32)), .val (.ref b3), .val (.int p2), .val (.int p1), .unset, .unset, .unset, .unset, .unset] [(.ref b3)])) rfl (by rw [hml]; rfl) (Steps.refl _) (argsL := []) (rest := []) (lenOf pd_0_5 rfl) rfl (by show 2 * 0 + _ ≤ _; exact Nat.le_of_eq rfl) (hb hby at_135) (fun _ _ => ⟨rfl, rfl, (by decide : 2 + 0 ≤ _), (by decide : 6 + 0 ≤ _)⟩)
    dsimp only [Pt.U, Pt.locs, Pt.cells, Pt.slots] at X10 l10 y10 z10 st10 hQ10
    subst l10 y10 z10
    obtain ⟨rfl, N10q, K10, f10_0, f10_1, f10_2⟩ := hQ10
    have N10 := Fr.app N8 N10q
    have z13 : n0 ≤ T10.heap.size := (Nat.le_trans z11 K10.1)
    obtain ⟨cq12, kq12, q12a, q12b, q12c⟩ := isOf hZ rfl f10_0
    obtain ⟨_, _, ⟨T12, L12, k12, n12⟩, -, X12, ⟨Lc12, hQ12, l12, y12, z12⟩, st12⟩ := X10.virtualBack hx (y := (⟨"com/example/krel/krel/saturation/IntList", "size", "()I"⟩ : MethodName)) (z := (⟨"com/example/krel/krel/saturation/IntList", "size", "()I"⟩ : MethodName)) hown (mvT hZ (hw _ (List.mem_of_getElem? (i := 36) rfl))) (mvT hZ (hw _ (List.mem_of_getElem? (i := 37) rfl))) (notFace_of_selects (args := #[]) (mvT hZ (hw _ (List.mem_of_getElem? (i := 39) rfl)))) (mvT hZ (hw _ (List.mem_of_getElem? (i := 39) rfl))) (mvT hZ (hw _ (List.mem_of_getElem? (i := 38) rfl))) (by decide) (backOf (W := 0) (rm7 l Z a0 hw [] b3 (1 : Int32) T10.heap n0 z13 f10_1) hZ (hw _ (List.mem_of_getElem? (i := 40) rfl)) (hw _ (List.mem_of_getElem? (i := 2) rfl)) (by decide) (by decide)) q12a q12c (g := (mkF m 142 #[.val (.int p1), .val (.int p2), .val (.int p3), .val (.int p4), .val (.int p5), .val (.int p6), .val (.int (2 : Int32)), .val (.ref b3), .val (.int p2), .val (.int p1), .val (.int (F1006 p1 p2 (0 : Int32) (0 : Int32))), .unset, .unset, .unset, .unset] [(.ref b3)])) rfl (by rw [hml]; rfl) (Steps.refl _) (argsL := []) (rest := []) (lenOf pd_0_5 rfl) rfl (by show 2 * 0 + _ ≤ _; exact Nat.le_of_eq rfl) (hb hby at_142) (fun _ _ => ⟨rfl, rfl, (by decide : 2 + 0 ≤ _), (by decide : 6 + 0 ≤ _)⟩)
    dsimp only [Pt.U, Pt.locs, Pt.cells, Pt.slots] at X12 l12 y12 z12 st12 hQ12
    subst l12 y12 z12
    obtain ⟨rfl, N12q, e12⟩ := hQ12
    have N12 := Fr.app N10 N12q
    have q15 := (f8_3.keep K10 (ninS (Ne.symm ne_b3_b4_0) nin0))
    obtain ⟨cq14, kq14, q14a, q14b, q14c⟩ := isOf hZ e12 f10_0
    obtain ⟨_, _, ⟨T14, L14, k14, n14⟩, -, X14, ⟨Lc14, hQ14, l14, y14, z14⟩, st14⟩ := X12.virtualBack hx (y := (⟨"com/example/krel/krel/saturation/IntList", "pop", "()I"⟩ : MethodName)) (z := (⟨"com/example/krel/krel/saturation/IntList", "pop", "()I"⟩ : MethodName)) hown (mvT hZ (hw _ (List.mem_of_getElem? (i := 31) rfl))) (mvT hZ (hw _ (List.mem_of_getElem? (i := 32) rfl))) (notFace_of_selects (args := #[]) (mvT hZ (hw _ (List.mem_of_getElem? (i := 34) rfl)))) (mvT hZ (hw _ (List.mem_of_getElem? (i := 34) rfl))) (mvT hZ (hw _ (List.mem_of_getElem? (i := 33) rfl))) (by decide) (backOf (W := 0) (rm6 l Z a0 hw [] b3 b4_0 kk4_0 p1 p2 (0 : Int32) (0 : Int32) T10.heap n0 z13 f10_0 f10_1 f10_2 q15 g_b3 (Ne.symm ne_b3_b4_0)) hZ (hw _ (List.mem_of_getElem? (i := 35) rfl)) (hw _ (List.mem_of_getElem? (i := 2) rfl)) (by decide) (by decide)) q14a q14c (g := (mkF m 149 #[.val (.int p1), .val (.int p2), .val (.int p3), .val (.int p4), .val (.int p5), .val (.int p6), .val (.int (2 : Int32)), .val (.ref b3), .val (.int p2), .val (.int p1), .val (.int (F1006 p1 p2 (0 : Int32) (0 : Int32))), .val (.int (F7 (1 : Int32))), .unset, .unset, .unset] [(.ref b3)])) rfl (by rw [hml]; rfl) (Steps.refl _) (argsL := []) (rest := []) (lenOf pd_0_5 rfl) rfl (by show 2 * 0 + _ ≤ _; exact Nat.le_of_eq rfl) (hb hby at_149) (fun _ _ => ⟨rfl, e12, (by decide : 2 + 0 ≤ _), (by decide : 6 + 0 ≤ _)⟩)
    dsimp only [Pt.U, Pt.locs, Pt.cells, Pt.slots] at X14 l14 y14 z14 st14 hQ14
    subst l14 y14 z14
    obtain ⟨rfl, N14q, K14, f14_0, f14_1, f14_2⟩ := hQ14
    have N14 := Fr.app N12 N14q
    have z17 : n0 ≤ T14.heap.size := (Nat.le_trans z13 K14.1)
    obtain ⟨cq16, kq16, q16a, q16b, q16c⟩ := isOf hZ rfl f14_0
    obtain ⟨_, _, ⟨T16, L16, k16, n16⟩, -, X16, ⟨Lc16, hQ16, l16, y16, z16⟩, st16⟩ := X14.virtualBack hx (y := (⟨"com/example/krel/krel/saturation/IntList", "size", "()I"⟩ : MethodName)) (z := (⟨"com/example/krel/krel/saturation/IntList", "size", "()I"⟩ : MethodName)) hown (mvT hZ (hw _ (List.mem_of_getElem? (i := 36) rfl))) (mvT hZ (hw _ (List.mem_of_getElem? (i := 37) rfl))) (notFace_of_selects (args := #[]) (mvT hZ (hw _ (List.mem_of_getElem? (i := 39) rfl)))) (mvT hZ (hw _ (List.mem_of_getElem? (i := 39) rfl))) (mvT hZ (hw _ (List.mem_of_getElem? (i := 38) rfl))) (by decide) (backOf (W := 0) (rm7 l Z a0 hw [] b3 (0 : Int32) T14.heap n0 z17 f14_1) hZ (hw _ (List.mem_of_getElem? (i := 40) rfl)) (hw _ (List.mem_of_getElem? (i := 2) rfl)) (by decide) (by decide)) q16a q16c (g := (mkF m 156 #[.val (.int p1), .val (.int p2), .val (.int p3), .val (.int p4), .val (.int p5), .val (.int p6), .val (.int (2 : Int32)), .val (.ref b3), .val (.int p2), .val (.int p1), .val (.int (F1006 p1 p2 (0 : Int32) (0 : Int32))), .val (.int (F7 (1 : Int32))), .val (.int (F6 p1 p2 (0 : Int32) (0 : Int32))), .unset, .unset] [(.ref b3)])) rfl (by rw [hml]; rfl) (Steps.refl _) (argsL := []) (rest := []) (lenOf pd_0_5 rfl) rfl (by show 2 * 0 + _ ≤ _; exact Nat.le_of_eq rfl) (hb hby at_156) (fun _ _ => ⟨rfl, rfl, (by decide : 2 + 0 ≤ _), (by decide : 6 + 0 ≤ _)⟩)
    dsimp only [Pt.U, Pt.locs, Pt.cells, Pt.slots] at X16 l16 y16 z16 st16 hQ16
    subst l16 y16 z16
    obtain ⟨rfl, N16q, e16⟩ := hQ16
    have N16 := Fr.app N14 N16q
    have pre18 : ∀ t, Steps p.tables e below (T16.setTop (mkF m 165 #[.val (.int p1), .val (.int p2), .val (.int p3), .val (.int p4), .val (.int p5), .val (.int p6), .val (.int (2 : Int32)), .val (.ref b3), .val (.int p2), .val (.int p1), .val (.int (F1006 p1 p2 (0 : Int32) (0 : Int32))), .val (.int (F7 (1 : Int32))), .val (.int (F6 p1 p2 (0 : Int32) (0 : Int32))), .val (.int (F7 (0 : Int32))), .unset] [(.int p2), (.int (F1006 p1 p2 (0 : Int32) (0 : Int32)))])) t → Steps p.tables e below (s₁.setTop (entryFrame m #[(.int p1), (.int p2), (.int p3), (.int p4), (.int p5), (.int p6)] maxLocals)) t := fun t kt => by
      refine pre1 t ?_
      show Steps p.tables e below (s₁.setTop (mkF m 8 #[.val (.int p1), .val (.int p2), .val (.int p3), .val (.int p4), .val (.int p5), .val (.int p6), .val (.int (2 : Int32)), .unset, .unset, .unset, .unset, .unset, .unset, .unset, .unset] [])) _
      refine st3 _ ?_
      show Steps p.tables e below (T3.setTop (mkF m 11 #[.val (.int p1), .val (.int p2), .val (.int p3), .val (.int p4), .val (.int p5), .val (.int p6), .val (.int (2 : Int32)), .unset, .unset, .unset, .unset, .unset, .unset, .unset, .unset] [(.ref b3)])) _
      refine XS.dup X3.here hx rfl (hb hby at_11) rfl rfl ?_
      show Steps p.tables e below (T3.setTop (mkF m 12 #[.val (.int p1), .val (.int p2), .val (.int p3), .val (.int p4), .val (.int p5), .val (.int p6), .val (.int (2 : Int32)), .unset, .unset, .unset, .unset, .unset, .unset, .unset, .unset] [(.ref b3), (.ref b3)])) _
      refine st4.trans ?_
      show Steps p.tables e below (T4.setTop (mkF m 15 #[.val (.int p1), .val (.int p2), .val (.int p3), .val (.int p4), .val (.int p5), .val (.int p6), .val (.int (2 : Int32)), .unset, .unset, .unset, .unset, .unset, .unset, .unset, .unset] [(.ref b3)])) _
      refine XS.astore X4.here hx rfl (hb hby at_15) rfl rfl (l' := #[.val (.int p1), .val (.int p2), .val (.int p3), .val (.int p4), .val (.int p5), .val (.int p6), .val (.int (2 : Int32)), .val (.ref b3), .unset, .unset, .unset, .unset, .unset, .unset, .unset]) rfl ?_
      show Steps p.tables e below (T4.setTop (mkF m 17 #[.val (.int p1), .val (.int p2), .val (.int p3), .val (.int p4), .val (.int p5), .val (.int p6), .val (.int (2 : Int32)), .val (.ref b3), .unset, .unset, .unset, .unset, .unset, .unset, .unset] [])) _
      refine XS.aload X4.here hx rfl (hb hby at_17) rfl rfl ?_
      show Steps p.tables e below (T4.setTop (mkF m 19 #[.val (.int p1), .val (.int p2), .val (.int p3), .val (.int p4), .val (.int p5), .val (.int p6), .val (.int (2 : Int32)), .val (.ref b3), .unset, .unset, .unset, .unset, .unset, .unset, .unset] [(.ref b3)])) _
      refine XS.iloadN X4.here hx rfl (hb hby at_19) rfl ?_
      show Steps p.tables e below (T4.setTop (mkF m 20 #[.val (.int p1), .val (.int p2), .val (.int p3), .val (.int p4), .val (.int p5), .val (.int p6), .val (.int (2 : Int32)), .val (.ref b3), .unset, .unset, .unset, .unset, .unset, .unset, .unset] [(.int p1), (.ref b3)])) _
      refine st6.trans ?_
      show Steps p.tables e below (T6.setTop (mkF m 23 #[.val (.int p1), .val (.int p2), .val (.int p3), .val (.int p4), .val (.int p5), .val (.int p6), .val (.int (2 : Int32)), .val (.ref b3), .unset, .unset, .unset, .unset, .unset, .unset, .unset] [])) _
      refine XS.aload X6.here hx rfl (hb hby at_23) rfl rfl ?_
      show Steps p.tables e below (T6.setTop (mkF m 25 #[.val (.int p1), .val (.int p2), .val (.int p3), .val (.int p4), .val (.int p5), .val (.int p6), .val (.int (2 : Int32)), .val (.ref b3), .unset, .unset, .unset, .unset, .unset, .unset, .unset] [(.ref b3)])) _
      refine XS.iloadN X6.here hx rfl (hb hby at_25) rfl ?_
      show Steps p.tables e below (T6.setTop (mkF m 26 #[.val (.int p1), .val (.int p2), .val (.int p3), .val (.int p4), .val (.int p5), .val (.int p6), .val (.int (2 : Int32)), .val (.ref b3), .unset, .unset, .unset, .unset, .unset, .unset, .unset] [(.int p2), (.ref b3)])) _
      refine st8.trans ?_
      show Steps p.tables e below (T8.setTop (mkF m 29 #[.val (.int p1), .val (.int p2), .val (.int p3), .val (.int p4), .val (.int p5), .val (.int p6), .val (.int (2 : Int32)), .val (.ref b3), .unset, .unset, .unset, .unset, .unset, .unset, .unset] [])) _
      refine XS.iload X8.here hx rfl (hb hby at_29) rfl ?_
      show Steps p.tables e below (T8.setTop (mkF m 31 #[.val (.int p1), .val (.int p2), .val (.int p3), .val (.int p4), .val (.int p5), .val (.int p6), .val (.int (2 : Int32)), .val (.ref b3), .unset, .unset, .unset, .unset, .unset, .unset, .unset] [(.int (2 : Int32))])) _
      refine XS.iconst X8.here hx rfl (hb hby at_31) ?_
      show Steps p.tables e below (T8.setTop (mkF m 32 #[.val (.int p1), .val (.int p2), .val (.int p3), .val (.int p4), .val (.int p5), .val (.int p6), .val (.int (2 : Int32)), .val (.ref b3), .unset, .unset, .unset, .unset, .unset, .unset, .unset] [(.int (3 : Int32)), (.int (2 : Int32))])) _
      refine XS.icmpYes X8.here hx rfl (pc0 := 32) (pc' := 41) rfl (hb hby at_32) rfl (tlt (by decide : (2 : Int32) < (3 : Int32))).1 (by decide) (by decide) ?_
      show Steps p.tables e below (T8.setTop (mkF m 41 #[.val (.int p1), .val (.int p2), .val (.int p3), .val (.int p4), .val (.int p5), .val (.int p6), .val (.int (2 : Int32)), .val (.ref b3), .unset, .unset, .unset, .unset, .unset, .unset, .unset] [])) _
      refine XS.iload X8.here hx rfl (hb hby at_41) rfl ?_
      show Steps p.tables e below (T8.setTop (mkF m 43 #[.val (.int p1), .val (.int p2), .val (.int p3), .val (.int p4), .val (.int p5), .val (.int p6), .val (.int (2 : Int32)), .val (.ref b3), .unset, .unset, .unset, .unset, .unset, .unset, .unset] [(.int (2 : Int32))])) _
      refine XS.iconst X8.here hx rfl (hb hby at_43) ?_
      show Steps p.tables e below (T8.setTop (mkF m 44 #[.val (.int p1), .val (.int p2), .val (.int p3), .val (.int p4), .val (.int p5), .val (.int p6), .val (.int (2 : Int32)), .val (.ref b3), .unset, .unset, .unset, .unset, .unset, .unset, .unset] [(.int (4 : Int32)), (.int (2 : Int32))])) _
      refine XS.icmpYes X8.here hx rfl (pc0 := 44) (pc' := 53) rfl (hb hby at_44) rfl (tlt (by decide : (2 : Int32) < (4 : Int32))).1 (by decide) (by decide) ?_
      show Steps p.tables e below (T8.setTop (mkF m 53 #[.val (.int p1), .val (.int p2), .val (.int p3), .val (.int p4), .val (.int p5), .val (.int p6), .val (.int (2 : Int32)), .val (.ref b3), .unset, .unset, .unset, .unset, .unset, .unset, .unset] [])) _
      refine XS.iload X8.here hx rfl (hb hby at_53) rfl ?_
      show Steps p.tables e below (T8.setTop (mkF m 55 #[.val (.int p1), .val (.int p2), .val (.int p3), .val (.int p4), .val (.int p5), .val (.int p6), .val (.int (2 : Int32)), .val (.ref b3), .unset, .unset, .unset, .unset, .unset, .unset, .unset] [(.int (2 : Int32))])) _
      refine XS.iconst X8.here hx rfl (hb hby at_55) ?_
      show Steps p.tables e below (T8.setTop (mkF m 56 #[.val (.int p1), .val (.int p2), .val (.int p3), .val (.int p4), .val (.int p5), .val (.int p6), .val (.int (2 : Int32)), .val (.ref b3), .unset, .unset, .unset, .unset, .unset, .unset, .unset] [(.int (5 : Int32)), (.int (2 : Int32))])) _
      refine XS.icmpYes X8.here hx rfl (pc0 := 56) (pc' := 66) rfl (hb hby at_56) rfl (tlt (by decide : (2 : Int32) < (5 : Int32))).1 (by decide) (by decide) ?_
      show Steps p.tables e below (T8.setTop (mkF m 66 #[.val (.int p1), .val (.int p2), .val (.int p3), .val (.int p4), .val (.int p5), .val (.int p6), .val (.int (2 : Int32)), .val (.ref b3), .unset, .unset, .unset, .unset, .unset, .unset, .unset] [])) _
      refine XS.iload X8.here hx rfl (hb hby at_66) rfl ?_
      show Steps p.tables e below (T8.setTop (mkF m 68 #[.val (.int p1), .val (.int p2), .val (.int p3), .val (.int p4), .val (.int p5), .val (.int p6), .val (.int (2 : Int32)), .val (.ref b3), .unset, .unset, .unset, .unset, .unset, .unset, .unset] [(.int (2 : Int32))])) _
      refine XS.iconst X8.here hx rfl (hb hby at_68) ?_
      show Steps p.tables e below (T8.setTop (mkF m 69 #[.val (.int p1), .val (.int p2), .val (.int p3), .val (.int p4), .val (.int p5), .val (.int p6), .val (.int (2 : Int32)), .val (.ref b3), .unset, .unset, .unset, .unset, .unset, .unset, .unset] [(.int (2 : Int32)), (.int (2 : Int32))])) _
      refine XS.icmpNo X8.here hx rfl (hb hby at_69) rfl (teq (rfl : (2 : Int32) = (2 : Int32))).2 ?_
      show Steps p.tables e below (T8.setTop (mkF m 72 #[.val (.int p1), .val (.int p2), .val (.int p3), .val (.int p4), .val (.int p5), .val (.int p6), .val (.int (2 : Int32)), .val (.ref b3), .unset, .unset, .unset, .unset, .unset, .unset, .unset] [])) _
      refine XS.iloadN X8.here hx rfl (hb hby at_72) rfl ?_
      show Steps p.tables e below (T8.setTop (mkF m 73 #[.val (.int p1), .val (.int p2), .val (.int p3), .val (.int p4), .val (.int p5), .val (.int p6), .val (.int (2 : Int32)), .val (.ref b3), .unset, .unset, .unset, .unset, .unset, .unset, .unset] [(.int p2)])) _
      refine XS.goto X8.here hx rfl (pc0 := 73) (pc' := 98) rfl (hb hby at_73) (by decide) (by decide) ?_
      show Steps p.tables e below (T8.setTop (mkF m 98 #[.val (.int p1), .val (.int p2), .val (.int p3), .val (.int p4), .val (.int p5), .val (.int p6), .val (.int (2 : Int32)), .val (.ref b3), .unset, .unset, .unset, .unset, .unset, .unset, .unset] [(.int p2)])) _
      refine XS.istore X8.here hx rfl (hb hby at_98) rfl (l' := #[.val (.int p1), .val (.int p2), .val (.int p3), .val (.int p4), .val (.int p5), .val (.int p6), .val (.int (2 : Int32)), .val (.ref b3), .val (.int p2), .unset, .unset, .unset, .unset, .unset, .unset]) rfl ?_
      show Steps p.tables e below (T8.setTop (mkF m 100 #[.val (.int p1), .val (.int p2), .val (.int p3), .val (.int p4), .val (.int p5), .val (.int p6), .val (.int (2 : Int32)), .val (.ref b3), .val (.int p2), .unset, .unset, .unset, .unset, .unset, .unset] [])) _
      refine XS.iload X8.here hx rfl (hb hby at_100) rfl ?_
      show Steps p.tables e below (T8.setTop (mkF m 102 #[.val (.int p1), .val (.int p2), .val (.int p3), .val (.int p4), .val (.int p5), .val (.int p6), .val (.int (2 : Int32)), .val (.ref b3), .val (.int p2), .unset, .unset, .unset, .unset, .unset, .unset] [(.int (2 : Int32))])) _
      refine XS.iconst X8.here hx rfl (hb hby at_102) ?_
      show Steps p.tables e below (T8.setTop (mkF m 103 #[.val (.int p1), .val (.int p2), .val (.int p3), .val (.int p4), .val (.int p5), .val (.int p6), .val (.int (2 : Int32)), .val (.ref b3), .val (.int p2), .unset, .unset, .unset, .unset, .unset, .unset] [(.int (2 : Int32)), (.int (2 : Int32))])) _
      refine XS.icmpNo X8.here hx rfl (hb hby at_103) rfl (teq (rfl : (2 : Int32) = (2 : Int32))).2 ?_
      show Steps p.tables e below (T8.setTop (mkF m 106 #[.val (.int p1), .val (.int p2), .val (.int p3), .val (.int p4), .val (.int p5), .val (.int p6), .val (.int (2 : Int32)), .val (.ref b3), .val (.int p2), .unset, .unset, .unset, .unset, .unset, .unset] [])) _
      refine XS.iloadN X8.here hx rfl (hb hby at_106) rfl ?_
      show Steps p.tables e below (T8.setTop (mkF m 107 #[.val (.int p1), .val (.int p2), .val (.int p3), .val (.int p4), .val (.int p5), .val (.int p6), .val (.int (2 : Int32)), .val (.ref b3), .val (.int p2), .unset, .unset, .unset, .unset, .unset, .unset] [(.int p1)])) _
      refine XS.goto X8.here hx rfl (pc0 := 107) (pc' := 131) rfl (hb hby at_107) (by decide) (by decide) ?_
      show Steps p.tables e below (T8.setTop (mkF m 131 #[.val (.int p1), .val (.int p2), .val (.int p3), .val (.int p4), .val (.int p5), .val (.int p6), .val (.int (2 : Int32)), .val (.ref b3), .val (.int p2), .unset, .unset, .unset, .unset, .unset, .unset] [(.int p1)])) _
      refine XS.istore X8.here hx rfl (hb hby at_131) rfl (l' := #[.val (.int p1), .val (.int p2), .val (.int p3), .val (.int p4), .val (.int p5), .val (.int p6), .val (.int (2 : Int32)), .val (.ref b3), .val (.int p2), .val (.int p1), .unset, .unset, .unset, .unset, .unset]) rfl ?_
      show Steps p.tables e below (T8.setTop (mkF m 133 #[.val (.int p1), .val (.int p2), .val (.int p3), .val (.int p4), .val (.int p5), .val (.int p6), .val (.int (2 : Int32)), .val (.ref b3), .val (.int p2), .val (.int p1), .unset, .unset, .unset, .unset, .unset] [])) _
      refine XS.aload X8.here hx rfl (hb hby at_133) rfl rfl ?_
      show Steps p.tables e below (T8.setTop (mkF m 135 #[.val (.int p1), .val (.int p2), .val (.int p3), .val (.int p4), .val (.int p5), .val (.int p6), .val (.int (2 : Int32)), .val (.ref b3), .val (.int p2), .val (.int p1), .unset, .unset, .unset, .unset, .unset] [(.ref b3)])) _
      refine st10.trans ?_
      show Steps p.tables e below (T10.setTop (mkF m 138 #[.val (.int p1), .val (.int p2), .val (.int p3), .val (.int p4), .val (.int p5), .val (.int p6), .val (.int (2 : Int32)), .val (.ref b3), .val (.int p2), .val (.int p1), .unset, .unset, .unset, .unset, .unset] [(.int (F1006 p1 p2 (0 : Int32) (0 : Int32)))])) _
      refine XS.istore X10.here hx rfl (hb hby at_138) rfl (l' := #[.val (.int p1), .val (.int p2), .val (.int p3), .val (.int p4), .val (.int p5), .val (.int p6), .val (.int (2 : Int32)), .val (.ref b3), .val (.int p2), .val (.int p1), .val (.int (F1006 p1 p2 (0 : Int32) (0 : Int32))), .unset, .unset, .unset, .unset]) rfl ?_
      show Steps p.tables e below (T10.setTop (mkF m 140 #[.val (.int p1), .val (.int p2), .val (.int p3), .val (.int p4), .val (.int p5), .val (.int p6), .val (.int (2 : Int32)), .val (.ref b3), .val (.int p2), .val (.int p1), .val (.int (F1006 p1 p2 (0 : Int32) (0 : Int32))), .unset, .unset, .unset, .unset] [])) _
      refine XS.aload X10.here hx rfl (hb hby at_140) rfl rfl ?_
      show Steps p.tables e below (T10.setTop (mkF m 142 #[.val (.int p1), .val (.int p2), .val (.int p3), .val (.int p4), .val (.int p5), .val (.int p6), .val (.int (2 : Int32)), .val (.ref b3), .val (.int p2), .val (.int p1), .val (.int (F1006 p1 p2 (0 : Int32) (0 : Int32))), .unset, .unset, .unset, .unset] [(.ref b3)])) _
      refine st12.trans ?_
      show Steps p.tables e below (T12.setTop (mkF m 145 #[.val (.int p1), .val (.int p2), .val (.int p3), .val (.int p4), .val (.int p5), .val (.int p6), .val (.int (2 : Int32)), .val (.ref b3), .val (.int p2), .val (.int p1), .val (.int (F1006 p1 p2 (0 : Int32) (0 : Int32))), .unset, .unset, .unset, .unset] [(.int (F7 (1 : Int32)))])) _
      refine XS.istore X12.here hx rfl (hb hby at_145) rfl (l' := #[.val (.int p1), .val (.int p2), .val (.int p3), .val (.int p4), .val (.int p5), .val (.int p6), .val (.int (2 : Int32)), .val (.ref b3), .val (.int p2), .val (.int p1), .val (.int (F1006 p1 p2 (0 : Int32) (0 : Int32))), .val (.int (F7 (1 : Int32))), .unset, .unset, .unset]) rfl ?_
      show Steps p.tables e below (T12.setTop (mkF m 147 #[.val (.int p1), .val (.int p2), .val (.int p3), .val (.int p4), .val (.int p5), .val (.int p6), .val (.int (2 : Int32)), .val (.ref b3), .val (.int p2), .val (.int p1), .val (.int (F1006 p1 p2 (0 : Int32) (0 : Int32))), .val (.int (F7 (1 : Int32))), .unset, .unset, .unset] [])) _
      refine XS.aload X12.here hx rfl (hb hby at_147) rfl rfl ?_
      show Steps p.tables e below (T12.setTop (mkF m 149 #[.val (.int p1), .val (.int p2), .val (.int p3), .val (.int p4), .val (.int p5), .val (.int p6), .val (.int (2 : Int32)), .val (.ref b3), .val (.int p2), .val (.int p1), .val (.int (F1006 p1 p2 (0 : Int32) (0 : Int32))), .val (.int (F7 (1 : Int32))), .unset, .unset, .unset] [(.ref b3)])) _
      refine st14.trans ?_
      show Steps p.tables e below (T14.setTop (mkF m 152 #[.val (.int p1), .val (.int p2), .val (.int p3), .val (.int p4), .val (.int p5), .val (.int p6), .val (.int (2 : Int32)), .val (.ref b3), .val (.int p2), .val (.int p1), .val (.int (F1006 p1 p2 (0 : Int32) (0 : Int32))), .val (.int (F7 (1 : Int32))), .unset, .unset, .unset] [(.int (F6 p1 p2 (0 : Int32) (0 : Int32)))])) _
      refine XS.istore X14.here hx rfl (hb hby at_152) rfl (l' := #[.val (.int p1), .val (.int p2), .val (.int p3), .val (.int p4), .val (.int p5), .val (.int p6), .val (.int (2 : Int32)), .val (.ref b3), .val (.int p2), .val (.int p1), .val (.int (F1006 p1 p2 (0 : Int32) (0 : Int32))), .val (.int (F7 (1 : Int32))), .val (.int (F6 p1 p2 (0 : Int32) (0 : Int32))), .unset, .unset]) rfl ?_
      show Steps p.tables e below (T14.setTop (mkF m 154 #[.val (.int p1), .val (.int p2), .val (.int p3), .val (.int p4), .val (.int p5), .val (.int p6), .val (.int (2 : Int32)), .val (.ref b3), .val (.int p2), .val (.int p1), .val (.int (F1006 p1 p2 (0 : Int32) (0 : Int32))), .val (.int (F7 (1 : Int32))), .val (.int (F6 p1 p2 (0 : Int32) (0 : Int32))), .unset, .unset] [])) _
      refine XS.aload X14.here hx rfl (hb hby at_154) rfl rfl ?_
      show Steps p.tables e below (T14.setTop (mkF m 156 #[.val (.int p1), .val (.int p2), .val (.int p3), .val (.int p4), .val (.int p5), .val (.int p6), .val (.int (2 : Int32)), .val (.ref b3), .val (.int p2), .val (.int p1), .val (.int (F1006 p1 p2 (0 : Int32) (0 : Int32))), .val (.int (F7 (1 : Int32))), .val (.int (F6 p1 p2 (0 : Int32) (0 : Int32))), .unset, .unset] [(.ref b3)])) _
      refine st16.trans ?_
      show Steps p.tables e below (T16.setTop (mkF m 159 #[.val (.int p1), .val (.int p2), .val (.int p3), .val (.int p4), .val (.int p5), .val (.int p6), .val (.int (2 : Int32)), .val (.ref b3), .val (.int p2), .val (.int p1), .val (.int (F1006 p1 p2 (0 : Int32) (0 : Int32))), .val (.int (F7 (1 : Int32))), .val (.int (F6 p1 p2 (0 : Int32) (0 : Int32))), .unset, .unset] [(.int (F7 (0 : Int32)))])) _
      refine XS.istore X16.here hx rfl (hb hby at_159) rfl (l' := #[.val (.int p1), .val (.int p2), .val (.int p3), .val (.int p4), .val (.int p5), .val (.int p6), .val (.int (2 : Int32)), .val (.ref b3), .val (.int p2), .val (.int p1), .val (.int (F1006 p1 p2 (0 : Int32) (0 : Int32))), .val (.int (F7 (1 : Int32))), .val (.int (F6 p1 p2 (0 : Int32) (0 : Int32))), .val (.int (F7 (0 : Int32))), .unset]) rfl ?_
      show Steps p.tables e below (T16.setTop (mkF m 161 #[.val (.int p1), .val (.int p2), .val (.int p3), .val (.int p4), .val (.int p5), .val (.int p6), .val (.int (2 : Int32)), .val (.ref b3), .val (.int p2), .val (.int p1), .val (.int (F1006 p1 p2 (0 : Int32) (0 : Int32))), .val (.int (F7 (1 : Int32))), .val (.int (F6 p1 p2 (0 : Int32) (0 : Int32))), .val (.int (F7 (0 : Int32))), .unset] [])) _
      refine XS.iload X16.here hx rfl (hb hby at_161) rfl ?_
      show Steps p.tables e below (T16.setTop (mkF m 163 #[.val (.int p1), .val (.int p2), .val (.int p3), .val (.int p4), .val (.int p5), .val (.int p6), .val (.int (2 : Int32)), .val (.ref b3), .val (.int p2), .val (.int p1), .val (.int (F1006 p1 p2 (0 : Int32) (0 : Int32))), .val (.int (F7 (1 : Int32))), .val (.int (F6 p1 p2 (0 : Int32) (0 : Int32))), .val (.int (F7 (0 : Int32))), .unset] [(.int (F1006 p1 p2 (0 : Int32) (0 : Int32)))])) _
      refine XS.iload X16.here hx rfl (hb hby at_163) rfl ?_
      exact kt
    have pre26 : ∀ t, Steps p.tables e below (T16.setTop (mkF m 198 #[.val (.int p1), .val (.int p2), .val (.int p3), .val (.int p4), .val (.int p5), .val (.int p6), .val (.int (2 : Int32)), .val (.ref b3), .val (.int p2), .val (.int p1), .val (.int (F1006 p1 p2 (0 : Int32) (0 : Int32))), .val (.int (F7 (1 : Int32))), .val (.int (F6 p1 p2 (0 : Int32) (0 : Int32))), .val (.int (F7 (0 : Int32))), .unset] [(.int (if (F1006 p1 p2 (0 : Int32) (0 : Int32)) = p2 then (if (F7 (1 : Int32)) = (1 : Int32) then (if (F6 p1 p2 (0 : Int32) (0 : Int32)) = p1 then (if (F7 (0 : Int32)) = (0 : Int32) then (1 : Int32) else (0 : Int32)) else (0 : Int32)) else (0 : Int32)) else (0 : Int32)))])) t → Steps p.tables e below (s₁.setTop (entryFrame m #[(.int p1), (.int p2), (.int p3), (.int p4), (.int p5), (.int p6)] maxLocals)) t := by
      by_cases hc19 : (F1006 p1 p2 (0 : Int32) (0 : Int32)) = p2
      · have pre20 : ∀ t, Steps p.tables e below (T16.setTop (mkF m 174 #[.val (.int p1), .val (.int p2), .val (.int p3), .val (.int p4), .val (.int p5), .val (.int p6), .val (.int (2 : Int32)), .val (.ref b3), .val (.int p2), .val (.int p1), .val (.int (F1006 p1 p2 (0 : Int32) (0 : Int32))), .val (.int (F7 (1 : Int32))), .val (.int (F6 p1 p2 (0 : Int32) (0 : Int32))), .val (.int (F7 (0 : Int32))), .unset] [(.int (1 : Int32)), (.int (F7 (1 : Int32)))])) t → Steps p.tables e below (s₁.setTop (entryFrame m #[(.int p1), (.int p2), (.int p3), (.int p4), (.int p5), (.int p6)] maxLocals)) t := fun t kt => by
          refine pre18 t ?_
          show Steps p.tables e below (T16.setTop (mkF m 165 #[.val (.int p1), .val (.int p2), .val (.int p3), .val (.int p4), .val (.int p5), .val (.int p6), .val (.int (2 : Int32)), .val (.ref b3), .val (.int p2), .val (.int p1), .val (.int (F1006 p1 p2 (0 : Int32) (0 : Int32))), .val (.int (F7 (1 : Int32))), .val (.int (F6 p1 p2 (0 : Int32) (0 : Int32))), .val (.int (F7 (0 : Int32))), .unset] [(.int p2), (.int (F1006 p1 p2 (0 : Int32) (0 : Int32)))])) _
          refine XS.icmpNo X16.here hx rfl (hb hby at_165) rfl (teq hc19).2 ?_
          show Steps p.tables e below (T16.setTop (mkF m 168 #[.val (.int p1), .val (.int p2), .val (.int p3), .val (.int p4), .val (.int p5), .val (.int p6), .val (.int (2 : Int32)), .val (.ref b3), .val (.int p2), .val (.int p1), .val (.int (F1006 p1 p2 (0 : Int32) (0 : Int32))), .val (.int (F7 (1 : Int32))), .val (.int (F6 p1 p2 (0 : Int32) (0 : Int32))), .val (.int (F7 (0 : Int32))), .unset] [])) _
          refine XS.iload X16.here hx rfl (hb hby at_168) rfl ?_
          show Steps p.tables e below (T16.setTop (mkF m 170 #[.val (.int p1), .val (.int p2), .val (.int p3), .val (.int p4), .val (.int p5), .val (.int p6), .val (.int (2 : Int32)), .val (.ref b3), .val (.int p2), .val (.int p1), .val (.int (F1006 p1 p2 (0 : Int32) (0 : Int32))), .val (.int (F7 (1 : Int32))), .val (.int (F6 p1 p2 (0 : Int32) (0 : Int32))), .val (.int (F7 (0 : Int32))), .unset] [(.int (F7 (1 : Int32)))])) _
          refine XS.iload X16.here hx rfl (hb hby at_170) rfl ?_
          show Steps p.tables e below (T16.setTop (mkF m 172 #[.val (.int p1), .val (.int p2), .val (.int p3), .val (.int p4), .val (.int p5), .val (.int p6), .val (.int (2 : Int32)), .val (.ref b3), .val (.int p2), .val (.int p1), .val (.int (F1006 p1 p2 (0 : Int32) (0 : Int32))), .val (.int (F7 (1 : Int32))), .val (.int (F6 p1 p2 (0 : Int32) (0 : Int32))), .val (.int (F7 (0 : Int32))), .unset] [(.int (2 : Int32)), (.int (F7 (1 : Int32)))])) _
          refine XS.iconst X16.here hx rfl (hb hby at_172) ?_
          show Steps p.tables e below (T16.setTop (mkF m 173 #[.val (.int p1), .val (.int p2), .val (.int p3), .val (.int p4), .val (.int p5), .val (.int p6), .val (.int (2 : Int32)), .val (.ref b3), .val (.int p2), .val (.int p1), .val (.int (F1006 p1 p2 (0 : Int32) (0 : Int32))), .val (.int (F7 (1 : Int32))), .val (.int (F6 p1 p2 (0 : Int32) (0 : Int32))), .val (.int (F7 (0 : Int32))), .unset] [(.int (1 : Int32)), (.int (2 : Int32)), (.int (F7 (1 : Int32)))])) _
          refine XS.isub X16.here hx rfl (hb hby at_173) rfl ?_
          exact kt
        by_cases hc21 : (F7 (1 : Int32)) = (1 : Int32)
        · have pre22 : ∀ t, Steps p.tables e below (T16.setTop (mkF m 181 #[.val (.int p1), .val (.int p2), .val (.int p3), .val (.int p4), .val (.int p5), .val (.int p6), .val (.int (2 : Int32)), .val (.ref b3), .val (.int p2), .val (.int p1), .val (.int (F1006 p1 p2 (0 : Int32) (0 : Int32))), .val (.int (F7 (1 : Int32))), .val (.int (F6 p1 p2 (0 : Int32) (0 : Int32))), .val (.int (F7 (0 : Int32))), .unset] [(.int p1), (.int (F6 p1 p2 (0 : Int32) (0 : Int32)))])) t → Steps p.tables e below (s₁.setTop (entryFrame m #[(.int p1), (.int p2), (.int p3), (.int p4), (.int p5), (.int p6)] maxLocals)) t := fun t kt => by
            refine pre20 t ?_
            show Steps p.tables e below (T16.setTop (mkF m 174 #[.val (.int p1), .val (.int p2), .val (.int p3), .val (.int p4), .val (.int p5), .val (.int p6), .val (.int (2 : Int32)), .val (.ref b3), .val (.int p2), .val (.int p1), .val (.int (F1006 p1 p2 (0 : Int32) (0 : Int32))), .val (.int (F7 (1 : Int32))), .val (.int (F6 p1 p2 (0 : Int32) (0 : Int32))), .val (.int (F7 (0 : Int32))), .unset] [(.int (1 : Int32)), (.int (F7 (1 : Int32)))])) _
            refine XS.icmpNo X16.here hx rfl (hb hby at_174) rfl (teq hc21).2 ?_
            show Steps p.tables e below (T16.setTop (mkF m 177 #[.val (.int p1), .val (.int p2), .val (.int p3), .val (.int p4), .val (.int p5), .val (.int p6), .val (.int (2 : Int32)), .val (.ref b3), .val (.int p2), .val (.int p1), .val (.int (F1006 p1 p2 (0 : Int32) (0 : Int32))), .val (.int (F7 (1 : Int32))), .val (.int (F6 p1 p2 (0 : Int32) (0 : Int32))), .val (.int (F7 (0 : Int32))), .unset] [])) _
            refine XS.iload X16.here hx rfl (hb hby at_177) rfl ?_
            show Steps p.tables e below (T16.setTop (mkF m 179 #[.val (.int p1), .val (.int p2), .val (.int p3), .val (.int p4), .val (.int p5), .val (.int p6), .val (.int (2 : Int32)), .val (.ref b3), .val (.int p2), .val (.int p1), .val (.int (F1006 p1 p2 (0 : Int32) (0 : Int32))), .val (.int (F7 (1 : Int32))), .val (.int (F6 p1 p2 (0 : Int32) (0 : Int32))), .val (.int (F7 (0 : Int32))), .unset] [(.int (F6 p1 p2 (0 : Int32) (0 : Int32)))])) _
            refine XS.iload X16.here hx rfl (hb hby at_179) rfl ?_
            exact kt
          by_cases hc23 : (F6 p1 p2 (0 : Int32) (0 : Int32)) = p1
          · have pre24 : ∀ t, Steps p.tables e below (T16.setTop (mkF m 190 #[.val (.int p1), .val (.int p2), .val (.int p3), .val (.int p4), .val (.int p5), .val (.int p6), .val (.int (2 : Int32)), .val (.ref b3), .val (.int p2), .val (.int p1), .val (.int (F1006 p1 p2 (0 : Int32) (0 : Int32))), .val (.int (F7 (1 : Int32))), .val (.int (F6 p1 p2 (0 : Int32) (0 : Int32))), .val (.int (F7 (0 : Int32))), .unset] [(.int (0 : Int32)), (.int (F7 (0 : Int32)))])) t → Steps p.tables e below (s₁.setTop (entryFrame m #[(.int p1), (.int p2), (.int p3), (.int p4), (.int p5), (.int p6)] maxLocals)) t := fun t kt => by
              refine pre22 t ?_
              show Steps p.tables e below (T16.setTop (mkF m 181 #[.val (.int p1), .val (.int p2), .val (.int p3), .val (.int p4), .val (.int p5), .val (.int p6), .val (.int (2 : Int32)), .val (.ref b3), .val (.int p2), .val (.int p1), .val (.int (F1006 p1 p2 (0 : Int32) (0 : Int32))), .val (.int (F7 (1 : Int32))), .val (.int (F6 p1 p2 (0 : Int32) (0 : Int32))), .val (.int (F7 (0 : Int32))), .unset] [(.int p1), (.int (F6 p1 p2 (0 : Int32) (0 : Int32)))])) _
              refine XS.icmpNo X16.here hx rfl (hb hby at_181) rfl (teq hc23).2 ?_
              show Steps p.tables e below (T16.setTop (mkF m 184 #[.val (.int p1), .val (.int p2), .val (.int p3), .val (.int p4), .val (.int p5), .val (.int p6), .val (.int (2 : Int32)), .val (.ref b3), .val (.int p2), .val (.int p1), .val (.int (F1006 p1 p2 (0 : Int32) (0 : Int32))), .val (.int (F7 (1 : Int32))), .val (.int (F6 p1 p2 (0 : Int32) (0 : Int32))), .val (.int (F7 (0 : Int32))), .unset] [])) _
              refine XS.iload X16.here hx rfl (hb hby at_184) rfl ?_
              show Steps p.tables e below (T16.setTop (mkF m 186 #[.val (.int p1), .val (.int p2), .val (.int p3), .val (.int p4), .val (.int p5), .val (.int p6), .val (.int (2 : Int32)), .val (.ref b3), .val (.int p2), .val (.int p1), .val (.int (F1006 p1 p2 (0 : Int32) (0 : Int32))), .val (.int (F7 (1 : Int32))), .val (.int (F6 p1 p2 (0 : Int32) (0 : Int32))), .val (.int (F7 (0 : Int32))), .unset] [(.int (F7 (0 : Int32)))])) _
              refine XS.iload X16.here hx rfl (hb hby at_186) rfl ?_
              show Steps p.tables e below (T16.setTop (mkF m 188 #[.val (.int p1), .val (.int p2), .val (.int p3), .val (.int p4), .val (.int p5), .val (.int p6), .val (.int (2 : Int32)), .val (.ref b3), .val (.int p2), .val (.int p1), .val (.int (F1006 p1 p2 (0 : Int32) (0 : Int32))), .val (.int (F7 (1 : Int32))), .val (.int (F6 p1 p2 (0 : Int32) (0 : Int32))), .val (.int (F7 (0 : Int32))), .unset] [(.int (2 : Int32)), (.int (F7 (0 : Int32)))])) _
              refine XS.iconst X16.here hx rfl (hb hby at_188) ?_
              show Steps p.tables e below (T16.setTop (mkF m 189 #[.val (.int p1), .val (.int p2), .val (.int p3), .val (.int p4), .val (.int p5), .val (.int p6), .val (.int (2 : Int32)), .val (.ref b3), .val (.int p2), .val (.int p1), .val (.int (F1006 p1 p2 (0 : Int32) (0 : Int32))), .val (.int (F7 (1 : Int32))), .val (.int (F6 p1 p2 (0 : Int32) (0 : Int32))), .val (.int (F7 (0 : Int32))), .unset] [(.int (2 : Int32)), (.int (2 : Int32)), (.int (F7 (0 : Int32)))])) _
              refine XS.isub X16.here hx rfl (hb hby at_189) rfl ?_
              exact kt
            by_cases hc25 : (F7 (0 : Int32)) = (0 : Int32)
            · refine fun t kt => pre24 t ?_
              repeat rw [if_pos hc19] at kt
              repeat rw [if_pos hc21] at kt
              repeat rw [if_pos hc23] at kt
              repeat rw [if_pos hc25] at kt
              show Steps p.tables e below (T16.setTop (mkF m 190 #[.val (.int p1), .val (.int p2), .val (.int p3), .val (.int p4), .val (.int p5), .val (.int p6), .val (.int (2 : Int32)), .val (.ref b3), .val (.int p2), .val (.int p1), .val (.int (F1006 p1 p2 (0 : Int32) (0 : Int32))), .val (.int (F7 (1 : Int32))), .val (.int (F6 p1 p2 (0 : Int32) (0 : Int32))), .val (.int (F7 (0 : Int32))), .unset] [(.int (0 : Int32)), (.int (F7 (0 : Int32)))])) _
              refine XS.icmpNo X16.here hx rfl (hb hby at_190) rfl (teq hc25).2 ?_
              show Steps p.tables e below (T16.setTop (mkF m 193 #[.val (.int p1), .val (.int p2), .val (.int p3), .val (.int p4), .val (.int p5), .val (.int p6), .val (.int (2 : Int32)), .val (.ref b3), .val (.int p2), .val (.int p1), .val (.int (F1006 p1 p2 (0 : Int32) (0 : Int32))), .val (.int (F7 (1 : Int32))), .val (.int (F6 p1 p2 (0 : Int32) (0 : Int32))), .val (.int (F7 (0 : Int32))), .unset] [])) _
              refine XS.iconst X16.here hx rfl (hb hby at_193) ?_
              show Steps p.tables e below (T16.setTop (mkF m 194 #[.val (.int p1), .val (.int p2), .val (.int p3), .val (.int p4), .val (.int p5), .val (.int p6), .val (.int (2 : Int32)), .val (.ref b3), .val (.int p2), .val (.int p1), .val (.int (F1006 p1 p2 (0 : Int32) (0 : Int32))), .val (.int (F7 (1 : Int32))), .val (.int (F6 p1 p2 (0 : Int32) (0 : Int32))), .val (.int (F7 (0 : Int32))), .unset] [(.int (1 : Int32))])) _
              refine XS.goto X16.here hx rfl (pc0 := 194) (pc' := 198) rfl (hb hby at_194) (by decide) (by decide) ?_
              exact kt
            · refine fun t kt => pre24 t ?_
              repeat rw [if_pos hc19] at kt
              repeat rw [if_pos hc21] at kt
              repeat rw [if_pos hc23] at kt
              repeat rw [if_neg hc25] at kt
              show Steps p.tables e below (T16.setTop (mkF m 190 #[.val (.int p1), .val (.int p2), .val (.int p3), .val (.int p4), .val (.int p5), .val (.int p6), .val (.int (2 : Int32)), .val (.ref b3), .val (.int p2), .val (.int p1), .val (.int (F1006 p1 p2 (0 : Int32) (0 : Int32))), .val (.int (F7 (1 : Int32))), .val (.int (F6 p1 p2 (0 : Int32) (0 : Int32))), .val (.int (F7 (0 : Int32))), .unset] [(.int (0 : Int32)), (.int (F7 (0 : Int32)))])) _
              refine XS.icmpYes X16.here hx rfl (pc0 := 190) (pc' := 197) rfl (hb hby at_190) rfl (feq hc25).2 (by decide) (by decide) ?_
              show Steps p.tables e below (T16.setTop (mkF m 197 #[.val (.int p1), .val (.int p2), .val (.int p3), .val (.int p4), .val (.int p5), .val (.int p6), .val (.int (2 : Int32)), .val (.ref b3), .val (.int p2), .val (.int p1), .val (.int (F1006 p1 p2 (0 : Int32) (0 : Int32))), .val (.int (F7 (1 : Int32))), .val (.int (F6 p1 p2 (0 : Int32) (0 : Int32))), .val (.int (F7 (0 : Int32))), .unset] [])) _
              refine XS.iconst X16.here hx rfl (hb hby at_197) ?_
              exact kt
          · refine fun t kt => pre22 t ?_
            repeat rw [if_pos hc19] at kt
            repeat rw [if_pos hc21] at kt
            repeat rw [if_neg hc23] at kt
            show Steps p.tables e below (T16.setTop (mkF m 181 #[.val (.int p1), .val (.int p2), .val (.int p3), .val (.int p4), .val (.int p5), .val (.int p6), .val (.int (2 : Int32)), .val (.ref b3), .val (.int p2), .val (.int p1), .val (.int (F1006 p1 p2 (0 : Int32) (0 : Int32))), .val (.int (F7 (1 : Int32))), .val (.int (F6 p1 p2 (0 : Int32) (0 : Int32))), .val (.int (F7 (0 : Int32))), .unset] [(.int p1), (.int (F6 p1 p2 (0 : Int32) (0 : Int32)))])) _
            refine XS.icmpYes X16.here hx rfl (pc0 := 181) (pc' := 197) rfl (hb hby at_181) rfl (feq hc23).2 (by decide) (by decide) ?_
            show Steps p.tables e below (T16.setTop (mkF m 197 #[.val (.int p1), .val (.int p2), .val (.int p3), .val (.int p4), .val (.int p5), .val (.int p6), .val (.int (2 : Int32)), .val (.ref b3), .val (.int p2), .val (.int p1), .val (.int (F1006 p1 p2 (0 : Int32) (0 : Int32))), .val (.int (F7 (1 : Int32))), .val (.int (F6 p1 p2 (0 : Int32) (0 : Int32))), .val (.int (F7 (0 : Int32))), .unset] [])) _
            refine XS.iconst X16.here hx rfl (hb hby at_197) ?_
            exact kt
        · refine fun t kt => pre20 t ?_
          repeat rw [if_pos hc19] at kt
          repeat rw [if_neg hc21] at kt
          show Steps p.tables e below (T16.setTop (mkF m 174 #[.val (.int p1), .val (.int p2), .val (.int p3), .val (.int p4), .val (.int p5), .val (.int p6), .val (.int (2 : Int32)), .val (.ref b3), .val (.int p2), .val (.int p1), .val (.int (F1006 p1 p2 (0 : Int32) (0 : Int32))), .val (.int (F7 (1 : Int32))), .val (.int (F6 p1 p2 (0 : Int32) (0 : Int32))), .val (.int (F7 (0 : Int32))), .unset] [(.int (1 : Int32)), (.int (F7 (1 : Int32)))])) _
          refine XS.icmpYes X16.here hx rfl (pc0 := 174) (pc' := 197) rfl (hb hby at_174) rfl (feq hc21).2 (by decide) (by decide) ?_
          show Steps p.tables e below (T16.setTop (mkF m 197 #[.val (.int p1), .val (.int p2), .val (.int p3), .val (.int p4), .val (.int p5), .val (.int p6), .val (.int (2 : Int32)), .val (.ref b3), .val (.int p2), .val (.int p1), .val (.int (F1006 p1 p2 (0 : Int32) (0 : Int32))), .val (.int (F7 (1 : Int32))), .val (.int (F6 p1 p2 (0 : Int32) (0 : Int32))), .val (.int (F7 (0 : Int32))), .unset] [])) _
          refine XS.iconst X16.here hx rfl (hb hby at_197) ?_
          exact kt
      · refine fun t kt => pre18 t ?_
        repeat rw [if_neg hc19] at kt
        show Steps p.tables e below (T16.setTop (mkF m 165 #[.val (.int p1), .val (.int p2), .val (.int p3), .val (.int p4), .val (.int p5), .val (.int p6), .val (.int (2 : Int32)), .val (.ref b3), .val (.int p2), .val (.int p1), .val (.int (F1006 p1 p2 (0 : Int32) (0 : Int32))), .val (.int (F7 (1 : Int32))), .val (.int (F6 p1 p2 (0 : Int32) (0 : Int32))), .val (.int (F7 (0 : Int32))), .unset] [(.int p2), (.int (F1006 p1 p2 (0 : Int32) (0 : Int32)))])) _
        refine XS.icmpYes X16.here hx rfl (pc0 := 165) (pc' := 197) rfl (hb hby at_165) rfl (feq hc19).2 (by decide) (by decide) ?_
        show Steps p.tables e below (T16.setTop (mkF m 197 #[.val (.int p1), .val (.int p2), .val (.int p3), .val (.int p4), .val (.int p5), .val (.int p6), .val (.int (2 : Int32)), .val (.ref b3), .val (.int p2), .val (.int p1), .val (.int (F1006 p1 p2 (0 : Int32) (0 : Int32))), .val (.int (F7 (1 : Int32))), .val (.int (F6 p1 p2 (0 : Int32) (0 : Int32))), .val (.int (F7 (0 : Int32))), .unset] [])) _
        refine XS.iconst X16.here hx rfl (hb hby at_197) ?_
        exact kt
    obtain ⟨v27, hv27⟩ : ∃ z : Int32, z = (if (F1006 p1 p2 (0 : Int32) (0 : Int32)) = p2 then (if (F7 (1 : Int32)) = (1 : Int32) then (if (F6 p1 p2 (0 : Int32) (0 : Int32)) = p1 then (if (F7 (0 : Int32)) = (0 : Int32) then (1 : Int32) else (0 : Int32)) else (0 : Int32)) else (0 : Int32)) else (0 : Int32)) := ⟨_, rfl⟩
    rw [← hv27] at pre26
    obtain ⟨fs, hr, hrun, hended, hW, hsame⟩ := X16.leave (v := some (.int (nar .boolean v27))) (fun h => by rw [Bd.returns] at h; cases h)
    refine ⟨_, _, pre26 _ ?_, hrun, hended, _, _, rfl, ?_, ⟨_, rfl⟩, hW, hsame.mono (by decide) (by decide)⟩
    · show Steps p.tables e below (T16.setTop (mkF m 198 #[.val (.int p1), .val (.int p2), .val (.int p3), .val (.int p4), .val (.int p5), .val (.int p6), .val (.int (2 : Int32)), .val (.ref b3), .val (.int p2), .val (.int p1), .val (.int (F1006 p1 p2 (0 : Int32) (0 : Int32))), .val (.int (F7 (1 : Int32))), .val (.int (F6 p1 p2 (0 : Int32) (0 : Int32))), .val (.int (F7 (0 : Int32))), .unset] [(.int v27)])) _
      refine XS.istore X16.here hx rfl (hb hby at_198) rfl (l' := #[.val (.int p1), .val (.int p2), .val (.int p3), .val (.int p4), .val (.int p5), .val (.int p6), .val (.int (2 : Int32)), .val (.ref b3), .val (.int p2), .val (.int p1), .val (.int (F1006 p1 p2 (0 : Int32) (0 : Int32))), .val (.int (F7 (1 : Int32))), .val (.int (F6 p1 p2 (0 : Int32) (0 : Int32))), .val (.int (F7 (0 : Int32))), .val (.int v27)]) rfl ?_
      show Steps p.tables e below (T16.setTop (mkF m 200 #[.val (.int p1), .val (.int p2), .val (.int p3), .val (.int p4), .val (.int p5), .val (.int p6), .val (.int (2 : Int32)), .val (.ref b3), .val (.int p2), .val (.int p1), .val (.int (F1006 p1 p2 (0 : Int32) (0 : Int32))), .val (.int (F7 (1 : Int32))), .val (.int (F6 p1 p2 (0 : Int32) (0 : Int32))), .val (.int (F7 (0 : Int32))), .val (.int v27)] [])) _
      refine XS.iload X16.here hx rfl (hb hby at_200) rfl ?_
      show Steps p.tables e below (T16.setTop (mkF m 202 #[.val (.int p1), .val (.int p2), .val (.int p3), .val (.int p4), .val (.int p5), .val (.int p6), .val (.int (2 : Int32)), .val (.ref b3), .val (.int p2), .val (.int p1), .val (.int (F1006 p1 p2 (0 : Int32) (0 : Int32))), .val (.int (F7 (1 : Int32))), .val (.int (F6 p1 p2 (0 : Int32) (0 : Int32))), .val (.int (F7 (0 : Int32))), .val (.int v27)] [(.int (2 : Int32))])) _
      refine XS.iconst X16.here hx rfl (hb hby at_202) ?_
      show Steps p.tables e below (T16.setTop (mkF m 203 #[.val (.int p1), .val (.int p2), .val (.int p3), .val (.int p4), .val (.int p5), .val (.int p6), .val (.int (2 : Int32)), .val (.ref b3), .val (.int p2), .val (.int p1), .val (.int (F1006 p1 p2 (0 : Int32) (0 : Int32))), .val (.int (F7 (1 : Int32))), .val (.int (F6 p1 p2 (0 : Int32) (0 : Int32))), .val (.int (F7 (0 : Int32))), .val (.int v27)] [(.int (3 : Int32)), (.int (2 : Int32))])) _
      refine XS.icmpYes X16.here hx rfl (pc0 := 203) (pc' := 228) rfl (hb hby at_203) rfl (tlt (by decide : (2 : Int32) < (3 : Int32))).1 (by decide) (by decide) ?_
      show Steps p.tables e below (T16.setTop (mkF m 228 #[.val (.int p1), .val (.int p2), .val (.int p3), .val (.int p4), .val (.int p5), .val (.int p6), .val (.int (2 : Int32)), .val (.ref b3), .val (.int p2), .val (.int p1), .val (.int (F1006 p1 p2 (0 : Int32) (0 : Int32))), .val (.int (F7 (1 : Int32))), .val (.int (F6 p1 p2 (0 : Int32) (0 : Int32))), .val (.int (F7 (0 : Int32))), .val (.int v27)] [])) _
      refine XS.iload X16.here hx rfl (hb hby at_228) rfl ?_
      show Steps p.tables e below (T16.setTop (mkF m 230 #[.val (.int p1), .val (.int p2), .val (.int p3), .val (.int p4), .val (.int p5), .val (.int p6), .val (.int (2 : Int32)), .val (.ref b3), .val (.int p2), .val (.int p1), .val (.int (F1006 p1 p2 (0 : Int32) (0 : Int32))), .val (.int (F7 (1 : Int32))), .val (.int (F6 p1 p2 (0 : Int32) (0 : Int32))), .val (.int (F7 (0 : Int32))), .val (.int v27)] [(.int v27)])) _
      exact retN X16 hx (t := .boolean) Bd.returns (by simp) (hb hby at_230) hr
    · show Q0 Z p1 p2 p3 p4 p5 p6 h0 n0 _ T16.heap _
      rw [e16]
      exact ⟨by rw [(leaf_0_1 p1 p2 p3 p4 p5 p6 hk2 v27 hv27)], N16⟩
  · rw [hk2] at pre1
    obtain ⟨b28, g28⟩ : ∃ z, z = h0.size := ⟨_, rfl⟩
    obtain ⟨T28, h28, X28, e28, E28, A28, D28, -, st28⟩ := newO X0 hx hZ hown (hw _ (List.mem_of_getElem? (i := 0) rfl)) (hw _ (List.mem_of_getElem? (i := 1) rfl)) (hw _ (List.mem_of_getElem? (i := 2) rfl)) e0 (g := (mkF m 8 #[.val (.int p1), .val (.int p2), .val (.int p3), .val (.int p4), .val (.int p5), .val (.int p6), .val (.int (3 : Int32)), .unset, .unset, .unset, .unset, .unset, .unset, .unset, .unset] [])) rfl (hb hby at_8) (by decide) (by decide)
    rw [← g28] at A28 D28 st28
    have g_b28 : n0 ≤ b28 := Nat.le_trans Z0 (Nat.le_of_eq g28.symm)
    have F_values_b28 : Fld Z h28 b28 "com/example/krel/krel/saturation/IntList" "values" "[I" .null := D28 (Or.inl (hw _ (List.mem_of_getElem? (i := 11) rfl))) (ty := (.array .int)) (by decide)
    have F_size_b28 : Fld Z h28 b28 "com/example/krel/krel/saturation/IntList" "size" "I" (.int (0 : Int32)) := D28 (Or.inl (hw _ (List.mem_of_getElem? (i := 18) rfl))) (ty := .int) (by decide)
    have z30 : n0 ≤ h28.size := (Nat.le_trans Z0 E28.1)
    obtain ⟨_, _, ⟨T29, L29, k29, n29⟩, -, X29, ⟨Lc29, hQ29, l29, y29, z29⟩, st29⟩ := X28.specialBack hx (y := (⟨"com/example/krel/krel/saturation/IntList", "<init>", "()V"⟩ : MethodName)) rfl hown (mvT hZ (hw _ (List.mem_of_getElem? (i := 3) rfl))) (mvT hZ (hw _ (List.mem_of_getElem? (i := 4) rfl))) (mvT hZ (hw _ (List.mem_of_getElem? (i := 5) rfl))) (by decide) (backOf (W := 1) (rm1 l Z a0 hw [] b28 (.int (0 : Int32)) .null h28 n0 z30 A28 F_size_b28 F_values_b28 g_b28) hZ (hw _ (List.mem_of_getElem? (i := 5) rfl)) (hw _ (List.mem_of_getElem? (i := 2) rfl)) (by decide) (by decide)) (g := (mkF m 12 #[.val (.int p1), .val (.int p2), .val (.int p3), .val (.int p4), .val (.int p5), .val (.int p6), .val (.int (3 : Int32)), .unset, .unset, .unset, .unset, .unset, .unset, .unset, .unset] [(.ref b28), (.ref b28)])) rfl (by rw [hml]; rfl) (Steps.refl _) (a := b28) (argsL := []) (rest := [(.ref b28)]) (lenOf pd_0_0 rfl) rfl (by show 2 * 0 + _ ≤ _; exact Nat.le_of_eq rfl) (hb hby at_12) (fun _ _ => ⟨rfl, e28, (by decide : 1 + 1 ≤ _), (by decide : 2 + 4 ≤ _)⟩)
    dsimp only [Pt.U, Pt.locs, Pt.cells, Pt.slots] at X29 l29 y29 z29 st29 hQ29
    subst l29 y29 z29
    obtain ⟨b29_0, kk29_0, rfl, N29q, g_b29_0, hz_b29_0, K29, f29_0, f29_1, f29_2, f29_3⟩ := hQ29
    have ne_b28_b29_0 : b28 ≠ b29_0 := Nat.ne_of_lt (Nat.lt_of_lt_of_le A28.lt hz_b29_0)
    have N29 := Fr.app N0 N29q
    have z32 : n0 ≤ T29.heap.size := (Nat.le_trans z30 K29.1)
    obtain ⟨cq31, kq31, q31a, q31b, q31c⟩ := isOf hZ rfl f29_0
    obtain ⟨_, _, ⟨T31, L31, k31, n31⟩, -, X31, ⟨Lc31, hQ31, l31, y31, z31⟩, st31⟩ := X29.virtualBack hx (y := (⟨"com/example/krel/krel/saturation/IntList", "add", "(I)V"⟩ : MethodName)) (z := (⟨"com/example/krel/krel/saturation/IntList", "add", "(I)V"⟩ : MethodName)) hown (mvT hZ (hw _ (List.mem_of_getElem? (i := 12) rfl))) (mvT hZ (hw _ (List.mem_of_getElem? (i := 13) rfl))) (notFace_of_selects (args := #[]) (mvT hZ (hw _ (List.mem_of_getElem? (i := 15) rfl)))) (mvT hZ (hw _ (List.mem_of_getElem? (i := 15) rfl))) (mvT hZ (hw _ (List.mem_of_getElem? (i := 14) rfl))) (by decide) (backOf (W := 0) (rm3 l Z a0 hw [] b28 p1 b29_0 kk29_0 (0 : Int32) (0 : Int32) (0 : Int32) (0 : Int32) T29.heap n0 z32 f29_0 f29_1 f29_2 f29_3 g_b28 (Ne.symm ne_b28_b29_0) g_b29_0) hZ (hw _ (List.mem_of_getElem? (i := 16) rfl)) (hw _ (List.mem_of_getElem? (i := 2) rfl)) (by decide) (by decide)) q31a q31c (g := (mkF m 20 #[.val (.int p1), .val (.int p2), .val (.int p3), .val (.int p4), .val (.int p5), .val (.int p6), .val (.int (3 : Int32)), .val (.ref b28), .unset, .unset, .unset, .unset, .unset, .unset, .unset] [(.int p1), (.ref b28)])) rfl (by rw [hml]; rfl) (Steps.refl _) (argsL := [(.int p1)]) (rest := []) (lenOf pd_0_1 rfl) rfl (by show 2 * 0 + _ ≤ _; exact Nat.le_of_eq rfl) (hb hby at_20) (fun _ _ => ⟨rfl, rfl, (by decide : 2 + 0 ≤ _), (by decide : 6 + 0 ≤ _)⟩)
    dsimp only [Pt.U, Pt.locs, Pt.cells, Pt.slots] at X31 l31 y31 z31 st31 hQ31
    subst l31 y31 z31
    obtain ⟨rfl, N31q, K31, f31_0, f31_1, f31_2, f31_3⟩ := hQ31
    have N31 := Fr.app N29 N31q
    have z34 : n0 ≤ T31.heap.size := (Nat.le_trans z32 K31.1)
    obtain ⟨cq33, kq33, q33a, q33b, q33c⟩ := isOf hZ rfl f31_0
    obtain ⟨_, _, ⟨T33, L33, k33, n33⟩, -, X33, ⟨Lc33, hQ33, l33, y33, z33⟩, st33⟩ := X31.virtualBack hx (y := (⟨"com/example/krel/krel/saturation/IntList", "add", "(I)V"⟩ : MethodName)) (z := (⟨"com/example/krel/krel/saturation/IntList", "add", "(I)V"⟩ : MethodName)) hown (mvT hZ (hw _ (List.mem_of_getElem? (i := 12) rfl))) (mvT hZ (hw _ (List.mem_of_getElem? (i := 13) rfl))) (notFace_of_selects (args := #[]) (mvT hZ (hw _ (List.mem_of_getElem? (i := 15) rfl)))) (mvT hZ (hw _ (List.mem_of_getElem? (i := 15) rfl))) (mvT hZ (hw _ (List.mem_of_getElem? (i := 14) rfl))) (by decide) (backOf (W := 0) (rm1003 l Z a0 hw [] b28 p2 b29_0 kk29_0 p1 (0 : Int32) (0 : Int32) (0 : Int32) T31.heap n0 z34 f31_0 f31_1 f31_2 f31_3 g_b28 (Ne.symm ne_b28_b29_0) g_b29_0) hZ (hw _ (List.mem_of_getElem? (i := 16) rfl)) (hw _ (List.mem_of_getElem? (i := 2) rfl)) (by decide) (by decide)) q33a q33c (g := (mkF m 26 #[.val (.int p1), .val (.int p2), .val (.int p3), .val (.int p4), .val (.int p5), .val (.int p6), .val (.int (3 : Int32)), .val (.ref b28), .unset, .unset, .unset, .unset, .unset, .unset, .unset] [(.int p2), (.ref b28)])) rfl (by rw [hml]; rfl) (Steps.refl _) (argsL := [(.int p2)]) (rest := []) (lenOf pd_0_1 rfl) rfl (by show 2 * 0 + _ ≤ _; exact Nat.le_of_eq rfl) (hb hby at_26) (fun _ _ => ⟨rfl, rfl, (by decide : 2 + 0 ≤ _), (by decide : 6 + 0 ≤ _)⟩)
    dsimp only [Pt.U, Pt.locs, Pt.cells, Pt.slots] at X33 l33 y33 z33 st33 hQ33
    subst l33 y33 z33
    obtain ⟨rfl, N33q, K33, f33_0, f33_1, f33_2, f33_3⟩ := hQ33
    have N33 := Fr.app N31 N33q
    have z36 : n0 ≤ T33.heap.size := (Nat.le_trans z34 K33.1)
    obtain ⟨cq35, kq35, q35a, q35b, q35c⟩ := isOf hZ rfl f33_0
    obtain ⟨_, _, ⟨T35, L35, k35, n35⟩, -, X35, ⟨Lc35, hQ35, l35, y35, z35⟩, st35⟩ := X33.virtualBack hx (y := (⟨"com/example/krel/krel/saturation/IntList", "add", "(I)V"⟩ : MethodName)) (z := (⟨"com/example/krel/krel/saturation/IntList", "add", "(I)V"⟩ : MethodName)) hown (mvT hZ (hw _ (List.mem_of_getElem? (i := 12) rfl))) (mvT hZ (hw _ (List.mem_of_getElem? (i := 13) rfl))) (notFace_of_selects (args := #[]) (mvT hZ (hw _ (List.mem_of_getElem? (i := 15) rfl)))) (mvT hZ (hw _ (List.mem_of_getElem? (i := 15) rfl))) (mvT hZ (hw _ (List.mem_of_getElem? (i := 14) rfl))) (by decide) (backOf (W := 0) (rm2003 l Z a0 hw [] b28 p3 b29_0 kk29_0 p1 p2 (0 : Int32) (0 : Int32) T33.heap n0 z36 f33_0 f33_1 f33_2 f33_3 g_b28 (Ne.symm ne_b28_b29_0) g_b29_0) hZ (hw _ (List.mem_of_getElem? (i := 16) rfl)) (hw _ (List.mem_of_getElem? (i := 2) rfl)) (by decide) (by decide)) q35a q35c (g := (mkF m 38 #[.val (.int p1), .val (.int p2), .val (.int p3), .val (.int p4), .val (.int p5), .val (.int p6), .val (.int (3 : Int32)), .val (.ref b28), .unset, .unset, .unset, .unset, .unset, .unset, .unset] [(.int p3), (.ref b28)])) rfl (by rw [hml]; rfl) (Steps.refl _) (argsL := [(.int p3)]) (rest := []) (lenOf pd_0_1 rfl) rfl (by show 2 * 0 + _ ≤ _; exact Nat.le_of_eq rfl) (hb hby at_38) (fun _ _ => ⟨rfl, rfl, (by decide : 2 + 0 ≤ _), (by decide : 6 + 0 ≤ _)⟩)
    dsimp only [Pt.U, Pt.locs, Pt.cells, Pt.slots] at X35 l35 y35 z35 st35 hQ35
    subst l35 y35 z35
    obtain ⟨rfl, N35q, K35, f35_0, f35_1, f35_2, f35_3⟩ := hQ35
    have N35 := Fr.app N33 N35q
    have z38 : n0 ≤ T35.heap.size := (Nat.le_trans z36 K35.1)
    obtain ⟨cq37, kq37, q37a, q37b, q37c⟩ := isOf hZ rfl f35_0
    obtain ⟨_, _, ⟨T37, L37, k37, n37⟩, -, X37, ⟨Lc37, hQ37, l37, y37, z37⟩, st37⟩ := X35.virtualBack hx (y := (⟨"com/example/krel/krel/saturation/IntList", "pop", "()I"⟩ : MethodName)) (z := (⟨"com/example/krel/krel/saturation/IntList", "pop", "()I"⟩ : MethodName)) hown (mvT hZ (hw _ (List.mem_of_getElem? (i := 31) rfl))) (mvT hZ (hw _ (List.mem_of_getElem? (i := 32) rfl))) (notFace_of_selects (args := #[]) (mvT hZ (hw _ (List.mem_of_getElem? (i := 34) rfl)))) (mvT hZ (hw _ (List.mem_of_getElem? (i := 34) rfl))) (mvT hZ (hw _ (List.mem_of_getElem? (i := 33) rfl))) (by decide) (backOf (W := 0) (rm2006 l Z a0 hw [] b28 b29_0 kk29_0 p1 p2 p3 (0 : Int32) T35.heap n0 z38 f35_0 f35_1 f35_2 f35_3 g_b28 (Ne.symm ne_b28_b29_0)) hZ (hw _ (List.mem_of_getElem? (i := 35) rfl)) (hw _ (List.mem_of_getElem? (i := 2) rfl)) (by decide) (by decide)) q37a q37c (g := (mkF m 135 #[.val (.int p1), .val (.int p2), .val (.int p3), .val (.int p4), .val (.int p5), .val (.int p6), .val (.int (3 : Int32)), .val (.ref b28), .val (.int p3), .val (.int p2), .unset, .unset, .unset, .unset, .unset] [(.ref b28)])) rfl (by rw [hml]; rfl) (Steps.refl _) (argsL := []) (rest := []) (lenOf pd_0_5 rfl) rfl (by show 2 * 0 + _ ≤ _; exact Nat.le_of_eq rfl) (hb hby at_135) (fun _ _ => ⟨rfl, rfl, (by decide : 2 + 0 ≤ _), (by decide : 6 + 0 ≤ _)⟩)
    dsimp only [Pt.U, Pt.locs, Pt.cells, Pt.slots] at X37 l37 y37 z37 st37 hQ37
    subst l37 y37 z37
    obtain ⟨rfl, N37q, K37, f37_0, f37_1, f37_2⟩ := hQ37
    have N37 := Fr.app N35 N37q
    have z40 : n0 ≤ T37.heap.size := (Nat.le_trans z38 K37.1)
    obtain ⟨cq39, kq39, q39a, q39b, q39c⟩ := isOf hZ rfl f37_0
    obtain ⟨_, _, ⟨T39, L39, k39, n39⟩, -, X39, ⟨Lc39, hQ39, l39, y39, z39⟩, st39⟩ := X37.virtualBack hx (y := (⟨"com/example/krel/krel/saturation/IntList", "size", "()I"⟩ : MethodName)) (z := (⟨"com/example/krel/krel/saturation/IntList", "size", "()I"⟩ : MethodName)) hown (mvT hZ (hw _ (List.mem_of_getElem? (i := 36) rfl))) (mvT hZ (hw _ (List.mem_of_getElem? (i := 37) rfl))) (notFace_of_selects (args := #[]) (mvT hZ (hw _ (List.mem_of_getElem? (i := 39) rfl)))) (mvT hZ (hw _ (List.mem_of_getElem? (i := 39) rfl))) (mvT hZ (hw _ (List.mem_of_getElem? (i := 38) rfl))) (by decide) (backOf (W := 0) (rm7 l Z a0 hw [] b28 (2 : Int32) T37.heap n0 z40 f37_1) hZ (hw _ (List.mem_of_getElem? (i := 40) rfl)) (hw _ (List.mem_of_getElem? (i := 2) rfl)) (by decide) (by decide)) q39a q39c (g := (mkF m 142 #[.val (.int p1), .val (.int p2), .val (.int p3), .val (.int p4), .val (.int p5), .val (.int p6), .val (.int (3 : Int32)), .val (.ref b28), .val (.int p3), .val (.int p2), .val (.int (F2006 p1 p2 p3 (0 : Int32))), .unset, .unset, .unset, .unset] [(.ref b28)])) rfl (by rw [hml]; rfl) (Steps.refl _) (argsL := []) (rest := []) (lenOf pd_0_5 rfl) rfl (by show 2 * 0 + _ ≤ _; exact Nat.le_of_eq rfl) (hb hby at_142) (fun _ _ => ⟨rfl, rfl, (by decide : 2 + 0 ≤ _), (by decide : 6 + 0 ≤ _)⟩)
    dsimp only [Pt.U, Pt.locs, Pt.cells, Pt.slots] at X39 l39 y39 z39 st39 hQ39
    subst l39 y39 z39
    obtain ⟨rfl, N39q, e39⟩ := hQ39
    have N39 := Fr.app N37 N39q
    have q42 := (f35_3.keep K37 (ninS (Ne.symm ne_b28_b29_0) nin0))
    obtain ⟨cq41, kq41, q41a, q41b, q41c⟩ := isOf hZ e39 f37_0
    obtain ⟨_, _, ⟨T41, L41, k41, n41⟩, -, X41, ⟨Lc41, hQ41, l41, y41, z41⟩, st41⟩ := X39.virtualBack hx (y := (⟨"com/example/krel/krel/saturation/IntList", "pop", "()I"⟩ : MethodName)) (z := (⟨"com/example/krel/krel/saturation/IntList", "pop", "()I"⟩ : MethodName)) hown (mvT hZ (hw _ (List.mem_of_getElem? (i := 31) rfl))) (mvT hZ (hw _ (List.mem_of_getElem? (i := 32) rfl))) (notFace_of_selects (args := #[]) (mvT hZ (hw _ (List.mem_of_getElem? (i := 34) rfl)))) (mvT hZ (hw _ (List.mem_of_getElem? (i := 34) rfl))) (mvT hZ (hw _ (List.mem_of_getElem? (i := 33) rfl))) (by decide) (backOf (W := 0) (rm1006 l Z a0 hw [] b28 b29_0 kk29_0 p1 p2 p3 (0 : Int32) T37.heap n0 z40 f37_0 f37_1 f37_2 q42 g_b28 (Ne.symm ne_b28_b29_0)) hZ (hw _ (List.mem_of_getElem? (i := 35) rfl)) (hw _ (List.mem_of_getElem? (i := 2) rfl)) (by decide) (by decide)) q41a q41c (g := (mkF m 149 #[.val (.int p1), .val (.int p2), .val (.int p3), .val (.int p4), .val (.int p5), .val (.int p6), .val (.int (3 : Int32)), .val (.ref b28), .val (.int p3), .val (.int p2), .val (.int (F2006 p1 p2 p3 (0 : Int32))), .val (.int (F7 (2 : Int32))), .unset, .unset, .unset] [(.ref b28)])) rfl (by rw [hml]; rfl) (Steps.refl _) (argsL := []) (rest := []) (lenOf pd_0_5 rfl) rfl (by show 2 * 0 + _ ≤ _; exact Nat.le_of_eq rfl) (hb hby at_149) (fun _ _ => ⟨rfl, e39, (by decide : 2 + 0 ≤ _), (by decide : 6 + 0 ≤ _)⟩)
    dsimp only [Pt.U, Pt.locs, Pt.cells, Pt.slots] at X41 l41 y41 z41 st41 hQ41
    subst l41 y41 z41
    obtain ⟨rfl, N41q, K41, f41_0, f41_1, f41_2⟩ := hQ41
    have N41 := Fr.app N39 N41q
    have z44 : n0 ≤ T41.heap.size := (Nat.le_trans z40 K41.1)
    obtain ⟨cq43, kq43, q43a, q43b, q43c⟩ := isOf hZ rfl f41_0
    obtain ⟨_, _, ⟨T43, L43, k43, n43⟩, -, X43, ⟨Lc43, hQ43, l43, y43, z43⟩, st43⟩ := X41.virtualBack hx (y := (⟨"com/example/krel/krel/saturation/IntList", "size", "()I"⟩ : MethodName)) (z := (⟨"com/example/krel/krel/saturation/IntList", "size", "()I"⟩ : MethodName)) hown (mvT hZ (hw _ (List.mem_of_getElem? (i := 36) rfl))) (mvT hZ (hw _ (List.mem_of_getElem? (i := 37) rfl))) (notFace_of_selects (args := #[]) (mvT hZ (hw _ (List.mem_of_getElem? (i := 39) rfl)))) (mvT hZ (hw _ (List.mem_of_getElem? (i := 39) rfl))) (mvT hZ (hw _ (List.mem_of_getElem? (i := 38) rfl))) (by decide) (backOf (W := 0) (rm7 l Z a0 hw [] b28 (1 : Int32) T41.heap n0 z44 f41_1) hZ (hw _ (List.mem_of_getElem? (i := 40) rfl)) (hw _ (List.mem_of_getElem? (i := 2) rfl)) (by decide) (by decide)) q43a q43c (g := (mkF m 156 #[.val (.int p1), .val (.int p2), .val (.int p3), .val (.int p4), .val (.int p5), .val (.int p6), .val (.int (3 : Int32)), .val (.ref b28), .val (.int p3), .val (.int p2), .val (.int (F2006 p1 p2 p3 (0 : Int32))), .val (.int (F7 (2 : Int32))), .val (.int (F1006 p1 p2 p3 (0 : Int32))), .unset, .unset] [(.ref b28)])) rfl (by rw [hml]; rfl) (Steps.refl _) (argsL := []) (rest := []) (lenOf pd_0_5 rfl) rfl (by show 2 * 0 + _ ≤ _; exact Nat.le_of_eq rfl) (hb hby at_156) (fun _ _ => ⟨rfl, rfl, (by decide : 2 + 0 ≤ _), (by decide : 6 + 0 ≤ _)⟩)
    dsimp only [Pt.U, Pt.locs, Pt.cells, Pt.slots] at X43 l43 y43 z43 st43 hQ43
    subst l43 y43 z43
    obtain ⟨rfl, N43q, e43⟩ := hQ43
    have N43 := Fr.app N41 N43q
    have pre45 : ∀ t, Steps p.tables e below (T43.setTop (mkF m 165 #[.val (.int p1), .val (.int p2), .val (.int p3), .val (.int p4), .val (.int p5), .val (.int p6), .val (.int (3 : Int32)), .val (.ref b28), .val (.int p3), .val (.int p2), .val (.int (F2006 p1 p2 p3 (0 : Int32))), .val (.int (F7 (2 : Int32))), .val (.int (F1006 p1 p2 p3 (0 : Int32))), .val (.int (F7 (1 : Int32))), .unset] [(.int p3), (.int (F2006 p1 p2 p3 (0 : Int32)))])) t → Steps p.tables e below (s₁.setTop (entryFrame m #[(.int p1), (.int p2), (.int p3), (.int p4), (.int p5), (.int p6)] maxLocals)) t := fun t kt => by
      refine pre1 t ?_
      show Steps p.tables e below (s₁.setTop (mkF m 8 #[.val (.int p1), .val (.int p2), .val (.int p3), .val (.int p4), .val (.int p5), .val (.int p6), .val (.int (3 : Int32)), .unset, .unset, .unset, .unset, .unset, .unset, .unset, .unset] [])) _
      refine st28 _ ?_
      show Steps p.tables e below (T28.setTop (mkF m 11 #[.val (.int p1), .val (.int p2), .val (.int p3), .val (.int p4), .val (.int p5), .val (.int p6), .val (.int (3 : Int32)), .unset, .unset, .unset, .unset, .unset, .unset, .unset, .unset] [(.ref b28)])) _
      refine XS.dup X28.here hx rfl (hb hby at_11) rfl rfl ?_
      show Steps p.tables e below (T28.setTop (mkF m 12 #[.val (.int p1), .val (.int p2), .val (.int p3), .val (.int p4), .val (.int p5), .val (.int p6), .val (.int (3 : Int32)), .unset, .unset, .unset, .unset, .unset, .unset, .unset, .unset] [(.ref b28), (.ref b28)])) _
      refine st29.trans ?_
      show Steps p.tables e below (T29.setTop (mkF m 15 #[.val (.int p1), .val (.int p2), .val (.int p3), .val (.int p4), .val (.int p5), .val (.int p6), .val (.int (3 : Int32)), .unset, .unset, .unset, .unset, .unset, .unset, .unset, .unset] [(.ref b28)])) _
      refine XS.astore X29.here hx rfl (hb hby at_15) rfl rfl (l' := #[.val (.int p1), .val (.int p2), .val (.int p3), .val (.int p4), .val (.int p5), .val (.int p6), .val (.int (3 : Int32)), .val (.ref b28), .unset, .unset, .unset, .unset, .unset, .unset, .unset]) rfl ?_
      show Steps p.tables e below (T29.setTop (mkF m 17 #[.val (.int p1), .val (.int p2), .val (.int p3), .val (.int p4), .val (.int p5), .val (.int p6), .val (.int (3 : Int32)), .val (.ref b28), .unset, .unset, .unset, .unset, .unset, .unset, .unset] [])) _
      refine XS.aload X29.here hx rfl (hb hby at_17) rfl rfl ?_
      show Steps p.tables e below (T29.setTop (mkF m 19 #[.val (.int p1), .val (.int p2), .val (.int p3), .val (.int p4), .val (.int p5), .val (.int p6), .val (.int (3 : Int32)), .val (.ref b28), .unset, .unset, .unset, .unset, .unset, .unset, .unset] [(.ref b28)])) _
      refine XS.iloadN X29.here hx rfl (hb hby at_19) rfl ?_
      show Steps p.tables e below (T29.setTop (mkF m 20 #[.val (.int p1), .val (.int p2), .val (.int p3), .val (.int p4), .val (.int p5), .val (.int p6), .val (.int (3 : Int32)), .val (.ref b28), .unset, .unset, .unset, .unset, .unset, .unset, .unset] [(.int p1), (.ref b28)])) _
      refine st31.trans ?_
      show Steps p.tables e below (T31.setTop (mkF m 23 #[.val (.int p1), .val (.int p2), .val (.int p3), .val (.int p4), .val (.int p5), .val (.int p6), .val (.int (3 : Int32)), .val (.ref b28), .unset, .unset, .unset, .unset, .unset, .unset, .unset] [])) _
      refine XS.aload X31.here hx rfl (hb hby at_23) rfl rfl ?_
      show Steps p.tables e below (T31.setTop (mkF m 25 #[.val (.int p1), .val (.int p2), .val (.int p3), .val (.int p4), .val (.int p5), .val (.int p6), .val (.int (3 : Int32)), .val (.ref b28), .unset, .unset, .unset, .unset, .unset, .unset, .unset] [(.ref b28)])) _
      refine XS.iloadN X31.here hx rfl (hb hby at_25) rfl ?_
      show Steps p.tables e below (T31.setTop (mkF m 26 #[.val (.int p1), .val (.int p2), .val (.int p3), .val (.int p4), .val (.int p5), .val (.int p6), .val (.int (3 : Int32)), .val (.ref b28), .unset, .unset, .unset, .unset, .unset, .unset, .unset] [(.int p2), (.ref b28)])) _
      refine st33.trans ?_
      show Steps p.tables e below (T33.setTop (mkF m 29 #[.val (.int p1), .val (.int p2), .val (.int p3), .val (.int p4), .val (.int p5), .val (.int p6), .val (.int (3 : Int32)), .val (.ref b28), .unset, .unset, .unset, .unset, .unset, .unset, .unset] [])) _
      refine XS.iload X33.here hx rfl (hb hby at_29) rfl ?_
      show Steps p.tables e below (T33.setTop (mkF m 31 #[.val (.int p1), .val (.int p2), .val (.int p3), .val (.int p4), .val (.int p5), .val (.int p6), .val (.int (3 : Int32)), .val (.ref b28), .unset, .unset, .unset, .unset, .unset, .unset, .unset] [(.int (3 : Int32))])) _
      refine XS.iconst X33.here hx rfl (hb hby at_31) ?_
      show Steps p.tables e below (T33.setTop (mkF m 32 #[.val (.int p1), .val (.int p2), .val (.int p3), .val (.int p4), .val (.int p5), .val (.int p6), .val (.int (3 : Int32)), .val (.ref b28), .unset, .unset, .unset, .unset, .unset, .unset, .unset] [(.int (3 : Int32)), (.int (3 : Int32))])) _
      refine XS.icmpNo X33.here hx rfl (hb hby at_32) rfl (flt (by decide : ¬ ((3 : Int32) < (3 : Int32)))).1 ?_
      show Steps p.tables e below (T33.setTop (mkF m 35 #[.val (.int p1), .val (.int p2), .val (.int p3), .val (.int p4), .val (.int p5), .val (.int p6), .val (.int (3 : Int32)), .val (.ref b28), .unset, .unset, .unset, .unset, .unset, .unset, .unset] [])) _
      refine XS.aload X33.here hx rfl (hb hby at_35) rfl rfl ?_
      show Steps p.tables e below (T33.setTop (mkF m 37 #[.val (.int p1), .val (.int p2), .val (.int p3), .val (.int p4), .val (.int p5), .val (.int p6), .val (.int (3 : Int32)), .val (.ref b28), .unset, .unset, .unset, .unset, .unset, .unset, .unset] [(.ref b28)])) _
      refine XS.iloadN X33.here hx rfl (hb hby at_37) rfl ?_
      show Steps p.tables e below (T33.setTop (mkF m 38 #[.val (.int p1), .val (.int p2), .val (.int p3), .val (.int p4), .val (.int p5), .val (.int p6), .val (.int (3 : Int32)), .val (.ref b28), .unset, .unset, .unset, .unset, .unset, .unset, .unset] [(.int p3), (.ref b28)])) _
      refine st35.trans ?_
      show Steps p.tables e below (T35.setTop (mkF m 41 #[.val (.int p1), .val (.int p2), .val (.int p3), .val (.int p4), .val (.int p5), .val (.int p6), .val (.int (3 : Int32)), .val (.ref b28), .unset, .unset, .unset, .unset, .unset, .unset, .unset] [])) _
      refine XS.iload X35.here hx rfl (hb hby at_41) rfl ?_
      show Steps p.tables e below (T35.setTop (mkF m 43 #[.val (.int p1), .val (.int p2), .val (.int p3), .val (.int p4), .val (.int p5), .val (.int p6), .val (.int (3 : Int32)), .val (.ref b28), .unset, .unset, .unset, .unset, .unset, .unset, .unset] [(.int (3 : Int32))])) _
      refine XS.iconst X35.here hx rfl (hb hby at_43) ?_
      show Steps p.tables e below (T35.setTop (mkF m 44 #[.val (.int p1), .val (.int p2), .val (.int p3), .val (.int p4), .val (.int p5), .val (.int p6), .val (.int (3 : Int32)), .val (.ref b28), .unset, .unset, .unset, .unset, .unset, .unset, .unset] [(.int (4 : Int32)), (.int (3 : Int32))])) _
      refine XS.icmpYes X35.here hx rfl (pc0 := 44) (pc' := 53) rfl (hb hby at_44) rfl (tlt (by decide : (3 : Int32) < (4 : Int32))).1 (by decide) (by decide) ?_
      show Steps p.tables e below (T35.setTop (mkF m 53 #[.val (.int p1), .val (.int p2), .val (.int p3), .val (.int p4), .val (.int p5), .val (.int p6), .val (.int (3 : Int32)), .val (.ref b28), .unset, .unset, .unset, .unset, .unset, .unset, .unset] [])) _
      refine XS.iload X35.here hx rfl (hb hby at_53) rfl ?_
      show Steps p.tables e below (T35.setTop (mkF m 55 #[.val (.int p1), .val (.int p2), .val (.int p3), .val (.int p4), .val (.int p5), .val (.int p6), .val (.int (3 : Int32)), .val (.ref b28), .unset, .unset, .unset, .unset, .unset, .unset, .unset] [(.int (3 : Int32))])) _
      refine XS.iconst X35.here hx rfl (hb hby at_55) ?_
      show Steps p.tables e below (T35.setTop (mkF m 56 #[.val (.int p1), .val (.int p2), .val (.int p3), .val (.int p4), .val (.int p5), .val (.int p6), .val (.int (3 : Int32)), .val (.ref b28), .unset, .unset, .unset, .unset, .unset, .unset, .unset] [(.int (5 : Int32)), (.int (3 : Int32))])) _
      refine XS.icmpYes X35.here hx rfl (pc0 := 56) (pc' := 66) rfl (hb hby at_56) rfl (tlt (by decide : (3 : Int32) < (5 : Int32))).1 (by decide) (by decide) ?_
      show Steps p.tables e below (T35.setTop (mkF m 66 #[.val (.int p1), .val (.int p2), .val (.int p3), .val (.int p4), .val (.int p5), .val (.int p6), .val (.int (3 : Int32)), .val (.ref b28), .unset, .unset, .unset, .unset, .unset, .unset, .unset] [])) _
      refine XS.iload X35.here hx rfl (hb hby at_66) rfl ?_
      show Steps p.tables e below (T35.setTop (mkF m 68 #[.val (.int p1), .val (.int p2), .val (.int p3), .val (.int p4), .val (.int p5), .val (.int p6), .val (.int (3 : Int32)), .val (.ref b28), .unset, .unset, .unset, .unset, .unset, .unset, .unset] [(.int (3 : Int32))])) _
      refine XS.iconst X35.here hx rfl (hb hby at_68) ?_
      show Steps p.tables e below (T35.setTop (mkF m 69 #[.val (.int p1), .val (.int p2), .val (.int p3), .val (.int p4), .val (.int p5), .val (.int p6), .val (.int (3 : Int32)), .val (.ref b28), .unset, .unset, .unset, .unset, .unset, .unset, .unset] [(.int (2 : Int32)), (.int (3 : Int32))])) _
      refine XS.icmpYes X35.here hx rfl (pc0 := 69) (pc' := 76) rfl (hb hby at_69) rfl (feq (by decide : ¬ ((3 : Int32) = (2 : Int32)))).2 (by decide) (by decide) ?_
      show Steps p.tables e below (T35.setTop (mkF m 76 #[.val (.int p1), .val (.int p2), .val (.int p3), .val (.int p4), .val (.int p5), .val (.int p6), .val (.int (3 : Int32)), .val (.ref b28), .unset, .unset, .unset, .unset, .unset, .unset, .unset] [])) _
      refine XS.iload X35.here hx rfl (hb hby at_76) rfl ?_
      show Steps p.tables e below (T35.setTop (mkF m 78 #[.val (.int p1), .val (.int p2), .val (.int p3), .val (.int p4), .val (.int p5), .val (.int p6), .val (.int (3 : Int32)), .val (.ref b28), .unset, .unset, .unset, .unset, .unset, .unset, .unset] [(.int (3 : Int32))])) _
      refine XS.iconst X35.here hx rfl (hb hby at_78) ?_
      show Steps p.tables e below (T35.setTop (mkF m 79 #[.val (.int p1), .val (.int p2), .val (.int p3), .val (.int p4), .val (.int p5), .val (.int p6), .val (.int (3 : Int32)), .val (.ref b28), .unset, .unset, .unset, .unset, .unset, .unset, .unset] [(.int (3 : Int32)), (.int (3 : Int32))])) _
      refine XS.icmpNo X35.here hx rfl (hb hby at_79) rfl (teq (rfl : (3 : Int32) = (3 : Int32))).2 ?_
      show Steps p.tables e below (T35.setTop (mkF m 82 #[.val (.int p1), .val (.int p2), .val (.int p3), .val (.int p4), .val (.int p5), .val (.int p6), .val (.int (3 : Int32)), .val (.ref b28), .unset, .unset, .unset, .unset, .unset, .unset, .unset] [])) _
      refine XS.iloadN X35.here hx rfl (hb hby at_82) rfl ?_
      show Steps p.tables e below (T35.setTop (mkF m 83 #[.val (.int p1), .val (.int p2), .val (.int p3), .val (.int p4), .val (.int p5), .val (.int p6), .val (.int (3 : Int32)), .val (.ref b28), .unset, .unset, .unset, .unset, .unset, .unset, .unset] [(.int p3)])) _
      refine XS.goto X35.here hx rfl (pc0 := 83) (pc' := 98) rfl (hb hby at_83) (by decide) (by decide) ?_
      show Steps p.tables e below (T35.setTop (mkF m 98 #[.val (.int p1), .val (.int p2), .val (.int p3), .val (.int p4), .val (.int p5), .val (.int p6), .val (.int (3 : Int32)), .val (.ref b28), .unset, .unset, .unset, .unset, .unset, .unset, .unset] [(.int p3)])) _
      refine XS.istore X35.here hx rfl (hb hby at_98) rfl (l' := #[.val (.int p1), .val (.int p2), .val (.int p3), .val (.int p4), .val (.int p5), .val (.int p6), .val (.int (3 : Int32)), .val (.ref b28), .val (.int p3), .unset, .unset, .unset, .unset, .unset, .unset]) rfl ?_
      show Steps p.tables e below (T35.setTop (mkF m 100 #[.val (.int p1), .val (.int p2), .val (.int p3), .val (.int p4), .val (.int p5), .val (.int p6), .val (.int (3 : Int32)), .val (.ref b28), .val (.int p3), .unset, .unset, .unset, .unset, .unset, .unset] [])) _
      refine XS.iload X35.here hx rfl (hb hby at_100) rfl ?_
      show Steps p.tables e below (T35.setTop (mkF m 102 #[.val (.int p1), .val (.int p2), .val (.int p3), .val (.int p4), .val (.int p5), .val (.int p6), .val (.int (3 : Int32)), .val (.ref b28), .val (.int p3), .unset, .unset, .unset, .unset, .unset, .unset] [(.int (3 : Int32))])) _
      refine XS.iconst X35.here hx rfl (hb hby at_102) ?_
      show Steps p.tables e below (T35.setTop (mkF m 103 #[.val (.int p1), .val (.int p2), .val (.int p3), .val (.int p4), .val (.int p5), .val (.int p6), .val (.int (3 : Int32)), .val (.ref b28), .val (.int p3), .unset, .unset, .unset, .unset, .unset, .unset] [(.int (2 : Int32)), (.int (3 : Int32))])) _
      refine XS.icmpYes X35.here hx rfl (pc0 := 103) (pc' := 110) rfl (hb hby at_103) rfl (feq (by decide : ¬ ((3 : Int32) = (2 : Int32)))).2 (by decide) (by decide) ?_
      show Steps p.tables e below (T35.setTop (mkF m 110 #[.val (.int p1), .val (.int p2), .val (.int p3), .val (.int p4), .val (.int p5), .val (.int p6), .val (.int (3 : Int32)), .val (.ref b28), .val (.int p3), .unset, .unset, .unset, .unset, .unset, .unset] [])) _
      refine XS.iload X35.here hx rfl (hb hby at_110) rfl ?_
      show Steps p.tables e below (T35.setTop (mkF m 112 #[.val (.int p1), .val (.int p2), .val (.int p3), .val (.int p4), .val (.int p5), .val (.int p6), .val (.int (3 : Int32)), .val (.ref b28), .val (.int p3), .unset, .unset, .unset, .unset, .unset, .unset] [(.int (3 : Int32))])) _
      refine XS.iconst X35.here hx rfl (hb hby at_112) ?_
      show Steps p.tables e below (T35.setTop (mkF m 113 #[.val (.int p1), .val (.int p2), .val (.int p3), .val (.int p4), .val (.int p5), .val (.int p6), .val (.int (3 : Int32)), .val (.ref b28), .val (.int p3), .unset, .unset, .unset, .unset, .unset, .unset] [(.int (3 : Int32)), (.int (3 : Int32))])) _
      refine XS.icmpNo X35.here hx rfl (hb hby at_113) rfl (teq (rfl : (3 : Int32) = (3 : Int32))).2 ?_
      show Steps p.tables e below (T35.setTop (mkF m 116 #[.val (.int p1), .val (.int p2), .val (.int p3), .val (.int p4), .val (.int p5), .val (.int p6), .val (.int (3 : Int32)), .val (.ref b28), .val (.int p3), .unset, .unset, .unset, .unset, .unset, .unset] [])) _
      refine XS.iloadN X35.here hx rfl (hb hby at_116) rfl ?_
      show Steps p.tables e below (T35.setTop (mkF m 117 #[.val (.int p1), .val (.int p2), .val (.int p3), .val (.int p4), .val (.int p5), .val (.int p6), .val (.int (3 : Int32)), .val (.ref b28), .val (.int p3), .unset, .unset, .unset, .unset, .unset, .unset] [(.int p2)])) _
      refine XS.goto X35.here hx rfl (pc0 := 117) (pc' := 131) rfl (hb hby at_117) (by decide) (by decide) ?_
      show Steps p.tables e below (T35.setTop (mkF m 131 #[.val (.int p1), .val (.int p2), .val (.int p3), .val (.int p4), .val (.int p5), .val (.int p6), .val (.int (3 : Int32)), .val (.ref b28), .val (.int p3), .unset, .unset, .unset, .unset, .unset, .unset] [(.int p2)])) _
      refine XS.istore X35.here hx rfl (hb hby at_131) rfl (l' := #[.val (.int p1), .val (.int p2), .val (.int p3), .val (.int p4), .val (.int p5), .val (.int p6), .val (.int (3 : Int32)), .val (.ref b28), .val (.int p3), .val (.int p2), .unset, .unset, .unset, .unset, .unset]) rfl ?_
      show Steps p.tables e below (T35.setTop (mkF m 133 #[.val (.int p1), .val (.int p2), .val (.int p3), .val (.int p4), .val (.int p5), .val (.int p6), .val (.int (3 : Int32)), .val (.ref b28), .val (.int p3), .val (.int p2), .unset, .unset, .unset, .unset, .unset] [])) _
      refine XS.aload X35.here hx rfl (hb hby at_133) rfl rfl ?_
      show Steps p.tables e below (T35.setTop (mkF m 135 #[.val (.int p1), .val (.int p2), .val (.int p3), .val (.int p4), .val (.int p5), .val (.int p6), .val (.int (3 : Int32)), .val (.ref b28), .val (.int p3), .val (.int p2), .unset, .unset, .unset, .unset, .unset] [(.ref b28)])) _
      refine st37.trans ?_
      show Steps p.tables e below (T37.setTop (mkF m 138 #[.val (.int p1), .val (.int p2), .val (.int p3), .val (.int p4), .val (.int p5), .val (.int p6), .val (.int (3 : Int32)), .val (.ref b28), .val (.int p3), .val (.int p2), .unset, .unset, .unset, .unset, .unset] [(.int (F2006 p1 p2 p3 (0 : Int32)))])) _
      refine XS.istore X37.here hx rfl (hb hby at_138) rfl (l' := #[.val (.int p1), .val (.int p2), .val (.int p3), .val (.int p4), .val (.int p5), .val (.int p6), .val (.int (3 : Int32)), .val (.ref b28), .val (.int p3), .val (.int p2), .val (.int (F2006 p1 p2 p3 (0 : Int32))), .unset, .unset, .unset, .unset]) rfl ?_
      show Steps p.tables e below (T37.setTop (mkF m 140 #[.val (.int p1), .val (.int p2), .val (.int p3), .val (.int p4), .val (.int p5), .val (.int p6), .val (.int (3 : Int32)), .val (.ref b28), .val (.int p3), .val (.int p2), .val (.int (F2006 p1 p2 p3 (0 : Int32))), .unset, .unset, .unset, .unset] [])) _
      refine XS.aload X37.here hx rfl (hb hby at_140) rfl rfl ?_
      show Steps p.tables e below (T37.setTop (mkF m 142 #[.val (.int p1), .val (.int p2), .val (.int p3), .val (.int p4), .val (.int p5), .val (.int p6), .val (.int (3 : Int32)), .val (.ref b28), .val (.int p3), .val (.int p2), .val (.int (F2006 p1 p2 p3 (0 : Int32))), .unset, .unset, .unset, .unset] [(.ref b28)])) _
      refine st39.trans ?_
      show Steps p.tables e below (T39.setTop (mkF m 145 #[.val (.int p1), .val (.int p2), .val (.int p3), .val (.int p4), .val (.int p5), .val (.int p6), .val (.int (3 : Int32)), .val (.ref b28), .val (.int p3), .val (.int p2), .val (.int (F2006 p1 p2 p3 (0 : Int32))), .unset, .unset, .unset, .unset] [(.int (F7 (2 : Int32)))])) _
      refine XS.istore X39.here hx rfl (hb hby at_145) rfl (l' := #[.val (.int p1), .val (.int p2), .val (.int p3), .val (.int p4), .val (.int p5), .val (.int p6), .val (.int (3 : Int32)), .val (.ref b28), .val (.int p3), .val (.int p2), .val (.int (F2006 p1 p2 p3 (0 : Int32))), .val (.int (F7 (2 : Int32))), .unset, .unset, .unset]) rfl ?_
      show Steps p.tables e below (T39.setTop (mkF m 147 #[.val (.int p1), .val (.int p2), .val (.int p3), .val (.int p4), .val (.int p5), .val (.int p6), .val (.int (3 : Int32)), .val (.ref b28), .val (.int p3), .val (.int p2), .val (.int (F2006 p1 p2 p3 (0 : Int32))), .val (.int (F7 (2 : Int32))), .unset, .unset, .unset] [])) _
      refine XS.aload X39.here hx rfl (hb hby at_147) rfl rfl ?_
      show Steps p.tables e below (T39.setTop (mkF m 149 #[.val (.int p1), .val (.int p2), .val (.int p3), .val (.int p4), .val (.int p5), .val (.int p6), .val (.int (3 : Int32)), .val (.ref b28), .val (.int p3), .val (.int p2), .val (.int (F2006 p1 p2 p3 (0 : Int32))), .val (.int (F7 (2 : Int32))), .unset, .unset, .unset] [(.ref b28)])) _
      refine st41.trans ?_
      show Steps p.tables e below (T41.setTop (mkF m 152 #[.val (.int p1), .val (.int p2), .val (.int p3), .val (.int p4), .val (.int p5), .val (.int p6), .val (.int (3 : Int32)), .val (.ref b28), .val (.int p3), .val (.int p2), .val (.int (F2006 p1 p2 p3 (0 : Int32))), .val (.int (F7 (2 : Int32))), .unset, .unset, .unset] [(.int (F1006 p1 p2 p3 (0 : Int32)))])) _
      refine XS.istore X41.here hx rfl (hb hby at_152) rfl (l' := #[.val (.int p1), .val (.int p2), .val (.int p3), .val (.int p4), .val (.int p5), .val (.int p6), .val (.int (3 : Int32)), .val (.ref b28), .val (.int p3), .val (.int p2), .val (.int (F2006 p1 p2 p3 (0 : Int32))), .val (.int (F7 (2 : Int32))), .val (.int (F1006 p1 p2 p3 (0 : Int32))), .unset, .unset]) rfl ?_
      show Steps p.tables e below (T41.setTop (mkF m 154 #[.val (.int p1), .val (.int p2), .val (.int p3), .val (.int p4), .val (.int p5), .val (.int p6), .val (.int (3 : Int32)), .val (.ref b28), .val (.int p3), .val (.int p2), .val (.int (F2006 p1 p2 p3 (0 : Int32))), .val (.int (F7 (2 : Int32))), .val (.int (F1006 p1 p2 p3 (0 : Int32))), .unset, .unset] [])) _
      refine XS.aload X41.here hx rfl (hb hby at_154) rfl rfl ?_
      show Steps p.tables e below (T41.setTop (mkF m 156 #[.val (.int p1), .val (.int p2), .val (.int p3), .val (.int p4), .val (.int p5), .val (.int p6), .val (.int (3 : Int32)), .val (.ref b28), .val (.int p3), .val (.int p2), .val (.int (F2006 p1 p2 p3 (0 : Int32))), .val (.int (F7 (2 : Int32))), .val (.int (F1006 p1 p2 p3 (0 : Int32))), .unset, .unset] [(.ref b28)])) _
      refine st43.trans ?_
      show Steps p.tables e below (T43.setTop (mkF m 159 #[.val (.int p1), .val (.int p2), .val (.int p3), .val (.int p4), .val (.int p5), .val (.int p6), .val (.int (3 : Int32)), .val (.ref b28), .val (.int p3), .val (.int p2), .val (.int (F2006 p1 p2 p3 (0 : Int32))), .val (.int (F7 (2 : Int32))), .val (.int (F1006 p1 p2 p3 (0 : Int32))), .unset, .unset] [(.int (F7 (1 : Int32)))])) _
      refine XS.istore X43.here hx rfl (hb hby at_159) rfl (l' := #[.val (.int p1), .val (.int p2), .val (.int p3), .val (.int p4), .val (.int p5), .val (.int p6), .val (.int (3 : Int32)), .val (.ref b28), .val (.int p3), .val (.int p2), .val (.int (F2006 p1 p2 p3 (0 : Int32))), .val (.int (F7 (2 : Int32))), .val (.int (F1006 p1 p2 p3 (0 : Int32))), .val (.int (F7 (1 : Int32))), .unset]) rfl ?_
      show Steps p.tables e below (T43.setTop (mkF m 161 #[.val (.int p1), .val (.int p2), .val (.int p3), .val (.int p4), .val (.int p5), .val (.int p6), .val (.int (3 : Int32)), .val (.ref b28), .val (.int p3), .val (.int p2), .val (.int (F2006 p1 p2 p3 (0 : Int32))), .val (.int (F7 (2 : Int32))), .val (.int (F1006 p1 p2 p3 (0 : Int32))), .val (.int (F7 (1 : Int32))), .unset] [])) _
      refine XS.iload X43.here hx rfl (hb hby at_161) rfl ?_
      show Steps p.tables e below (T43.setTop (mkF m 163 #[.val (.int p1), .val (.int p2), .val (.int p3), .val (.int p4), .val (.int p5), .val (.int p6), .val (.int (3 : Int32)), .val (.ref b28), .val (.int p3), .val (.int p2), .val (.int (F2006 p1 p2 p3 (0 : Int32))), .val (.int (F7 (2 : Int32))), .val (.int (F1006 p1 p2 p3 (0 : Int32))), .val (.int (F7 (1 : Int32))), .unset] [(.int (F2006 p1 p2 p3 (0 : Int32)))])) _
      refine XS.iload X43.here hx rfl (hb hby at_163) rfl ?_
      exact kt
    have pre53 : ∀ t, Steps p.tables e below (T43.setTop (mkF m 198 #[.val (.int p1), .val (.int p2), .val (.int p3), .val (.int p4), .val (.int p5), .val (.int p6), .val (.int (3 : Int32)), .val (.ref b28), .val (.int p3), .val (.int p2), .val (.int (F2006 p1 p2 p3 (0 : Int32))), .val (.int (F7 (2 : Int32))), .val (.int (F1006 p1 p2 p3 (0 : Int32))), .val (.int (F7 (1 : Int32))), .unset] [(.int (if (F2006 p1 p2 p3 (0 : Int32)) = p3 then (if (F7 (2 : Int32)) = (2 : Int32) then (if (F1006 p1 p2 p3 (0 : Int32)) = p2 then (if (F7 (1 : Int32)) = (1 : Int32) then (1 : Int32) else (0 : Int32)) else (0 : Int32)) else (0 : Int32)) else (0 : Int32)))])) t → Steps p.tables e below (s₁.setTop (entryFrame m #[(.int p1), (.int p2), (.int p3), (.int p4), (.int p5), (.int p6)] maxLocals)) t := by
      by_cases hc46 : (F2006 p1 p2 p3 (0 : Int32)) = p3
      · have pre47 : ∀ t, Steps p.tables e below (T43.setTop (mkF m 174 #[.val (.int p1), .val (.int p2), .val (.int p3), .val (.int p4), .val (.int p5), .val (.int p6), .val (.int (3 : Int32)), .val (.ref b28), .val (.int p3), .val (.int p2), .val (.int (F2006 p1 p2 p3 (0 : Int32))), .val (.int (F7 (2 : Int32))), .val (.int (F1006 p1 p2 p3 (0 : Int32))), .val (.int (F7 (1 : Int32))), .unset] [(.int (2 : Int32)), (.int (F7 (2 : Int32)))])) t → Steps p.tables e below (s₁.setTop (entryFrame m #[(.int p1), (.int p2), (.int p3), (.int p4), (.int p5), (.int p6)] maxLocals)) t := fun t kt => by
          refine pre45 t ?_
          show Steps p.tables e below (T43.setTop (mkF m 165 #[.val (.int p1), .val (.int p2), .val (.int p3), .val (.int p4), .val (.int p5), .val (.int p6), .val (.int (3 : Int32)), .val (.ref b28), .val (.int p3), .val (.int p2), .val (.int (F2006 p1 p2 p3 (0 : Int32))), .val (.int (F7 (2 : Int32))), .val (.int (F1006 p1 p2 p3 (0 : Int32))), .val (.int (F7 (1 : Int32))), .unset] [(.int p3), (.int (F2006 p1 p2 p3 (0 : Int32)))])) _
          refine XS.icmpNo X43.here hx rfl (hb hby at_165) rfl (teq hc46).2 ?_
          show Steps p.tables e below (T43.setTop (mkF m 168 #[.val (.int p1), .val (.int p2), .val (.int p3), .val (.int p4), .val (.int p5), .val (.int p6), .val (.int (3 : Int32)), .val (.ref b28), .val (.int p3), .val (.int p2), .val (.int (F2006 p1 p2 p3 (0 : Int32))), .val (.int (F7 (2 : Int32))), .val (.int (F1006 p1 p2 p3 (0 : Int32))), .val (.int (F7 (1 : Int32))), .unset] [])) _
          refine XS.iload X43.here hx rfl (hb hby at_168) rfl ?_
          show Steps p.tables e below (T43.setTop (mkF m 170 #[.val (.int p1), .val (.int p2), .val (.int p3), .val (.int p4), .val (.int p5), .val (.int p6), .val (.int (3 : Int32)), .val (.ref b28), .val (.int p3), .val (.int p2), .val (.int (F2006 p1 p2 p3 (0 : Int32))), .val (.int (F7 (2 : Int32))), .val (.int (F1006 p1 p2 p3 (0 : Int32))), .val (.int (F7 (1 : Int32))), .unset] [(.int (F7 (2 : Int32)))])) _
          refine XS.iload X43.here hx rfl (hb hby at_170) rfl ?_
          show Steps p.tables e below (T43.setTop (mkF m 172 #[.val (.int p1), .val (.int p2), .val (.int p3), .val (.int p4), .val (.int p5), .val (.int p6), .val (.int (3 : Int32)), .val (.ref b28), .val (.int p3), .val (.int p2), .val (.int (F2006 p1 p2 p3 (0 : Int32))), .val (.int (F7 (2 : Int32))), .val (.int (F1006 p1 p2 p3 (0 : Int32))), .val (.int (F7 (1 : Int32))), .unset] [(.int (3 : Int32)), (.int (F7 (2 : Int32)))])) _
          refine XS.iconst X43.here hx rfl (hb hby at_172) ?_
          show Steps p.tables e below (T43.setTop (mkF m 173 #[.val (.int p1), .val (.int p2), .val (.int p3), .val (.int p4), .val (.int p5), .val (.int p6), .val (.int (3 : Int32)), .val (.ref b28), .val (.int p3), .val (.int p2), .val (.int (F2006 p1 p2 p3 (0 : Int32))), .val (.int (F7 (2 : Int32))), .val (.int (F1006 p1 p2 p3 (0 : Int32))), .val (.int (F7 (1 : Int32))), .unset] [(.int (1 : Int32)), (.int (3 : Int32)), (.int (F7 (2 : Int32)))])) _
          refine XS.isub X43.here hx rfl (hb hby at_173) rfl ?_
          exact kt
        by_cases hc48 : (F7 (2 : Int32)) = (2 : Int32)
        · have pre49 : ∀ t, Steps p.tables e below (T43.setTop (mkF m 181 #[.val (.int p1), .val (.int p2), .val (.int p3), .val (.int p4), .val (.int p5), .val (.int p6), .val (.int (3 : Int32)), .val (.ref b28), .val (.int p3), .val (.int p2), .val (.int (F2006 p1 p2 p3 (0 : Int32))), .val (.int (F7 (2 : Int32))), .val (.int (F1006 p1 p2 p3 (0 : Int32))), .val (.int (F7 (1 : Int32))), .unset] [(.int p2), (.int (F1006 p1 p2 p3 (0 : Int32)))])) t → Steps p.tables e below (s₁.setTop (entryFrame m #[(.int p1), (.int p2), (.int p3), (.int p4), (.int p5), (.int p6)] maxLocals)) t := fun t kt => by
            refine pre47 t ?_
            show Steps p.tables e below (T43.setTop (mkF m 174 #[.val (.int p1), .val (.int p2), .val (.int p3), .val (.int p4), .val (.int p5), .val (.int p6), .val (.int (3 : Int32)), .val (.ref b28), .val (.int p3), .val (.int p2), .val (.int (F2006 p1 p2 p3 (0 : Int32))), .val (.int (F7 (2 : Int32))), .val (.int (F1006 p1 p2 p3 (0 : Int32))), .val (.int (F7 (1 : Int32))), .unset] [(.int (2 : Int32)), (.int (F7 (2 : Int32)))])) _
            refine XS.icmpNo X43.here hx rfl (hb hby at_174) rfl (teq hc48).2 ?_
            show Steps p.tables e below (T43.setTop (mkF m 177 #[.val (.int p1), .val (.int p2), .val (.int p3), .val (.int p4), .val (.int p5), .val (.int p6), .val (.int (3 : Int32)), .val (.ref b28), .val (.int p3), .val (.int p2), .val (.int (F2006 p1 p2 p3 (0 : Int32))), .val (.int (F7 (2 : Int32))), .val (.int (F1006 p1 p2 p3 (0 : Int32))), .val (.int (F7 (1 : Int32))), .unset] [])) _
            refine XS.iload X43.here hx rfl (hb hby at_177) rfl ?_
            show Steps p.tables e below (T43.setTop (mkF m 179 #[.val (.int p1), .val (.int p2), .val (.int p3), .val (.int p4), .val (.int p5), .val (.int p6), .val (.int (3 : Int32)), .val (.ref b28), .val (.int p3), .val (.int p2), .val (.int (F2006 p1 p2 p3 (0 : Int32))), .val (.int (F7 (2 : Int32))), .val (.int (F1006 p1 p2 p3 (0 : Int32))), .val (.int (F7 (1 : Int32))), .unset] [(.int (F1006 p1 p2 p3 (0 : Int32)))])) _
            refine XS.iload X43.here hx rfl (hb hby at_179) rfl ?_
            exact kt
          by_cases hc50 : (F1006 p1 p2 p3 (0 : Int32)) = p2
          · have pre51 : ∀ t, Steps p.tables e below (T43.setTop (mkF m 190 #[.val (.int p1), .val (.int p2), .val (.int p3), .val (.int p4), .val (.int p5), .val (.int p6), .val (.int (3 : Int32)), .val (.ref b28), .val (.int p3), .val (.int p2), .val (.int (F2006 p1 p2 p3 (0 : Int32))), .val (.int (F7 (2 : Int32))), .val (.int (F1006 p1 p2 p3 (0 : Int32))), .val (.int (F7 (1 : Int32))), .unset] [(.int (1 : Int32)), (.int (F7 (1 : Int32)))])) t → Steps p.tables e below (s₁.setTop (entryFrame m #[(.int p1), (.int p2), (.int p3), (.int p4), (.int p5), (.int p6)] maxLocals)) t := fun t kt => by
              refine pre49 t ?_
              show Steps p.tables e below (T43.setTop (mkF m 181 #[.val (.int p1), .val (.int p2), .val (.int p3), .val (.int p4), .val (.int p5), .val (.int p6), .val (.int (3 : Int32)), .val (.ref b28), .val (.int p3), .val (.int p2), .val (.int (F2006 p1 p2 p3 (0 : Int32))), .val (.int (F7 (2 : Int32))), .val (.int (F1006 p1 p2 p3 (0 : Int32))), .val (.int (F7 (1 : Int32))), .unset] [(.int p2), (.int (F1006 p1 p2 p3 (0 : Int32)))])) _
              refine XS.icmpNo X43.here hx rfl (hb hby at_181) rfl (teq hc50).2 ?_
              show Steps p.tables e below (T43.setTop (mkF m 184 #[.val (.int p1), .val (.int p2), .val (.int p3), .val (.int p4), .val (.int p5), .val (.int p6), .val (.int (3 : Int32)), .val (.ref b28), .val (.int p3), .val (.int p2), .val (.int (F2006 p1 p2 p3 (0 : Int32))), .val (.int (F7 (2 : Int32))), .val (.int (F1006 p1 p2 p3 (0 : Int32))), .val (.int (F7 (1 : Int32))), .unset] [])) _
              refine XS.iload X43.here hx rfl (hb hby at_184) rfl ?_
              show Steps p.tables e below (T43.setTop (mkF m 186 #[.val (.int p1), .val (.int p2), .val (.int p3), .val (.int p4), .val (.int p5), .val (.int p6), .val (.int (3 : Int32)), .val (.ref b28), .val (.int p3), .val (.int p2), .val (.int (F2006 p1 p2 p3 (0 : Int32))), .val (.int (F7 (2 : Int32))), .val (.int (F1006 p1 p2 p3 (0 : Int32))), .val (.int (F7 (1 : Int32))), .unset] [(.int (F7 (1 : Int32)))])) _
              refine XS.iload X43.here hx rfl (hb hby at_186) rfl ?_
              show Steps p.tables e below (T43.setTop (mkF m 188 #[.val (.int p1), .val (.int p2), .val (.int p3), .val (.int p4), .val (.int p5), .val (.int p6), .val (.int (3 : Int32)), .val (.ref b28), .val (.int p3), .val (.int p2), .val (.int (F2006 p1 p2 p3 (0 : Int32))), .val (.int (F7 (2 : Int32))), .val (.int (F1006 p1 p2 p3 (0 : Int32))), .val (.int (F7 (1 : Int32))), .unset] [(.int (3 : Int32)), (.int (F7 (1 : Int32)))])) _
              refine XS.iconst X43.here hx rfl (hb hby at_188) ?_
              show Steps p.tables e below (T43.setTop (mkF m 189 #[.val (.int p1), .val (.int p2), .val (.int p3), .val (.int p4), .val (.int p5), .val (.int p6), .val (.int (3 : Int32)), .val (.ref b28), .val (.int p3), .val (.int p2), .val (.int (F2006 p1 p2 p3 (0 : Int32))), .val (.int (F7 (2 : Int32))), .val (.int (F1006 p1 p2 p3 (0 : Int32))), .val (.int (F7 (1 : Int32))), .unset] [(.int (2 : Int32)), (.int (3 : Int32)), (.int (F7 (1 : Int32)))])) _
              refine XS.isub X43.here hx rfl (hb hby at_189) rfl ?_
              exact kt
            by_cases hc52 : (F7 (1 : Int32)) = (1 : Int32)
            · refine fun t kt => pre51 t ?_
              repeat rw [if_pos hc46] at kt
              repeat rw [if_pos hc48] at kt
              repeat rw [if_pos hc50] at kt
              repeat rw [if_pos hc52] at kt
              show Steps p.tables e below (T43.setTop (mkF m 190 #[.val (.int p1), .val (.int p2), .val (.int p3), .val (.int p4), .val (.int p5), .val (.int p6), .val (.int (3 : Int32)), .val (.ref b28), .val (.int p3), .val (.int p2), .val (.int (F2006 p1 p2 p3 (0 : Int32))), .val (.int (F7 (2 : Int32))), .val (.int (F1006 p1 p2 p3 (0 : Int32))), .val (.int (F7 (1 : Int32))), .unset] [(.int (1 : Int32)), (.int (F7 (1 : Int32)))])) _
              refine XS.icmpNo X43.here hx rfl (hb hby at_190) rfl (teq hc52).2 ?_
              show Steps p.tables e below (T43.setTop (mkF m 193 #[.val (.int p1), .val (.int p2), .val (.int p3), .val (.int p4), .val (.int p5), .val (.int p6), .val (.int (3 : Int32)), .val (.ref b28), .val (.int p3), .val (.int p2), .val (.int (F2006 p1 p2 p3 (0 : Int32))), .val (.int (F7 (2 : Int32))), .val (.int (F1006 p1 p2 p3 (0 : Int32))), .val (.int (F7 (1 : Int32))), .unset] [])) _
              refine XS.iconst X43.here hx rfl (hb hby at_193) ?_
              show Steps p.tables e below (T43.setTop (mkF m 194 #[.val (.int p1), .val (.int p2), .val (.int p3), .val (.int p4), .val (.int p5), .val (.int p6), .val (.int (3 : Int32)), .val (.ref b28), .val (.int p3), .val (.int p2), .val (.int (F2006 p1 p2 p3 (0 : Int32))), .val (.int (F7 (2 : Int32))), .val (.int (F1006 p1 p2 p3 (0 : Int32))), .val (.int (F7 (1 : Int32))), .unset] [(.int (1 : Int32))])) _
              refine XS.goto X43.here hx rfl (pc0 := 194) (pc' := 198) rfl (hb hby at_194) (by decide) (by decide) ?_
              exact kt
            · refine fun t kt => pre51 t ?_
              repeat rw [if_pos hc46] at kt
              repeat rw [if_pos hc48] at kt
              repeat rw [if_pos hc50] at kt
              repeat rw [if_neg hc52] at kt
              show Steps p.tables e below (T43.setTop (mkF m 190 #[.val (.int p1), .val (.int p2), .val (.int p3), .val (.int p4), .val (.int p5), .val (.int p6), .val (.int (3 : Int32)), .val (.ref b28), .val (.int p3), .val (.int p2), .val (.int (F2006 p1 p2 p3 (0 : Int32))), .val (.int (F7 (2 : Int32))), .val (.int (F1006 p1 p2 p3 (0 : Int32))), .val (.int (F7 (1 : Int32))), .unset] [(.int (1 : Int32)), (.int (F7 (1 : Int32)))])) _
              refine XS.icmpYes X43.here hx rfl (pc0 := 190) (pc' := 197) rfl (hb hby at_190) rfl (feq hc52).2 (by decide) (by decide) ?_
              show Steps p.tables e below (T43.setTop (mkF m 197 #[.val (.int p1), .val (.int p2), .val (.int p3), .val (.int p4), .val (.int p5), .val (.int p6), .val (.int (3 : Int32)), .val (.ref b28), .val (.int p3), .val (.int p2), .val (.int (F2006 p1 p2 p3 (0 : Int32))), .val (.int (F7 (2 : Int32))), .val (.int (F1006 p1 p2 p3 (0 : Int32))), .val (.int (F7 (1 : Int32))), .unset] [])) _
              refine XS.iconst X43.here hx rfl (hb hby at_197) ?_
              exact kt
          · refine fun t kt => pre49 t ?_
            repeat rw [if_pos hc46] at kt
            repeat rw [if_pos hc48] at kt
            repeat rw [if_neg hc50] at kt
            show Steps p.tables e below (T43.setTop (mkF m 181 #[.val (.int p1), .val (.int p2), .val (.int p3), .val (.int p4), .val (.int p5), .val (.int p6), .val (.int (3 : Int32)), .val (.ref b28), .val (.int p3), .val (.int p2), .val (.int (F2006 p1 p2 p3 (0 : Int32))), .val (.int (F7 (2 : Int32))), .val (.int (F1006 p1 p2 p3 (0 : Int32))), .val (.int (F7 (1 : Int32))), .unset] [(.int p2), (.int (F1006 p1 p2 p3 (0 : Int32)))])) _
            refine XS.icmpYes X43.here hx rfl (pc0 := 181) (pc' := 197) rfl (hb hby at_181) rfl (feq hc50).2 (by decide) (by decide) ?_
            show Steps p.tables e below (T43.setTop (mkF m 197 #[.val (.int p1), .val (.int p2), .val (.int p3), .val (.int p4), .val (.int p5), .val (.int p6), .val (.int (3 : Int32)), .val (.ref b28), .val (.int p3), .val (.int p2), .val (.int (F2006 p1 p2 p3 (0 : Int32))), .val (.int (F7 (2 : Int32))), .val (.int (F1006 p1 p2 p3 (0 : Int32))), .val (.int (F7 (1 : Int32))), .unset] [])) _
            refine XS.iconst X43.here hx rfl (hb hby at_197) ?_
            exact kt
        · refine fun t kt => pre47 t ?_
          repeat rw [if_pos hc46] at kt
          repeat rw [if_neg hc48] at kt
          show Steps p.tables e below (T43.setTop (mkF m 174 #[.val (.int p1), .val (.int p2), .val (.int p3), .val (.int p4), .val (.int p5), .val (.int p6), .val (.int (3 : Int32)), .val (.ref b28), .val (.int p3), .val (.int p2), .val (.int (F2006 p1 p2 p3 (0 : Int32))), .val (.int (F7 (2 : Int32))), .val (.int (F1006 p1 p2 p3 (0 : Int32))), .val (.int (F7 (1 : Int32))), .unset] [(.int (2 : Int32)), (.int (F7 (2 : Int32)))])) _
          refine XS.icmpYes X43.here hx rfl (pc0 := 174) (pc' := 197) rfl (hb hby at_174) rfl (feq hc48).2 (by decide) (by decide) ?_
          show Steps p.tables e below (T43.setTop (mkF m 197 #[.val (.int p1), .val (.int p2), .val (.int p3), .val (.int p4), .val (.int p5), .val (.int p6), .val (.int (3 : Int32)), .val (.ref b28), .val (.int p3), .val (.int p2), .val (.int (F2006 p1 p2 p3 (0 : Int32))), .val (.int (F7 (2 : Int32))), .val (.int (F1006 p1 p2 p3 (0 : Int32))), .val (.int (F7 (1 : Int32))), .unset] [])) _
          refine XS.iconst X43.here hx rfl (hb hby at_197) ?_
          exact kt
      · refine fun t kt => pre45 t ?_
        repeat rw [if_neg hc46] at kt
        show Steps p.tables e below (T43.setTop (mkF m 165 #[.val (.int p1), .val (.int p2), .val (.int p3), .val (.int p4), .val (.int p5), .val (.int p6), .val (.int (3 : Int32)), .val (.ref b28), .val (.int p3), .val (.int p2), .val (.int (F2006 p1 p2 p3 (0 : Int32))), .val (.int (F7 (2 : Int32))), .val (.int (F1006 p1 p2 p3 (0 : Int32))), .val (.int (F7 (1 : Int32))), .unset] [(.int p3), (.int (F2006 p1 p2 p3 (0 : Int32)))])) _
        refine XS.icmpYes X43.here hx rfl (pc0 := 165) (pc' := 197) rfl (hb hby at_165) rfl (feq hc46).2 (by decide) (by decide) ?_
        show Steps p.tables e below (T43.setTop (mkF m 197 #[.val (.int p1), .val (.int p2), .val (.int p3), .val (.int p4), .val (.int p5), .val (.int p6), .val (.int (3 : Int32)), .val (.ref b28), .val (.int p3), .val (.int p2), .val (.int (F2006 p1 p2 p3 (0 : Int32))), .val (.int (F7 (2 : Int32))), .val (.int (F1006 p1 p2 p3 (0 : Int32))), .val (.int (F7 (1 : Int32))), .unset] [])) _
        refine XS.iconst X43.here hx rfl (hb hby at_197) ?_
        exact kt
    obtain ⟨v54, hv54⟩ : ∃ z : Int32, z = (if (F2006 p1 p2 p3 (0 : Int32)) = p3 then (if (F7 (2 : Int32)) = (2 : Int32) then (if (F1006 p1 p2 p3 (0 : Int32)) = p2 then (if (F7 (1 : Int32)) = (1 : Int32) then (1 : Int32) else (0 : Int32)) else (0 : Int32)) else (0 : Int32)) else (0 : Int32)) := ⟨_, rfl⟩
    rw [← hv54] at pre53
    have pre55 : ∀ t, Steps p.tables e below (T43.setTop (mkF m 208 #[.val (.int p1), .val (.int p2), .val (.int p3), .val (.int p4), .val (.int p5), .val (.int p6), .val (.int (3 : Int32)), .val (.ref b28), .val (.int p3), .val (.int p2), .val (.int (F2006 p1 p2 p3 (0 : Int32))), .val (.int (F7 (2 : Int32))), .val (.int (F1006 p1 p2 p3 (0 : Int32))), .val (.int (F7 (1 : Int32))), .val (.int v54)] [(.int v54)])) t → Steps p.tables e below (s₁.setTop (entryFrame m #[(.int p1), (.int p2), (.int p3), (.int p4), (.int p5), (.int p6)] maxLocals)) t := fun t kt => by
      refine pre53 t ?_
      show Steps p.tables e below (T43.setTop (mkF m 198 #[.val (.int p1), .val (.int p2), .val (.int p3), .val (.int p4), .val (.int p5), .val (.int p6), .val (.int (3 : Int32)), .val (.ref b28), .val (.int p3), .val (.int p2), .val (.int (F2006 p1 p2 p3 (0 : Int32))), .val (.int (F7 (2 : Int32))), .val (.int (F1006 p1 p2 p3 (0 : Int32))), .val (.int (F7 (1 : Int32))), .unset] [(.int v54)])) _
      refine XS.istore X43.here hx rfl (hb hby at_198) rfl (l' := #[.val (.int p1), .val (.int p2), .val (.int p3), .val (.int p4), .val (.int p5), .val (.int p6), .val (.int (3 : Int32)), .val (.ref b28), .val (.int p3), .val (.int p2), .val (.int (F2006 p1 p2 p3 (0 : Int32))), .val (.int (F7 (2 : Int32))), .val (.int (F1006 p1 p2 p3 (0 : Int32))), .val (.int (F7 (1 : Int32))), .val (.int v54)]) rfl ?_
      show Steps p.tables e below (T43.setTop (mkF m 200 #[.val (.int p1), .val (.int p2), .val (.int p3), .val (.int p4), .val (.int p5), .val (.int p6), .val (.int (3 : Int32)), .val (.ref b28), .val (.int p3), .val (.int p2), .val (.int (F2006 p1 p2 p3 (0 : Int32))), .val (.int (F7 (2 : Int32))), .val (.int (F1006 p1 p2 p3 (0 : Int32))), .val (.int (F7 (1 : Int32))), .val (.int v54)] [])) _
      refine XS.iload X43.here hx rfl (hb hby at_200) rfl ?_
      show Steps p.tables e below (T43.setTop (mkF m 202 #[.val (.int p1), .val (.int p2), .val (.int p3), .val (.int p4), .val (.int p5), .val (.int p6), .val (.int (3 : Int32)), .val (.ref b28), .val (.int p3), .val (.int p2), .val (.int (F2006 p1 p2 p3 (0 : Int32))), .val (.int (F7 (2 : Int32))), .val (.int (F1006 p1 p2 p3 (0 : Int32))), .val (.int (F7 (1 : Int32))), .val (.int v54)] [(.int (3 : Int32))])) _
      refine XS.iconst X43.here hx rfl (hb hby at_202) ?_
      show Steps p.tables e below (T43.setTop (mkF m 203 #[.val (.int p1), .val (.int p2), .val (.int p3), .val (.int p4), .val (.int p5), .val (.int p6), .val (.int (3 : Int32)), .val (.ref b28), .val (.int p3), .val (.int p2), .val (.int (F2006 p1 p2 p3 (0 : Int32))), .val (.int (F7 (2 : Int32))), .val (.int (F1006 p1 p2 p3 (0 : Int32))), .val (.int (F7 (1 : Int32))), .val (.int v54)] [(.int (3 : Int32)), (.int (3 : Int32))])) _
      refine XS.icmpNo X43.here hx rfl (hb hby at_203) rfl (flt (by decide : ¬ ((3 : Int32) < (3 : Int32)))).1 ?_
      show Steps p.tables e below (T43.setTop (mkF m 206 #[.val (.int p1), .val (.int p2), .val (.int p3), .val (.int p4), .val (.int p5), .val (.int p6), .val (.int (3 : Int32)), .val (.ref b28), .val (.int p3), .val (.int p2), .val (.int (F2006 p1 p2 p3 (0 : Int32))), .val (.int (F7 (2 : Int32))), .val (.int (F1006 p1 p2 p3 (0 : Int32))), .val (.int (F7 (1 : Int32))), .val (.int v54)] [])) _
      refine XS.iload X43.here hx rfl (hb hby at_206) rfl ?_
      exact kt
    by_cases hc56 : v54 = (0 : Int32)
    · exact (leaf_0_2 p1 p2 p3 p4 p5 p6 hk2 v54 hv54 hc56).elim
    · have q58 := (q42.keep K41 (ninS (Ne.symm ne_b28_b29_0) nin0))
      obtain ⟨cq57, kq57, q57a, q57b, q57c⟩ := isOf hZ e43 f41_0
      obtain ⟨_, _, ⟨T57, L57, k57, n57⟩, -, X57, ⟨Lc57, hQ57, l57, y57, z57⟩, st57⟩ := X43.virtualBack hx (y := (⟨"com/example/krel/krel/saturation/IntList", "get", "(I)I"⟩ : MethodName)) (z := (⟨"com/example/krel/krel/saturation/IntList", "get", "(I)I"⟩ : MethodName)) hown (mvT hZ (hw _ (List.mem_of_getElem? (i := 41) rfl))) (mvT hZ (hw _ (List.mem_of_getElem? (i := 42) rfl))) (notFace_of_selects (args := #[]) (mvT hZ (hw _ (List.mem_of_getElem? (i := 44) rfl)))) (mvT hZ (hw _ (List.mem_of_getElem? (i := 44) rfl))) (mvT hZ (hw _ (List.mem_of_getElem? (i := 43) rfl))) (by decide) (backOf (W := 0) (rm8 l Z a0 hw [] b28 b29_0 kk29_0 p1 p2 p3 (0 : Int32) T41.heap n0 z44 f41_0 f41_2 q58) hZ (hw _ (List.mem_of_getElem? (i := 45) rfl)) (hw _ (List.mem_of_getElem? (i := 2) rfl)) (by decide) (by decide)) q57a q57c (g := (mkF m 214 #[.val (.int p1), .val (.int p2), .val (.int p3), .val (.int p4), .val (.int p5), .val (.int p6), .val (.int (3 : Int32)), .val (.ref b28), .val (.int p3), .val (.int p2), .val (.int (F2006 p1 p2 p3 (0 : Int32))), .val (.int (F7 (2 : Int32))), .val (.int (F1006 p1 p2 p3 (0 : Int32))), .val (.int (F7 (1 : Int32))), .val (.int v54)] [(.int (0 : Int32)), (.ref b28)])) rfl (by rw [hml]; rfl) (Steps.refl _) (argsL := [(.int (0 : Int32))]) (rest := []) (lenOf pd_0_6 rfl) rfl (by show 2 * 0 + _ ≤ _; exact Nat.le_of_eq rfl) (hb hby at_214) (fun _ _ => ⟨rfl, e43, (by decide : 2 + 0 ≤ _), (by decide : 6 + 0 ≤ _)⟩)
      dsimp only [Pt.U, Pt.locs, Pt.cells, Pt.slots] at X57 l57 y57 z57 st57 hQ57
      subst l57 y57 z57
      obtain ⟨rfl, N57q, e57⟩ := hQ57
      have N57 := Fr.app N43 N57q
      have pre59 : ∀ t, Steps p.tables e below (T57.setTop (mkF m 218 #[.val (.int p1), .val (.int p2), .val (.int p3), .val (.int p4), .val (.int p5), .val (.int p6), .val (.int (3 : Int32)), .val (.ref b28), .val (.int p3), .val (.int p2), .val (.int (F2006 p1 p2 p3 (0 : Int32))), .val (.int (F7 (2 : Int32))), .val (.int (F1006 p1 p2 p3 (0 : Int32))), .val (.int (F7 (1 : Int32))), .val (.int v54)] [(.int p1), (.int (F8 p1 p2 p3 (0 : Int32)))])) t → Steps p.tables e below (s₁.setTop (entryFrame m #[(.int p1), (.int p2), (.int p3), (.int p4), (.int p5), (.int p6)] maxLocals)) t := fun t kt => by
        refine pre55 t ?_
        show Steps p.tables e below (T43.setTop (mkF m 208 #[.val (.int p1), .val (.int p2), .val (.int p3), .val (.int p4), .val (.int p5), .val (.int p6), .val (.int (3 : Int32)), .val (.ref b28), .val (.int p3), .val (.int p2), .val (.int (F2006 p1 p2 p3 (0 : Int32))), .val (.int (F7 (2 : Int32))), .val (.int (F1006 p1 p2 p3 (0 : Int32))), .val (.int (F7 (1 : Int32))), .val (.int v54)] [(.int v54)])) _
        refine XS.ifNo X43.here hx rfl (hb hby at_208) rfl ((if0 _ _).trans (feq hc56).1) ?_
        show Steps p.tables e below (T43.setTop (mkF m 211 #[.val (.int p1), .val (.int p2), .val (.int p3), .val (.int p4), .val (.int p5), .val (.int p6), .val (.int (3 : Int32)), .val (.ref b28), .val (.int p3), .val (.int p2), .val (.int (F2006 p1 p2 p3 (0 : Int32))), .val (.int (F7 (2 : Int32))), .val (.int (F1006 p1 p2 p3 (0 : Int32))), .val (.int (F7 (1 : Int32))), .val (.int v54)] [])) _
        refine XS.aload X43.here hx rfl (hb hby at_211) rfl rfl ?_
        show Steps p.tables e below (T43.setTop (mkF m 213 #[.val (.int p1), .val (.int p2), .val (.int p3), .val (.int p4), .val (.int p5), .val (.int p6), .val (.int (3 : Int32)), .val (.ref b28), .val (.int p3), .val (.int p2), .val (.int (F2006 p1 p2 p3 (0 : Int32))), .val (.int (F7 (2 : Int32))), .val (.int (F1006 p1 p2 p3 (0 : Int32))), .val (.int (F7 (1 : Int32))), .val (.int v54)] [(.ref b28)])) _
        refine XS.iconst X43.here hx rfl (hb hby at_213) ?_
        show Steps p.tables e below (T43.setTop (mkF m 214 #[.val (.int p1), .val (.int p2), .val (.int p3), .val (.int p4), .val (.int p5), .val (.int p6), .val (.int (3 : Int32)), .val (.ref b28), .val (.int p3), .val (.int p2), .val (.int (F2006 p1 p2 p3 (0 : Int32))), .val (.int (F7 (2 : Int32))), .val (.int (F1006 p1 p2 p3 (0 : Int32))), .val (.int (F7 (1 : Int32))), .val (.int v54)] [(.int (0 : Int32)), (.ref b28)])) _
        refine st57.trans ?_
        show Steps p.tables e below (T57.setTop (mkF m 217 #[.val (.int p1), .val (.int p2), .val (.int p3), .val (.int p4), .val (.int p5), .val (.int p6), .val (.int (3 : Int32)), .val (.ref b28), .val (.int p3), .val (.int p2), .val (.int (F2006 p1 p2 p3 (0 : Int32))), .val (.int (F7 (2 : Int32))), .val (.int (F1006 p1 p2 p3 (0 : Int32))), .val (.int (F7 (1 : Int32))), .val (.int v54)] [(.int (F8 p1 p2 p3 (0 : Int32)))])) _
        refine XS.iloadN X57.here hx rfl (hb hby at_217) rfl ?_
        exact kt
      by_cases hc60 : (F8 p1 p2 p3 (0 : Int32)) = p1
      · obtain ⟨fs, hr, hrun, hended, hW, hsame⟩ := X57.leave (v := some (.int (1 : Int32))) (fun h => by rw [Bd.returns] at h; cases h)
        refine ⟨_, _, pre59 _ ?_, hrun, hended, _, _, rfl, ?_, ⟨_, rfl⟩, hW, hsame.mono (by decide) (by decide)⟩
        · show Steps p.tables e below (T57.setTop (mkF m 218 #[.val (.int p1), .val (.int p2), .val (.int p3), .val (.int p4), .val (.int p5), .val (.int p6), .val (.int (3 : Int32)), .val (.ref b28), .val (.int p3), .val (.int p2), .val (.int (F2006 p1 p2 p3 (0 : Int32))), .val (.int (F7 (2 : Int32))), .val (.int (F1006 p1 p2 p3 (0 : Int32))), .val (.int (F7 (1 : Int32))), .val (.int v54)] [(.int p1), (.int (F8 p1 p2 p3 (0 : Int32)))])) _
          refine XS.icmpNo X57.here hx rfl (hb hby at_218) rfl (teq hc60).2 ?_
          show Steps p.tables e below (T57.setTop (mkF m 221 #[.val (.int p1), .val (.int p2), .val (.int p3), .val (.int p4), .val (.int p5), .val (.int p6), .val (.int (3 : Int32)), .val (.ref b28), .val (.int p3), .val (.int p2), .val (.int (F2006 p1 p2 p3 (0 : Int32))), .val (.int (F7 (2 : Int32))), .val (.int (F1006 p1 p2 p3 (0 : Int32))), .val (.int (F7 (1 : Int32))), .val (.int v54)] [])) _
          refine XS.iconst X57.here hx rfl (hb hby at_221) ?_
          show Steps p.tables e below (T57.setTop (mkF m 222 #[.val (.int p1), .val (.int p2), .val (.int p3), .val (.int p4), .val (.int p5), .val (.int p6), .val (.int (3 : Int32)), .val (.ref b28), .val (.int p3), .val (.int p2), .val (.int (F2006 p1 p2 p3 (0 : Int32))), .val (.int (F7 (2 : Int32))), .val (.int (F1006 p1 p2 p3 (0 : Int32))), .val (.int (F7 (1 : Int32))), .val (.int v54)] [(.int (1 : Int32))])) _
          refine XS.goto X57.here hx rfl (pc0 := 222) (pc' := 226) rfl (hb hby at_222) (by decide) (by decide) ?_
          show Steps p.tables e below (T57.setTop (mkF m 226 #[.val (.int p1), .val (.int p2), .val (.int p3), .val (.int p4), .val (.int p5), .val (.int p6), .val (.int (3 : Int32)), .val (.ref b28), .val (.int p3), .val (.int p2), .val (.int (F2006 p1 p2 p3 (0 : Int32))), .val (.int (F7 (2 : Int32))), .val (.int (F1006 p1 p2 p3 (0 : Int32))), .val (.int (F7 (1 : Int32))), .val (.int v54)] [(.int (1 : Int32))])) _
          refine XS.istore X57.here hx rfl (hb hby at_226) rfl (l' := #[.val (.int p1), .val (.int p2), .val (.int p3), .val (.int p4), .val (.int p5), .val (.int p6), .val (.int (3 : Int32)), .val (.ref b28), .val (.int p3), .val (.int p2), .val (.int (F2006 p1 p2 p3 (0 : Int32))), .val (.int (F7 (2 : Int32))), .val (.int (F1006 p1 p2 p3 (0 : Int32))), .val (.int (F7 (1 : Int32))), .val (.int (1 : Int32))]) rfl ?_
          show Steps p.tables e below (T57.setTop (mkF m 228 #[.val (.int p1), .val (.int p2), .val (.int p3), .val (.int p4), .val (.int p5), .val (.int p6), .val (.int (3 : Int32)), .val (.ref b28), .val (.int p3), .val (.int p2), .val (.int (F2006 p1 p2 p3 (0 : Int32))), .val (.int (F7 (2 : Int32))), .val (.int (F1006 p1 p2 p3 (0 : Int32))), .val (.int (F7 (1 : Int32))), .val (.int (1 : Int32))] [])) _
          refine XS.iload X57.here hx rfl (hb hby at_228) rfl ?_
          show Steps p.tables e below (T57.setTop (mkF m 230 #[.val (.int p1), .val (.int p2), .val (.int p3), .val (.int p4), .val (.int p5), .val (.int p6), .val (.int (3 : Int32)), .val (.ref b28), .val (.int p3), .val (.int p2), .val (.int (F2006 p1 p2 p3 (0 : Int32))), .val (.int (F7 (2 : Int32))), .val (.int (F1006 p1 p2 p3 (0 : Int32))), .val (.int (F7 (1 : Int32))), .val (.int (1 : Int32))] [(.int (1 : Int32))])) _
          exact retN X57 hx (t := .boolean) Bd.returns (by simp) (hb hby at_230) hr
        · show Q0 Z p1 p2 p3 p4 p5 p6 h0 n0 _ T57.heap _
          rw [e57]
          exact ⟨rfl, N57⟩
      · exact (leaf_0_4 p1 p2 p3 p4 p5 p6 hk2 v54 hv54 hc56 hc60).elim
  · rw [hk2] at pre1
    obtain ⟨b61, g61⟩ : ∃ z, z = h0.size := ⟨_, rfl⟩
    obtain ⟨T61, h61, X61, e61, E61, A61, D61, -, st61⟩ := newO X0 hx hZ hown (hw _ (List.mem_of_getElem? (i := 0) rfl)) (hw _ (List.mem_of_getElem? (i := 1) rfl)) (hw _ (List.mem_of_getElem? (i := 2) rfl)) e0 (g := (mkF m 8 #[.val (.int p1), .val (.int p2), .val (.int p3), .val (.int p4), .val (.int p5), .val (.int p6), .val (.int (4 : Int32)), .unset, .unset, .unset, .unset, .unset, .unset, .unset, .unset] [])) rfl (hb hby at_8) (by decide) (by decide)
    rw [← g61] at A61 D61 st61
    have g_b61 : n0 ≤ b61 := Nat.le_trans Z0 (Nat.le_of_eq g61.symm)
    have F_values_b61 : Fld Z h61 b61 "com/example/krel/krel/saturation/IntList" "values" "[I" .null := D61 (Or.inl (hw _ (List.mem_of_getElem? (i := 11) rfl))) (ty := (.array .int)) (by decide)
    have F_size_b61 : Fld Z h61 b61 "com/example/krel/krel/saturation/IntList" "size" "I" (.int (0 : Int32)) := D61 (Or.inl (hw _ (List.mem_of_getElem? (i := 18) rfl))) (ty := .int) (by decide)
    have z63 : n0 ≤ h61.size := (Nat.le_trans Z0 E61.1)
    obtain ⟨_, _, ⟨T62, L62, k62, n62⟩, -, X62, ⟨Lc62, hQ62, l62, y62, z62⟩, st62⟩ := X61.specialBack hx (y := (⟨"com/example/krel/krel/saturation/IntList", "<init>", "()V"⟩ : MethodName)) rfl hown (mvT hZ (hw _ (List.mem_of_getElem? (i := 3) rfl))) (mvT hZ (hw _ (List.mem_of_getElem? (i := 4) rfl))) (mvT hZ (hw _ (List.mem_of_getElem? (i := 5) rfl))) (by decide) (backOf (W := 1) (rm1 l Z a0 hw [] b61 (.int (0 : Int32)) .null h61 n0 z63 A61 F_size_b61 F_values_b61 g_b61) hZ (hw _ (List.mem_of_getElem? (i := 5) rfl)) (hw _ (List.mem_of_getElem? (i := 2) rfl)) (by decide) (by decide)) (g := (mkF m 12 #[.val (.int p1), .val (.int p2), .val (.int p3), .val (.int p4), .val (.int p5), .val (.int p6), .val (.int (4 : Int32)), .unset, .unset, .unset, .unset, .unset, .unset, .unset, .unset] [(.ref b61), (.ref b61)])) rfl (by rw [hml]; rfl) (Steps.refl _) (a := b61) (argsL := []) (rest := [(.ref b61)]) (lenOf pd_0_0 rfl) rfl (by show 2 * 0 + _ ≤ _; exact Nat.le_of_eq rfl) (hb hby at_12) (fun _ _ => ⟨rfl, e61, (by decide : 1 + 1 ≤ _), (by decide : 2 + 4 ≤ _)⟩)
    dsimp only [Pt.U, Pt.locs, Pt.cells, Pt.slots] at X62 l62 y62 z62 st62 hQ62
    subst l62 y62 z62
    obtain ⟨b62_0, kk62_0, rfl, N62q, g_b62_0, hz_b62_0, K62, f62_0, f62_1, f62_2, f62_3⟩ := hQ62
    have ne_b61_b62_0 : b61 ≠ b62_0 := Nat.ne_of_lt (Nat.lt_of_lt_of_le A61.lt hz_b62_0)
    have N62 := Fr.app N0 N62q
    have z65 : n0 ≤ T62.heap.size := (Nat.le_trans z63 K62.1)
    obtain ⟨cq64, kq64, q64a, q64b, q64c⟩ := isOf hZ rfl f62_0
    obtain ⟨_, _, ⟨T64, L64, k64, n64⟩, -, X64, ⟨Lc64, hQ64, l64, y64, z64⟩, st64⟩ := X62.virtualBack hx (y := (⟨"com/example/krel/krel/saturation/IntList", "add", "(I)V"⟩ : MethodName)) (z := (⟨"com/example/krel/krel/saturation/IntList", "add", "(I)V"⟩ : MethodName)) hown (mvT hZ (hw _ (List.mem_of_getElem? (i := 12) rfl))) (mvT hZ (hw _ (List.mem_of_getElem? (i := 13) rfl))) (notFace_of_selects (args := #[]) (mvT hZ (hw _ (List.mem_of_getElem? (i := 15) rfl)))) (mvT hZ (hw _ (List.mem_of_getElem? (i := 15) rfl))) (mvT hZ (hw _ (List.mem_of_getElem? (i := 14) rfl))) (by decide) (backOf (W := 0) (rm3 l Z a0 hw [] b61 p1 b62_0 kk62_0 (0 : Int32) (0 : Int32) (0 : Int32) (0 : Int32) T62.heap n0 z65 f62_0 f62_1 f62_2 f62_3 g_b61 (Ne.symm ne_b61_b62_0) g_b62_0) hZ (hw _ (List.mem_of_getElem? (i := 16) rfl)) (hw _ (List.mem_of_getElem? (i := 2) rfl)) (by decide) (by decide)) q64a q64c (g := (mkF m 20 #[.val (.int p1), .val (.int p2), .val (.int p3), .val (.int p4), .val (.int p5), .val (.int p6), .val (.int (4 : Int32)), .val (.ref b61), .unset, .unset, .unset, .unset, .unset, .unset, .unset] [(.int p1), (.ref b61)])) rfl (by rw [hml]; rfl) (Steps.refl _) (argsL := [(.int p1)]) (rest := []) (lenOf pd_0_1 rfl) rfl (by show 2 * 0 + _ ≤ _; exact Nat.le_of_eq rfl) (hb hby at_20) (fun _ _ => ⟨rfl, rfl, (by decide : 2 + 0 ≤ _), (by decide : 6 + 0 ≤ _)⟩)
    dsimp only [Pt.U, Pt.locs, Pt.cells, Pt.slots] at X64 l64 y64 z64 st64 hQ64
    subst l64 y64 z64
    obtain ⟨rfl, N64q, K64, f64_0, f64_1, f64_2, f64_3⟩ := hQ64
    have N64 := Fr.app N62 N64q
    have z67 : n0 ≤ T64.heap.size := (Nat.le_trans z65 K64.1)
    obtain ⟨cq66, kq66, q66a, q66b, q66c⟩ := isOf hZ rfl f64_0
    obtain ⟨_, _, ⟨T66, L66, k66, n66⟩, -, X66, ⟨Lc66, hQ66, l66, y66, z66⟩, st66⟩ := X64.virtualBack hx (y := (⟨"com/example/krel/krel/saturation/IntList", "add", "(I)V"⟩ : MethodName)) (z := (⟨"com/example/krel/krel/saturation/IntList", "add", "(I)V"⟩ : MethodName)) hown (mvT hZ (hw _ (List.mem_of_getElem? (i := 12) rfl))) (mvT hZ (hw _ (List.mem_of_getElem? (i := 13) rfl))) (notFace_of_selects (args := #[]) (mvT hZ (hw _ (List.mem_of_getElem? (i := 15) rfl)))) (mvT hZ (hw _ (List.mem_of_getElem? (i := 15) rfl))) (mvT hZ (hw _ (List.mem_of_getElem? (i := 14) rfl))) (by decide) (backOf (W := 0) (rm1003 l Z a0 hw [] b61 p2 b62_0 kk62_0 p1 (0 : Int32) (0 : Int32) (0 : Int32) T64.heap n0 z67 f64_0 f64_1 f64_2 f64_3 g_b61 (Ne.symm ne_b61_b62_0) g_b62_0) hZ (hw _ (List.mem_of_getElem? (i := 16) rfl)) (hw _ (List.mem_of_getElem? (i := 2) rfl)) (by decide) (by decide)) q66a q66c (g := (mkF m 26 #[.val (.int p1), .val (.int p2), .val (.int p3), .val (.int p4), .val (.int p5), .val (.int p6), .val (.int (4 : Int32)), .val (.ref b61), .unset, .unset, .unset, .unset, .unset, .unset, .unset] [(.int p2), (.ref b61)])) rfl (by rw [hml]; rfl) (Steps.refl _) (argsL := [(.int p2)]) (rest := []) (lenOf pd_0_1 rfl) rfl (by show 2 * 0 + _ ≤ _; exact Nat.le_of_eq rfl) (hb hby at_26) (fun _ _ => ⟨rfl, rfl, (by decide : 2 + 0 ≤ _), (by decide : 6 + 0 ≤ _)⟩)
    dsimp only [Pt.U, Pt.locs, Pt.cells, Pt.slots] at X66 l66 y66 z66 st66 hQ66
    subst l66 y66 z66
    obtain ⟨rfl, N66q, K66, f66_0, f66_1, f66_2, f66_3⟩ := hQ66
    have N66 := Fr.app N64 N66q
    have z69 : n0 ≤ T66.heap.size := (Nat.le_trans z67 K66.1)
    obtain ⟨cq68, kq68, q68a, q68b, q68c⟩ := isOf hZ rfl f66_0
    obtain ⟨_, _, ⟨T68, L68, k68, n68⟩, -, X68, ⟨Lc68, hQ68, l68, y68, z68⟩, st68⟩ := X66.virtualBack hx (y := (⟨"com/example/krel/krel/saturation/IntList", "add", "(I)V"⟩ : MethodName)) (z := (⟨"com/example/krel/krel/saturation/IntList", "add", "(I)V"⟩ : MethodName)) hown (mvT hZ (hw _ (List.mem_of_getElem? (i := 12) rfl))) (mvT hZ (hw _ (List.mem_of_getElem? (i := 13) rfl))) (notFace_of_selects (args := #[]) (mvT hZ (hw _ (List.mem_of_getElem? (i := 15) rfl)))) (mvT hZ (hw _ (List.mem_of_getElem? (i := 15) rfl))) (mvT hZ (hw _ (List.mem_of_getElem? (i := 14) rfl))) (by decide) (backOf (W := 0) (rm2003 l Z a0 hw [] b61 p3 b62_0 kk62_0 p1 p2 (0 : Int32) (0 : Int32) T66.heap n0 z69 f66_0 f66_1 f66_2 f66_3 g_b61 (Ne.symm ne_b61_b62_0) g_b62_0) hZ (hw _ (List.mem_of_getElem? (i := 16) rfl)) (hw _ (List.mem_of_getElem? (i := 2) rfl)) (by decide) (by decide)) q68a q68c (g := (mkF m 38 #[.val (.int p1), .val (.int p2), .val (.int p3), .val (.int p4), .val (.int p5), .val (.int p6), .val (.int (4 : Int32)), .val (.ref b61), .unset, .unset, .unset, .unset, .unset, .unset, .unset] [(.int p3), (.ref b61)])) rfl (by rw [hml]; rfl) (Steps.refl _) (argsL := [(.int p3)]) (rest := []) (lenOf pd_0_1 rfl) rfl (by show 2 * 0 + _ ≤ _; exact Nat.le_of_eq rfl) (hb hby at_38) (fun _ _ => ⟨rfl, rfl, (by decide : 2 + 0 ≤ _), (by decide : 6 + 0 ≤ _)⟩)
    dsimp only [Pt.U, Pt.locs, Pt.cells, Pt.slots] at X68 l68 y68 z68 st68 hQ68
    subst l68 y68 z68
    obtain ⟨rfl, N68q, K68, f68_0, f68_1, f68_2, f68_3⟩ := hQ68
    have N68 := Fr.app N66 N68q
    have z71 : n0 ≤ T68.heap.size := (Nat.le_trans z69 K68.1)
    obtain ⟨cq70, kq70, q70a, q70b, q70c⟩ := isOf hZ rfl f68_0
    obtain ⟨_, _, ⟨T70, L70, k70, n70⟩, -, X70, ⟨Lc70, hQ70, l70, y70, z70⟩, st70⟩ := X68.virtualBack hx (y := (⟨"com/example/krel/krel/saturation/IntList", "add", "(I)V"⟩ : MethodName)) (z := (⟨"com/example/krel/krel/saturation/IntList", "add", "(I)V"⟩ : MethodName)) hown (mvT hZ (hw _ (List.mem_of_getElem? (i := 12) rfl))) (mvT hZ (hw _ (List.mem_of_getElem? (i := 13) rfl))) (notFace_of_selects (args := #[]) (mvT hZ (hw _ (List.mem_of_getElem? (i := 15) rfl)))) (mvT hZ (hw _ (List.mem_of_getElem? (i := 15) rfl))) (mvT hZ (hw _ (List.mem_of_getElem? (i := 14) rfl))) (by decide) (backOf (W := 0) (rm3003 l Z a0 hw [] b61 p4 b62_0 kk62_0 p1 p2 p3 (0 : Int32) T68.heap n0 z71 f68_0 f68_1 f68_2 f68_3 g_b61 (Ne.symm ne_b61_b62_0) g_b62_0) hZ (hw _ (List.mem_of_getElem? (i := 16) rfl)) (hw _ (List.mem_of_getElem? (i := 2) rfl)) (by decide) (by decide)) q70a q70c (g := (mkF m 50 #[.val (.int p1), .val (.int p2), .val (.int p3), .val (.int p4), .val (.int p5), .val (.int p6), .val (.int (4 : Int32)), .val (.ref b61), .unset, .unset, .unset, .unset, .unset, .unset, .unset] [(.int p4), (.ref b61)])) rfl (by rw [hml]; rfl) (Steps.refl _) (argsL := [(.int p4)]) (rest := []) (lenOf pd_0_1 rfl) rfl (by show 2 * 0 + _ ≤ _; exact Nat.le_of_eq rfl) (hb hby at_50) (fun _ _ => ⟨rfl, rfl, (by decide : 2 + 0 ≤ _), (by decide : 6 + 0 ≤ _)⟩)
    dsimp only [Pt.U, Pt.locs, Pt.cells, Pt.slots] at X70 l70 y70 z70 st70 hQ70
    subst l70 y70 z70
    obtain ⟨rfl, N70q, K70, f70_0, f70_1, f70_2, f70_3⟩ := hQ70
    have N70 := Fr.app N68 N70q
    have z73 : n0 ≤ T70.heap.size := (Nat.le_trans z71 K70.1)
    obtain ⟨cq72, kq72, q72a, q72b, q72c⟩ := isOf hZ rfl f70_0
    obtain ⟨_, _, ⟨T72, L72, k72, n72⟩, -, X72, ⟨Lc72, hQ72, l72, y72, z72⟩, st72⟩ := X70.virtualBack hx (y := (⟨"com/example/krel/krel/saturation/IntList", "pop", "()I"⟩ : MethodName)) (z := (⟨"com/example/krel/krel/saturation/IntList", "pop", "()I"⟩ : MethodName)) hown (mvT hZ (hw _ (List.mem_of_getElem? (i := 31) rfl))) (mvT hZ (hw _ (List.mem_of_getElem? (i := 32) rfl))) (notFace_of_selects (args := #[]) (mvT hZ (hw _ (List.mem_of_getElem? (i := 34) rfl)))) (mvT hZ (hw _ (List.mem_of_getElem? (i := 34) rfl))) (mvT hZ (hw _ (List.mem_of_getElem? (i := 33) rfl))) (by decide) (backOf (W := 0) (rm3006 l Z a0 hw [] b61 b62_0 kk62_0 p1 p2 p3 p4 T70.heap n0 z73 f70_0 f70_1 f70_2 f70_3 g_b61 (Ne.symm ne_b61_b62_0)) hZ (hw _ (List.mem_of_getElem? (i := 35) rfl)) (hw _ (List.mem_of_getElem? (i := 2) rfl)) (by decide) (by decide)) q72a q72c (g := (mkF m 135 #[.val (.int p1), .val (.int p2), .val (.int p3), .val (.int p4), .val (.int p5), .val (.int p6), .val (.int (4 : Int32)), .val (.ref b61), .val (.int p4), .val (.int p3), .unset, .unset, .unset, .unset, .unset] [(.ref b61)])) rfl (by rw [hml]; rfl) (Steps.refl _) (argsL := []) (rest := []) (lenOf pd_0_5 rfl) rfl (by show 2 * 0 + _ ≤ _; exact Nat.le_of_eq rfl) (hb hby at_135) (fun _ _ => ⟨rfl, rfl, (by decide : 2 + 0 ≤ _), (by decide : 6 + 0 ≤ _)⟩)
    dsimp only [Pt.U, Pt.locs, Pt.cells, Pt.slots] at X72 l72 y72 z72 st72 hQ72
    subst l72 y72 z72
    obtain ⟨rfl, N72q, K72, f72_0, f72_1, f72_2⟩ := hQ72
    have N72 := Fr.app N70 N72q
    have z75 : n0 ≤ T72.heap.size := (Nat.le_trans z73 K72.1)
    obtain ⟨cq74, kq74, q74a, q74b, q74c⟩ := isOf hZ rfl f72_0
    obtain ⟨_, _, ⟨T74, L74, k74, n74⟩, -, X74, ⟨Lc74, hQ74, l74, y74, z74⟩, st74⟩ := X72.virtualBack hx (y := (⟨"com/example/krel/krel/saturation/IntList", "size", "()I"⟩ : MethodName)) (z := (⟨"com/example/krel/krel/saturation/IntList", "size", "()I"⟩ : MethodName)) hown (mvT hZ (hw _ (List.mem_of_getElem? (i := 36) rfl))) (mvT hZ (hw _ (List.mem_of_getElem? (i := 37) rfl))) (notFace_of_selects (args := #[]) (mvT hZ (hw _ (List.mem_of_getElem? (i := 39) rfl)))) (mvT hZ (hw _ (List.mem_of_getElem? (i := 39) rfl))) (mvT hZ (hw _ (List.mem_of_getElem? (i := 38) rfl))) (by decide) (backOf (W := 0) (rm7 l Z a0 hw [] b61 (3 : Int32) T72.heap n0 z75 f72_1) hZ (hw _ (List.mem_of_getElem? (i := 40) rfl)) (hw _ (List.mem_of_getElem? (i := 2) rfl)) (by decide) (by decide)) q74a q74c (g := (mkF m 142 #[.val (.int p1), .val (.int p2), .val (.int p3), .val (.int p4), .val (.int p5), .val (.int p6), .val (.int (4 : Int32)), .val (.ref b61), .val (.int p4), .val (.int p3), .val (.int (F3006 p1 p2 p3 p4)), .unset, .unset, .unset, .unset] [(.ref b61)])) rfl (by rw [hml]; rfl) (Steps.refl _) (argsL := []) (rest := []) (lenOf pd_0_5 rfl) rfl (by show 2 * 0 + _ ≤ _; exact Nat.le_of_eq rfl) (hb hby at_142) (fun _ _ => ⟨rfl, rfl, (by decide : 2 + 0 ≤ _), (by decide : 6 + 0 ≤ _)⟩)
    dsimp only [Pt.U, Pt.locs, Pt.cells, Pt.slots] at X74 l74 y74 z74 st74 hQ74
    subst l74 y74 z74
    obtain ⟨rfl, N74q, e74⟩ := hQ74
    have N74 := Fr.app N72 N74q
    have q77 := (f70_3.keep K72 (ninS (Ne.symm ne_b61_b62_0) nin0))
    obtain ⟨cq76, kq76, q76a, q76b, q76c⟩ := isOf hZ e74 f72_0
    obtain ⟨_, _, ⟨T76, L76, k76, n76⟩, -, X76, ⟨Lc76, hQ76, l76, y76, z76⟩, st76⟩ := X74.virtualBack hx (y := (⟨"com/example/krel/krel/saturation/IntList", "pop", "()I"⟩ : MethodName)) (z := (⟨"com/example/krel/krel/saturation/IntList", "pop", "()I"⟩ : MethodName)) hown (mvT hZ (hw _ (List.mem_of_getElem? (i := 31) rfl))) (mvT hZ (hw _ (List.mem_of_getElem? (i := 32) rfl))) (notFace_of_selects (args := #[]) (mvT hZ (hw _ (List.mem_of_getElem? (i := 34) rfl)))) (mvT hZ (hw _ (List.mem_of_getElem? (i := 34) rfl))) (mvT hZ (hw _ (List.mem_of_getElem? (i := 33) rfl))) (by decide) (backOf (W := 0) (rm2006 l Z a0 hw [] b61 b62_0 kk62_0 p1 p2 p3 p4 T72.heap n0 z75 f72_0 f72_1 f72_2 q77 g_b61 (Ne.symm ne_b61_b62_0)) hZ (hw _ (List.mem_of_getElem? (i := 35) rfl)) (hw _ (List.mem_of_getElem? (i := 2) rfl)) (by decide) (by decide)) q76a q76c (g := (mkF m 149 #[.val (.int p1), .val (.int p2), .val (.int p3), .val (.int p4), .val (.int p5), .val (.int p6), .val (.int (4 : Int32)), .val (.ref b61), .val (.int p4), .val (.int p3), .val (.int (F3006 p1 p2 p3 p4)), .val (.int (F7 (3 : Int32))), .unset, .unset, .unset] [(.ref b61)])) rfl (by rw [hml]; rfl) (Steps.refl _) (argsL := []) (rest := []) (lenOf pd_0_5 rfl) rfl (by show 2 * 0 + _ ≤ _; exact Nat.le_of_eq rfl) (hb hby at_149) (fun _ _ => ⟨rfl, e74, (by decide : 2 + 0 ≤ _), (by decide : 6 + 0 ≤ _)⟩)
    dsimp only [Pt.U, Pt.locs, Pt.cells, Pt.slots] at X76 l76 y76 z76 st76 hQ76
    subst l76 y76 z76
    obtain ⟨rfl, N76q, K76, f76_0, f76_1, f76_2⟩ := hQ76
    have N76 := Fr.app N74 N76q
    have z79 : n0 ≤ T76.heap.size := (Nat.le_trans z75 K76.1)
    obtain ⟨cq78, kq78, q78a, q78b, q78c⟩ := isOf hZ rfl f76_0
    obtain ⟨_, _, ⟨T78, L78, k78, n78⟩, -, X78, ⟨Lc78, hQ78, l78, y78, z78⟩, st78⟩ := X76.virtualBack hx (y := (⟨"com/example/krel/krel/saturation/IntList", "size", "()I"⟩ : MethodName)) (z := (⟨"com/example/krel/krel/saturation/IntList", "size", "()I"⟩ : MethodName)) hown (mvT hZ (hw _ (List.mem_of_getElem? (i := 36) rfl))) (mvT hZ (hw _ (List.mem_of_getElem? (i := 37) rfl))) (notFace_of_selects (args := #[]) (mvT hZ (hw _ (List.mem_of_getElem? (i := 39) rfl)))) (mvT hZ (hw _ (List.mem_of_getElem? (i := 39) rfl))) (mvT hZ (hw _ (List.mem_of_getElem? (i := 38) rfl))) (by decide) (backOf (W := 0) (rm7 l Z a0 hw [] b61 (2 : Int32) T76.heap n0 z79 f76_1) hZ (hw _ (List.mem_of_getElem? (i := 40) rfl)) (hw _ (List.mem_of_getElem? (i := 2) rfl)) (by decide) (by decide)) q78a q78c (g := (mkF m 156 #[.val (.int p1), .val (.int p2), .val (.int p3), .val (.int p4), .val (.int p5), .val (.int p6), .val (.int (4 : Int32)), .val (.ref b61), .val (.int p4), .val (.int p3), .val (.int (F3006 p1 p2 p3 p4)), .val (.int (F7 (3 : Int32))), .val (.int (F2006 p1 p2 p3 p4)), .unset, .unset] [(.ref b61)])) rfl (by rw [hml]; rfl) (Steps.refl _) (argsL := []) (rest := []) (lenOf pd_0_5 rfl) rfl (by show 2 * 0 + _ ≤ _; exact Nat.le_of_eq rfl) (hb hby at_156) (fun _ _ => ⟨rfl, rfl, (by decide : 2 + 0 ≤ _), (by decide : 6 + 0 ≤ _)⟩)
    dsimp only [Pt.U, Pt.locs, Pt.cells, Pt.slots] at X78 l78 y78 z78 st78 hQ78
    subst l78 y78 z78
    obtain ⟨rfl, N78q, e78⟩ := hQ78
    have N78 := Fr.app N76 N78q
    have pre80 : ∀ t, Steps p.tables e below (T78.setTop (mkF m 165 #[.val (.int p1), .val (.int p2), .val (.int p3), .val (.int p4), .val (.int p5), .val (.int p6), .val (.int (4 : Int32)), .val (.ref b61), .val (.int p4), .val (.int p3), .val (.int (F3006 p1 p2 p3 p4)), .val (.int (F7 (3 : Int32))), .val (.int (F2006 p1 p2 p3 p4)), .val (.int (F7 (2 : Int32))), .unset] [(.int p4), (.int (F3006 p1 p2 p3 p4))])) t → Steps p.tables e below (s₁.setTop (entryFrame m #[(.int p1), (.int p2), (.int p3), (.int p4), (.int p5), (.int p6)] maxLocals)) t := fun t kt => by
      refine pre1 t ?_
      show Steps p.tables e below (s₁.setTop (mkF m 8 #[.val (.int p1), .val (.int p2), .val (.int p3), .val (.int p4), .val (.int p5), .val (.int p6), .val (.int (4 : Int32)), .unset, .unset, .unset, .unset, .unset, .unset, .unset, .unset] [])) _
      refine st61 _ ?_
      show Steps p.tables e below (T61.setTop (mkF m 11 #[.val (.int p1), .val (.int p2), .val (.int p3), .val (.int p4), .val (.int p5), .val (.int p6), .val (.int (4 : Int32)), .unset, .unset, .unset, .unset, .unset, .unset, .unset, .unset] [(.ref b61)])) _
      refine XS.dup X61.here hx rfl (hb hby at_11) rfl rfl ?_
      show Steps p.tables e below (T61.setTop (mkF m 12 #[.val (.int p1), .val (.int p2), .val (.int p3), .val (.int p4), .val (.int p5), .val (.int p6), .val (.int (4 : Int32)), .unset, .unset, .unset, .unset, .unset, .unset, .unset, .unset] [(.ref b61), (.ref b61)])) _
      refine st62.trans ?_
      show Steps p.tables e below (T62.setTop (mkF m 15 #[.val (.int p1), .val (.int p2), .val (.int p3), .val (.int p4), .val (.int p5), .val (.int p6), .val (.int (4 : Int32)), .unset, .unset, .unset, .unset, .unset, .unset, .unset, .unset] [(.ref b61)])) _
      refine XS.astore X62.here hx rfl (hb hby at_15) rfl rfl (l' := #[.val (.int p1), .val (.int p2), .val (.int p3), .val (.int p4), .val (.int p5), .val (.int p6), .val (.int (4 : Int32)), .val (.ref b61), .unset, .unset, .unset, .unset, .unset, .unset, .unset]) rfl ?_
      show Steps p.tables e below (T62.setTop (mkF m 17 #[.val (.int p1), .val (.int p2), .val (.int p3), .val (.int p4), .val (.int p5), .val (.int p6), .val (.int (4 : Int32)), .val (.ref b61), .unset, .unset, .unset, .unset, .unset, .unset, .unset] [])) _
      refine XS.aload X62.here hx rfl (hb hby at_17) rfl rfl ?_
      show Steps p.tables e below (T62.setTop (mkF m 19 #[.val (.int p1), .val (.int p2), .val (.int p3), .val (.int p4), .val (.int p5), .val (.int p6), .val (.int (4 : Int32)), .val (.ref b61), .unset, .unset, .unset, .unset, .unset, .unset, .unset] [(.ref b61)])) _
      refine XS.iloadN X62.here hx rfl (hb hby at_19) rfl ?_
      show Steps p.tables e below (T62.setTop (mkF m 20 #[.val (.int p1), .val (.int p2), .val (.int p3), .val (.int p4), .val (.int p5), .val (.int p6), .val (.int (4 : Int32)), .val (.ref b61), .unset, .unset, .unset, .unset, .unset, .unset, .unset] [(.int p1), (.ref b61)])) _
      refine st64.trans ?_
      show Steps p.tables e below (T64.setTop (mkF m 23 #[.val (.int p1), .val (.int p2), .val (.int p3), .val (.int p4), .val (.int p5), .val (.int p6), .val (.int (4 : Int32)), .val (.ref b61), .unset, .unset, .unset, .unset, .unset, .unset, .unset] [])) _
      refine XS.aload X64.here hx rfl (hb hby at_23) rfl rfl ?_
      show Steps p.tables e below (T64.setTop (mkF m 25 #[.val (.int p1), .val (.int p2), .val (.int p3), .val (.int p4), .val (.int p5), .val (.int p6), .val (.int (4 : Int32)), .val (.ref b61), .unset, .unset, .unset, .unset, .unset, .unset, .unset] [(.ref b61)])) _
      refine XS.iloadN X64.here hx rfl (hb hby at_25) rfl ?_
      show Steps p.tables e below (T64.setTop (mkF m 26 #[.val (.int p1), .val (.int p2), .val (.int p3), .val (.int p4), .val (.int p5), .val (.int p6), .val (.int (4 : Int32)), .val (.ref b61), .unset, .unset, .unset, .unset, .unset, .unset, .unset] [(.int p2), (.ref b61)])) _
      refine st66.trans ?_
      show Steps p.tables e below (T66.setTop (mkF m 29 #[.val (.int p1), .val (.int p2), .val (.int p3), .val (.int p4), .val (.int p5), .val (.int p6), .val (.int (4 : Int32)), .val (.ref b61), .unset, .unset, .unset, .unset, .unset, .unset, .unset] [])) _
      refine XS.iload X66.here hx rfl (hb hby at_29) rfl ?_
      show Steps p.tables e below (T66.setTop (mkF m 31 #[.val (.int p1), .val (.int p2), .val (.int p3), .val (.int p4), .val (.int p5), .val (.int p6), .val (.int (4 : Int32)), .val (.ref b61), .unset, .unset, .unset, .unset, .unset, .unset, .unset] [(.int (4 : Int32))])) _
      refine XS.iconst X66.here hx rfl (hb hby at_31) ?_
      show Steps p.tables e below (T66.setTop (mkF m 32 #[.val (.int p1), .val (.int p2), .val (.int p3), .val (.int p4), .val (.int p5), .val (.int p6), .val (.int (4 : Int32)), .val (.ref b61), .unset, .unset, .unset, .unset, .unset, .unset, .unset] [(.int (3 : Int32)), (.int (4 : Int32))])) _
      refine XS.icmpNo X66.here hx rfl (hb hby at_32) rfl (flt (by decide : ¬ ((4 : Int32) < (3 : Int32)))).1 ?_
      show Steps p.tables e below (T66.setTop (mkF m 35 #[.val (.int p1), .val (.int p2), .val (.int p3), .val (.int p4), .val (.int p5), .val (.int p6), .val (.int (4 : Int32)), .val (.ref b61), .unset, .unset, .unset, .unset, .unset, .unset, .unset] [])) _
      refine XS.aload X66.here hx rfl (hb hby at_35) rfl rfl ?_
      show Steps p.tables e below (T66.setTop (mkF m 37 #[.val (.int p1), .val (.int p2), .val (.int p3), .val (.int p4), .val (.int p5), .val (.int p6), .val (.int (4 : Int32)), .val (.ref b61), .unset, .unset, .unset, .unset, .unset, .unset, .unset] [(.ref b61)])) _
      refine XS.iloadN X66.here hx rfl (hb hby at_37) rfl ?_
      show Steps p.tables e below (T66.setTop (mkF m 38 #[.val (.int p1), .val (.int p2), .val (.int p3), .val (.int p4), .val (.int p5), .val (.int p6), .val (.int (4 : Int32)), .val (.ref b61), .unset, .unset, .unset, .unset, .unset, .unset, .unset] [(.int p3), (.ref b61)])) _
      refine st68.trans ?_
      show Steps p.tables e below (T68.setTop (mkF m 41 #[.val (.int p1), .val (.int p2), .val (.int p3), .val (.int p4), .val (.int p5), .val (.int p6), .val (.int (4 : Int32)), .val (.ref b61), .unset, .unset, .unset, .unset, .unset, .unset, .unset] [])) _
      refine XS.iload X68.here hx rfl (hb hby at_41) rfl ?_
      show Steps p.tables e below (T68.setTop (mkF m 43 #[.val (.int p1), .val (.int p2), .val (.int p3), .val (.int p4), .val (.int p5), .val (.int p6), .val (.int (4 : Int32)), .val (.ref b61), .unset, .unset, .unset, .unset, .unset, .unset, .unset] [(.int (4 : Int32))])) _
      refine XS.iconst X68.here hx rfl (hb hby at_43) ?_
      show Steps p.tables e below (T68.setTop (mkF m 44 #[.val (.int p1), .val (.int p2), .val (.int p3), .val (.int p4), .val (.int p5), .val (.int p6), .val (.int (4 : Int32)), .val (.ref b61), .unset, .unset, .unset, .unset, .unset, .unset, .unset] [(.int (4 : Int32)), (.int (4 : Int32))])) _
      refine XS.icmpNo X68.here hx rfl (hb hby at_44) rfl (flt (by decide : ¬ ((4 : Int32) < (4 : Int32)))).1 ?_
      show Steps p.tables e below (T68.setTop (mkF m 47 #[.val (.int p1), .val (.int p2), .val (.int p3), .val (.int p4), .val (.int p5), .val (.int p6), .val (.int (4 : Int32)), .val (.ref b61), .unset, .unset, .unset, .unset, .unset, .unset, .unset] [])) _
      refine XS.aload X68.here hx rfl (hb hby at_47) rfl rfl ?_
      show Steps p.tables e below (T68.setTop (mkF m 49 #[.val (.int p1), .val (.int p2), .val (.int p3), .val (.int p4), .val (.int p5), .val (.int p6), .val (.int (4 : Int32)), .val (.ref b61), .unset, .unset, .unset, .unset, .unset, .unset, .unset] [(.ref b61)])) _
      refine XS.iloadN X68.here hx rfl (hb hby at_49) rfl ?_
      show Steps p.tables e below (T68.setTop (mkF m 50 #[.val (.int p1), .val (.int p2), .val (.int p3), .val (.int p4), .val (.int p5), .val (.int p6), .val (.int (4 : Int32)), .val (.ref b61), .unset, .unset, .unset, .unset, .unset, .unset, .unset] [(.int p4), (.ref b61)])) _
      refine st70.trans ?_
      show Steps p.tables e below (T70.setTop (mkF m 53 #[.val (.int p1), .val (.int p2), .val (.int p3), .val (.int p4), .val (.int p5), .val (.int p6), .val (.int (4 : Int32)), .val (.ref b61), .unset, .unset, .unset, .unset, .unset, .unset, .unset] [])) _
      refine XS.iload X70.here hx rfl (hb hby at_53) rfl ?_
      show Steps p.tables e below (T70.setTop (mkF m 55 #[.val (.int p1), .val (.int p2), .val (.int p3), .val (.int p4), .val (.int p5), .val (.int p6), .val (.int (4 : Int32)), .val (.ref b61), .unset, .unset, .unset, .unset, .unset, .unset, .unset] [(.int (4 : Int32))])) _
      refine XS.iconst X70.here hx rfl (hb hby at_55) ?_
      show Steps p.tables e below (T70.setTop (mkF m 56 #[.val (.int p1), .val (.int p2), .val (.int p3), .val (.int p4), .val (.int p5), .val (.int p6), .val (.int (4 : Int32)), .val (.ref b61), .unset, .unset, .unset, .unset, .unset, .unset, .unset] [(.int (5 : Int32)), (.int (4 : Int32))])) _
      refine XS.icmpYes X70.here hx rfl (pc0 := 56) (pc' := 66) rfl (hb hby at_56) rfl (tlt (by decide : (4 : Int32) < (5 : Int32))).1 (by decide) (by decide) ?_
      show Steps p.tables e below (T70.setTop (mkF m 66 #[.val (.int p1), .val (.int p2), .val (.int p3), .val (.int p4), .val (.int p5), .val (.int p6), .val (.int (4 : Int32)), .val (.ref b61), .unset, .unset, .unset, .unset, .unset, .unset, .unset] [])) _
      refine XS.iload X70.here hx rfl (hb hby at_66) rfl ?_
      show Steps p.tables e below (T70.setTop (mkF m 68 #[.val (.int p1), .val (.int p2), .val (.int p3), .val (.int p4), .val (.int p5), .val (.int p6), .val (.int (4 : Int32)), .val (.ref b61), .unset, .unset, .unset, .unset, .unset, .unset, .unset] [(.int (4 : Int32))])) _
      refine XS.iconst X70.here hx rfl (hb hby at_68) ?_
      show Steps p.tables e below (T70.setTop (mkF m 69 #[.val (.int p1), .val (.int p2), .val (.int p3), .val (.int p4), .val (.int p5), .val (.int p6), .val (.int (4 : Int32)), .val (.ref b61), .unset, .unset, .unset, .unset, .unset, .unset, .unset] [(.int (2 : Int32)), (.int (4 : Int32))])) _
      refine XS.icmpYes X70.here hx rfl (pc0 := 69) (pc' := 76) rfl (hb hby at_69) rfl (feq (by decide : ¬ ((4 : Int32) = (2 : Int32)))).2 (by decide) (by decide) ?_
      show Steps p.tables e below (T70.setTop (mkF m 76 #[.val (.int p1), .val (.int p2), .val (.int p3), .val (.int p4), .val (.int p5), .val (.int p6), .val (.int (4 : Int32)), .val (.ref b61), .unset, .unset, .unset, .unset, .unset, .unset, .unset] [])) _
      refine XS.iload X70.here hx rfl (hb hby at_76) rfl ?_
      show Steps p.tables e below (T70.setTop (mkF m 78 #[.val (.int p1), .val (.int p2), .val (.int p3), .val (.int p4), .val (.int p5), .val (.int p6), .val (.int (4 : Int32)), .val (.ref b61), .unset, .unset, .unset, .unset, .unset, .unset, .unset] [(.int (4 : Int32))])) _
      refine XS.iconst X70.here hx rfl (hb hby at_78) ?_
      show Steps p.tables e below (T70.setTop (mkF m 79 #[.val (.int p1), .val (.int p2), .val (.int p3), .val (.int p4), .val (.int p5), .val (.int p6), .val (.int (4 : Int32)), .val (.ref b61), .unset, .unset, .unset, .unset, .unset, .unset, .unset] [(.int (3 : Int32)), (.int (4 : Int32))])) _
      refine XS.icmpYes X70.here hx rfl (pc0 := 79) (pc' := 86) rfl (hb hby at_79) rfl (feq (by decide : ¬ ((4 : Int32) = (3 : Int32)))).2 (by decide) (by decide) ?_
      show Steps p.tables e below (T70.setTop (mkF m 86 #[.val (.int p1), .val (.int p2), .val (.int p3), .val (.int p4), .val (.int p5), .val (.int p6), .val (.int (4 : Int32)), .val (.ref b61), .unset, .unset, .unset, .unset, .unset, .unset, .unset] [])) _
      refine XS.iload X70.here hx rfl (hb hby at_86) rfl ?_
      show Steps p.tables e below (T70.setTop (mkF m 88 #[.val (.int p1), .val (.int p2), .val (.int p3), .val (.int p4), .val (.int p5), .val (.int p6), .val (.int (4 : Int32)), .val (.ref b61), .unset, .unset, .unset, .unset, .unset, .unset, .unset] [(.int (4 : Int32))])) _
      refine XS.iconst X70.here hx rfl (hb hby at_88) ?_
      show Steps p.tables e below (T70.setTop (mkF m 89 #[.val (.int p1), .val (.int p2), .val (.int p3), .val (.int p4), .val (.int p5), .val (.int p6), .val (.int (4 : Int32)), .val (.ref b61), .unset, .unset, .unset, .unset, .unset, .unset, .unset] [(.int (4 : Int32)), (.int (4 : Int32))])) _
      refine XS.icmpNo X70.here hx rfl (hb hby at_89) rfl (teq (rfl : (4 : Int32) = (4 : Int32))).2 ?_
      show Steps p.tables e below (T70.setTop (mkF m 92 #[.val (.int p1), .val (.int p2), .val (.int p3), .val (.int p4), .val (.int p5), .val (.int p6), .val (.int (4 : Int32)), .val (.ref b61), .unset, .unset, .unset, .unset, .unset, .unset, .unset] [])) _
      refine XS.iloadN X70.here hx rfl (hb hby at_92) rfl ?_
      show Steps p.tables e below (T70.setTop (mkF m 93 #[.val (.int p1), .val (.int p2), .val (.int p3), .val (.int p4), .val (.int p5), .val (.int p6), .val (.int (4 : Int32)), .val (.ref b61), .unset, .unset, .unset, .unset, .unset, .unset, .unset] [(.int p4)])) _
      refine XS.goto X70.here hx rfl (pc0 := 93) (pc' := 98) rfl (hb hby at_93) (by decide) (by decide) ?_
      show Steps p.tables e below (T70.setTop (mkF m 98 #[.val (.int p1), .val (.int p2), .val (.int p3), .val (.int p4), .val (.int p5), .val (.int p6), .val (.int (4 : Int32)), .val (.ref b61), .unset, .unset, .unset, .unset, .unset, .unset, .unset] [(.int p4)])) _
      refine XS.istore X70.here hx rfl (hb hby at_98) rfl (l' := #[.val (.int p1), .val (.int p2), .val (.int p3), .val (.int p4), .val (.int p5), .val (.int p6), .val (.int (4 : Int32)), .val (.ref b61), .val (.int p4), .unset, .unset, .unset, .unset, .unset, .unset]) rfl ?_
      show Steps p.tables e below (T70.setTop (mkF m 100 #[.val (.int p1), .val (.int p2), .val (.int p3), .val (.int p4), .val (.int p5), .val (.int p6), .val (.int (4 : Int32)), .val (.ref b61), .val (.int p4), .unset, .unset, .unset, .unset, .unset, .unset] [])) _
      refine XS.iload X70.here hx rfl (hb hby at_100) rfl ?_
      show Steps p.tables e below (T70.setTop (mkF m 102 #[.val (.int p1), .val (.int p2), .val (.int p3), .val (.int p4), .val (.int p5), .val (.int p6), .val (.int (4 : Int32)), .val (.ref b61), .val (.int p4), .unset, .unset, .unset, .unset, .unset, .unset] [(.int (4 : Int32))])) _
      refine XS.iconst X70.here hx rfl (hb hby at_102) ?_
      show Steps p.tables e below (T70.setTop (mkF m 103 #[.val (.int p1), .val (.int p2), .val (.int p3), .val (.int p4), .val (.int p5), .val (.int p6), .val (.int (4 : Int32)), .val (.ref b61), .val (.int p4), .unset, .unset, .unset, .unset, .unset, .unset] [(.int (2 : Int32)), (.int (4 : Int32))])) _
      refine XS.icmpYes X70.here hx rfl (pc0 := 103) (pc' := 110) rfl (hb hby at_103) rfl (feq (by decide : ¬ ((4 : Int32) = (2 : Int32)))).2 (by decide) (by decide) ?_
      show Steps p.tables e below (T70.setTop (mkF m 110 #[.val (.int p1), .val (.int p2), .val (.int p3), .val (.int p4), .val (.int p5), .val (.int p6), .val (.int (4 : Int32)), .val (.ref b61), .val (.int p4), .unset, .unset, .unset, .unset, .unset, .unset] [])) _
      refine XS.iload X70.here hx rfl (hb hby at_110) rfl ?_
      show Steps p.tables e below (T70.setTop (mkF m 112 #[.val (.int p1), .val (.int p2), .val (.int p3), .val (.int p4), .val (.int p5), .val (.int p6), .val (.int (4 : Int32)), .val (.ref b61), .val (.int p4), .unset, .unset, .unset, .unset, .unset, .unset] [(.int (4 : Int32))])) _
      refine XS.iconst X70.here hx rfl (hb hby at_112) ?_
      show Steps p.tables e below (T70.setTop (mkF m 113 #[.val (.int p1), .val (.int p2), .val (.int p3), .val (.int p4), .val (.int p5), .val (.int p6), .val (.int (4 : Int32)), .val (.ref b61), .val (.int p4), .unset, .unset, .unset, .unset, .unset, .unset] [(.int (3 : Int32)), (.int (4 : Int32))])) _
      refine XS.icmpYes X70.here hx rfl (pc0 := 113) (pc' := 120) rfl (hb hby at_113) rfl (feq (by decide : ¬ ((4 : Int32) = (3 : Int32)))).2 (by decide) (by decide) ?_
      show Steps p.tables e below (T70.setTop (mkF m 120 #[.val (.int p1), .val (.int p2), .val (.int p3), .val (.int p4), .val (.int p5), .val (.int p6), .val (.int (4 : Int32)), .val (.ref b61), .val (.int p4), .unset, .unset, .unset, .unset, .unset, .unset] [])) _
      refine XS.iload X70.here hx rfl (hb hby at_120) rfl ?_
      show Steps p.tables e below (T70.setTop (mkF m 122 #[.val (.int p1), .val (.int p2), .val (.int p3), .val (.int p4), .val (.int p5), .val (.int p6), .val (.int (4 : Int32)), .val (.ref b61), .val (.int p4), .unset, .unset, .unset, .unset, .unset, .unset] [(.int (4 : Int32))])) _
      refine XS.iconst X70.here hx rfl (hb hby at_122) ?_
      show Steps p.tables e below (T70.setTop (mkF m 123 #[.val (.int p1), .val (.int p2), .val (.int p3), .val (.int p4), .val (.int p5), .val (.int p6), .val (.int (4 : Int32)), .val (.ref b61), .val (.int p4), .unset, .unset, .unset, .unset, .unset, .unset] [(.int (4 : Int32)), (.int (4 : Int32))])) _
      refine XS.icmpNo X70.here hx rfl (hb hby at_123) rfl (teq (rfl : (4 : Int32) = (4 : Int32))).2 ?_
      show Steps p.tables e below (T70.setTop (mkF m 126 #[.val (.int p1), .val (.int p2), .val (.int p3), .val (.int p4), .val (.int p5), .val (.int p6), .val (.int (4 : Int32)), .val (.ref b61), .val (.int p4), .unset, .unset, .unset, .unset, .unset, .unset] [])) _
      refine XS.iloadN X70.here hx rfl (hb hby at_126) rfl ?_
      show Steps p.tables e below (T70.setTop (mkF m 127 #[.val (.int p1), .val (.int p2), .val (.int p3), .val (.int p4), .val (.int p5), .val (.int p6), .val (.int (4 : Int32)), .val (.ref b61), .val (.int p4), .unset, .unset, .unset, .unset, .unset, .unset] [(.int p3)])) _
      refine XS.goto X70.here hx rfl (pc0 := 127) (pc' := 131) rfl (hb hby at_127) (by decide) (by decide) ?_
      show Steps p.tables e below (T70.setTop (mkF m 131 #[.val (.int p1), .val (.int p2), .val (.int p3), .val (.int p4), .val (.int p5), .val (.int p6), .val (.int (4 : Int32)), .val (.ref b61), .val (.int p4), .unset, .unset, .unset, .unset, .unset, .unset] [(.int p3)])) _
      refine XS.istore X70.here hx rfl (hb hby at_131) rfl (l' := #[.val (.int p1), .val (.int p2), .val (.int p3), .val (.int p4), .val (.int p5), .val (.int p6), .val (.int (4 : Int32)), .val (.ref b61), .val (.int p4), .val (.int p3), .unset, .unset, .unset, .unset, .unset]) rfl ?_
      show Steps p.tables e below (T70.setTop (mkF m 133 #[.val (.int p1), .val (.int p2), .val (.int p3), .val (.int p4), .val (.int p5), .val (.int p6), .val (.int (4 : Int32)), .val (.ref b61), .val (.int p4), .val (.int p3), .unset, .unset, .unset, .unset, .unset] [])) _
      refine XS.aload X70.here hx rfl (hb hby at_133) rfl rfl ?_
      show Steps p.tables e below (T70.setTop (mkF m 135 #[.val (.int p1), .val (.int p2), .val (.int p3), .val (.int p4), .val (.int p5), .val (.int p6), .val (.int (4 : Int32)), .val (.ref b61), .val (.int p4), .val (.int p3), .unset, .unset, .unset, .unset, .unset] [(.ref b61)])) _
      refine st72.trans ?_
      show Steps p.tables e below (T72.setTop (mkF m 138 #[.val (.int p1), .val (.int p2), .val (.int p3), .val (.int p4), .val (.int p5), .val (.int p6), .val (.int (4 : Int32)), .val (.ref b61), .val (.int p4), .val (.int p3), .unset, .unset, .unset, .unset, .unset] [(.int (F3006 p1 p2 p3 p4))])) _
      refine XS.istore X72.here hx rfl (hb hby at_138) rfl (l' := #[.val (.int p1), .val (.int p2), .val (.int p3), .val (.int p4), .val (.int p5), .val (.int p6), .val (.int (4 : Int32)), .val (.ref b61), .val (.int p4), .val (.int p3), .val (.int (F3006 p1 p2 p3 p4)), .unset, .unset, .unset, .unset]) rfl ?_
      show Steps p.tables e below (T72.setTop (mkF m 140 #[.val (.int p1), .val (.int p2), .val (.int p3), .val (.int p4), .val (.int p5), .val (.int p6), .val (.int (4 : Int32)), .val (.ref b61), .val (.int p4), .val (.int p3), .val (.int (F3006 p1 p2 p3 p4)), .unset, .unset, .unset, .unset] [])) _
      refine XS.aload X72.here hx rfl (hb hby at_140) rfl rfl ?_
      show Steps p.tables e below (T72.setTop (mkF m 142 #[.val (.int p1), .val (.int p2), .val (.int p3), .val (.int p4), .val (.int p5), .val (.int p6), .val (.int (4 : Int32)), .val (.ref b61), .val (.int p4), .val (.int p3), .val (.int (F3006 p1 p2 p3 p4)), .unset, .unset, .unset, .unset] [(.ref b61)])) _
      refine st74.trans ?_
      show Steps p.tables e below (T74.setTop (mkF m 145 #[.val (.int p1), .val (.int p2), .val (.int p3), .val (.int p4), .val (.int p5), .val (.int p6), .val (.int (4 : Int32)), .val (.ref b61), .val (.int p4), .val (.int p3), .val (.int (F3006 p1 p2 p3 p4)), .unset, .unset, .unset, .unset] [(.int (F7 (3 : Int32)))])) _
      refine XS.istore X74.here hx rfl (hb hby at_145) rfl (l' := #[.val (.int p1), .val (.int p2), .val (.int p3), .val (.int p4), .val (.int p5), .val (.int p6), .val (.int (4 : Int32)), .val (.ref b61), .val (.int p4), .val (.int p3), .val (.int (F3006 p1 p2 p3 p4)), .val (.int (F7 (3 : Int32))), .unset, .unset, .unset]) rfl ?_
      show Steps p.tables e below (T74.setTop (mkF m 147 #[.val (.int p1), .val (.int p2), .val (.int p3), .val (.int p4), .val (.int p5), .val (.int p6), .val (.int (4 : Int32)), .val (.ref b61), .val (.int p4), .val (.int p3), .val (.int (F3006 p1 p2 p3 p4)), .val (.int (F7 (3 : Int32))), .unset, .unset, .unset] [])) _
      refine XS.aload X74.here hx rfl (hb hby at_147) rfl rfl ?_
      show Steps p.tables e below (T74.setTop (mkF m 149 #[.val (.int p1), .val (.int p2), .val (.int p3), .val (.int p4), .val (.int p5), .val (.int p6), .val (.int (4 : Int32)), .val (.ref b61), .val (.int p4), .val (.int p3), .val (.int (F3006 p1 p2 p3 p4)), .val (.int (F7 (3 : Int32))), .unset, .unset, .unset] [(.ref b61)])) _
      refine st76.trans ?_
      show Steps p.tables e below (T76.setTop (mkF m 152 #[.val (.int p1), .val (.int p2), .val (.int p3), .val (.int p4), .val (.int p5), .val (.int p6), .val (.int (4 : Int32)), .val (.ref b61), .val (.int p4), .val (.int p3), .val (.int (F3006 p1 p2 p3 p4)), .val (.int (F7 (3 : Int32))), .unset, .unset, .unset] [(.int (F2006 p1 p2 p3 p4))])) _
      refine XS.istore X76.here hx rfl (hb hby at_152) rfl (l' := #[.val (.int p1), .val (.int p2), .val (.int p3), .val (.int p4), .val (.int p5), .val (.int p6), .val (.int (4 : Int32)), .val (.ref b61), .val (.int p4), .val (.int p3), .val (.int (F3006 p1 p2 p3 p4)), .val (.int (F7 (3 : Int32))), .val (.int (F2006 p1 p2 p3 p4)), .unset, .unset]) rfl ?_
      show Steps p.tables e below (T76.setTop (mkF m 154 #[.val (.int p1), .val (.int p2), .val (.int p3), .val (.int p4), .val (.int p5), .val (.int p6), .val (.int (4 : Int32)), .val (.ref b61), .val (.int p4), .val (.int p3), .val (.int (F3006 p1 p2 p3 p4)), .val (.int (F7 (3 : Int32))), .val (.int (F2006 p1 p2 p3 p4)), .unset, .unset] [])) _
      refine XS.aload X76.here hx rfl (hb hby at_154) rfl rfl ?_
      show Steps p.tables e below (T76.setTop (mkF m 156 #[.val (.int p1), .val (.int p2), .val (.int p3), .val (.int p4), .val (.int p5), .val (.int p6), .val (.int (4 : Int32)), .val (.ref b61), .val (.int p4), .val (.int p3), .val (.int (F3006 p1 p2 p3 p4)), .val (.int (F7 (3 : Int32))), .val (.int (F2006 p1 p2 p3 p4)), .unset, .unset] [(.ref b61)])) _
      refine st78.trans ?_
      show Steps p.tables e below (T78.setTop (mkF m 159 #[.val (.int p1), .val (.int p2), .val (.int p3), .val (.int p4), .val (.int p5), .val (.int p6), .val (.int (4 : Int32)), .val (.ref b61), .val (.int p4), .val (.int p3), .val (.int (F3006 p1 p2 p3 p4)), .val (.int (F7 (3 : Int32))), .val (.int (F2006 p1 p2 p3 p4)), .unset, .unset] [(.int (F7 (2 : Int32)))])) _
      refine XS.istore X78.here hx rfl (hb hby at_159) rfl (l' := #[.val (.int p1), .val (.int p2), .val (.int p3), .val (.int p4), .val (.int p5), .val (.int p6), .val (.int (4 : Int32)), .val (.ref b61), .val (.int p4), .val (.int p3), .val (.int (F3006 p1 p2 p3 p4)), .val (.int (F7 (3 : Int32))), .val (.int (F2006 p1 p2 p3 p4)), .val (.int (F7 (2 : Int32))), .unset]) rfl ?_
      show Steps p.tables e below (T78.setTop (mkF m 161 #[.val (.int p1), .val (.int p2), .val (.int p3), .val (.int p4), .val (.int p5), .val (.int p6), .val (.int (4 : Int32)), .val (.ref b61), .val (.int p4), .val (.int p3), .val (.int (F3006 p1 p2 p3 p4)), .val (.int (F7 (3 : Int32))), .val (.int (F2006 p1 p2 p3 p4)), .val (.int (F7 (2 : Int32))), .unset] [])) _
      refine XS.iload X78.here hx rfl (hb hby at_161) rfl ?_
      show Steps p.tables e below (T78.setTop (mkF m 163 #[.val (.int p1), .val (.int p2), .val (.int p3), .val (.int p4), .val (.int p5), .val (.int p6), .val (.int (4 : Int32)), .val (.ref b61), .val (.int p4), .val (.int p3), .val (.int (F3006 p1 p2 p3 p4)), .val (.int (F7 (3 : Int32))), .val (.int (F2006 p1 p2 p3 p4)), .val (.int (F7 (2 : Int32))), .unset] [(.int (F3006 p1 p2 p3 p4))])) _
      refine XS.iload X78.here hx rfl (hb hby at_163) rfl ?_
      exact kt
    have pre88 : ∀ t, Steps p.tables e below (T78.setTop (mkF m 198 #[.val (.int p1), .val (.int p2), .val (.int p3), .val (.int p4), .val (.int p5), .val (.int p6), .val (.int (4 : Int32)), .val (.ref b61), .val (.int p4), .val (.int p3), .val (.int (F3006 p1 p2 p3 p4)), .val (.int (F7 (3 : Int32))), .val (.int (F2006 p1 p2 p3 p4)), .val (.int (F7 (2 : Int32))), .unset] [(.int (if (F3006 p1 p2 p3 p4) = p4 then (if (F7 (3 : Int32)) = (3 : Int32) then (if (F2006 p1 p2 p3 p4) = p3 then (if (F7 (2 : Int32)) = (2 : Int32) then (1 : Int32) else (0 : Int32)) else (0 : Int32)) else (0 : Int32)) else (0 : Int32)))])) t → Steps p.tables e below (s₁.setTop (entryFrame m #[(.int p1), (.int p2), (.int p3), (.int p4), (.int p5), (.int p6)] maxLocals)) t := by
      by_cases hc81 : (F3006 p1 p2 p3 p4) = p4
      · have pre82 : ∀ t, Steps p.tables e below (T78.setTop (mkF m 174 #[.val (.int p1), .val (.int p2), .val (.int p3), .val (.int p4), .val (.int p5), .val (.int p6), .val (.int (4 : Int32)), .val (.ref b61), .val (.int p4), .val (.int p3), .val (.int (F3006 p1 p2 p3 p4)), .val (.int (F7 (3 : Int32))), .val (.int (F2006 p1 p2 p3 p4)), .val (.int (F7 (2 : Int32))), .unset] [(.int (3 : Int32)), (.int (F7 (3 : Int32)))])) t → Steps p.tables e below (s₁.setTop (entryFrame m #[(.int p1), (.int p2), (.int p3), (.int p4), (.int p5), (.int p6)] maxLocals)) t := fun t kt => by
          refine pre80 t ?_
          show Steps p.tables e below (T78.setTop (mkF m 165 #[.val (.int p1), .val (.int p2), .val (.int p3), .val (.int p4), .val (.int p5), .val (.int p6), .val (.int (4 : Int32)), .val (.ref b61), .val (.int p4), .val (.int p3), .val (.int (F3006 p1 p2 p3 p4)), .val (.int (F7 (3 : Int32))), .val (.int (F2006 p1 p2 p3 p4)), .val (.int (F7 (2 : Int32))), .unset] [(.int p4), (.int (F3006 p1 p2 p3 p4))])) _
          refine XS.icmpNo X78.here hx rfl (hb hby at_165) rfl (teq hc81).2 ?_
          show Steps p.tables e below (T78.setTop (mkF m 168 #[.val (.int p1), .val (.int p2), .val (.int p3), .val (.int p4), .val (.int p5), .val (.int p6), .val (.int (4 : Int32)), .val (.ref b61), .val (.int p4), .val (.int p3), .val (.int (F3006 p1 p2 p3 p4)), .val (.int (F7 (3 : Int32))), .val (.int (F2006 p1 p2 p3 p4)), .val (.int (F7 (2 : Int32))), .unset] [])) _
          refine XS.iload X78.here hx rfl (hb hby at_168) rfl ?_
          show Steps p.tables e below (T78.setTop (mkF m 170 #[.val (.int p1), .val (.int p2), .val (.int p3), .val (.int p4), .val (.int p5), .val (.int p6), .val (.int (4 : Int32)), .val (.ref b61), .val (.int p4), .val (.int p3), .val (.int (F3006 p1 p2 p3 p4)), .val (.int (F7 (3 : Int32))), .val (.int (F2006 p1 p2 p3 p4)), .val (.int (F7 (2 : Int32))), .unset] [(.int (F7 (3 : Int32)))])) _
          refine XS.iload X78.here hx rfl (hb hby at_170) rfl ?_
          show Steps p.tables e below (T78.setTop (mkF m 172 #[.val (.int p1), .val (.int p2), .val (.int p3), .val (.int p4), .val (.int p5), .val (.int p6), .val (.int (4 : Int32)), .val (.ref b61), .val (.int p4), .val (.int p3), .val (.int (F3006 p1 p2 p3 p4)), .val (.int (F7 (3 : Int32))), .val (.int (F2006 p1 p2 p3 p4)), .val (.int (F7 (2 : Int32))), .unset] [(.int (4 : Int32)), (.int (F7 (3 : Int32)))])) _
          refine XS.iconst X78.here hx rfl (hb hby at_172) ?_
          show Steps p.tables e below (T78.setTop (mkF m 173 #[.val (.int p1), .val (.int p2), .val (.int p3), .val (.int p4), .val (.int p5), .val (.int p6), .val (.int (4 : Int32)), .val (.ref b61), .val (.int p4), .val (.int p3), .val (.int (F3006 p1 p2 p3 p4)), .val (.int (F7 (3 : Int32))), .val (.int (F2006 p1 p2 p3 p4)), .val (.int (F7 (2 : Int32))), .unset] [(.int (1 : Int32)), (.int (4 : Int32)), (.int (F7 (3 : Int32)))])) _
          refine XS.isub X78.here hx rfl (hb hby at_173) rfl ?_
          exact kt
        by_cases hc83 : (F7 (3 : Int32)) = (3 : Int32)
        · have pre84 : ∀ t, Steps p.tables e below (T78.setTop (mkF m 181 #[.val (.int p1), .val (.int p2), .val (.int p3), .val (.int p4), .val (.int p5), .val (.int p6), .val (.int (4 : Int32)), .val (.ref b61), .val (.int p4), .val (.int p3), .val (.int (F3006 p1 p2 p3 p4)), .val (.int (F7 (3 : Int32))), .val (.int (F2006 p1 p2 p3 p4)), .val (.int (F7 (2 : Int32))), .unset] [(.int p3), (.int (F2006 p1 p2 p3 p4))])) t → Steps p.tables e below (s₁.setTop (entryFrame m #[(.int p1), (.int p2), (.int p3), (.int p4), (.int p5), (.int p6)] maxLocals)) t := fun t kt => by
            refine pre82 t ?_
            show Steps p.tables e below (T78.setTop (mkF m 174 #[.val (.int p1), .val (.int p2), .val (.int p3), .val (.int p4), .val (.int p5), .val (.int p6), .val (.int (4 : Int32)), .val (.ref b61), .val (.int p4), .val (.int p3), .val (.int (F3006 p1 p2 p3 p4)), .val (.int (F7 (3 : Int32))), .val (.int (F2006 p1 p2 p3 p4)), .val (.int (F7 (2 : Int32))), .unset] [(.int (3 : Int32)), (.int (F7 (3 : Int32)))])) _
            refine XS.icmpNo X78.here hx rfl (hb hby at_174) rfl (teq hc83).2 ?_
            show Steps p.tables e below (T78.setTop (mkF m 177 #[.val (.int p1), .val (.int p2), .val (.int p3), .val (.int p4), .val (.int p5), .val (.int p6), .val (.int (4 : Int32)), .val (.ref b61), .val (.int p4), .val (.int p3), .val (.int (F3006 p1 p2 p3 p4)), .val (.int (F7 (3 : Int32))), .val (.int (F2006 p1 p2 p3 p4)), .val (.int (F7 (2 : Int32))), .unset] [])) _
            refine XS.iload X78.here hx rfl (hb hby at_177) rfl ?_
            show Steps p.tables e below (T78.setTop (mkF m 179 #[.val (.int p1), .val (.int p2), .val (.int p3), .val (.int p4), .val (.int p5), .val (.int p6), .val (.int (4 : Int32)), .val (.ref b61), .val (.int p4), .val (.int p3), .val (.int (F3006 p1 p2 p3 p4)), .val (.int (F7 (3 : Int32))), .val (.int (F2006 p1 p2 p3 p4)), .val (.int (F7 (2 : Int32))), .unset] [(.int (F2006 p1 p2 p3 p4))])) _
            refine XS.iload X78.here hx rfl (hb hby at_179) rfl ?_
            exact kt
          by_cases hc85 : (F2006 p1 p2 p3 p4) = p3
          · have pre86 : ∀ t, Steps p.tables e below (T78.setTop (mkF m 190 #[.val (.int p1), .val (.int p2), .val (.int p3), .val (.int p4), .val (.int p5), .val (.int p6), .val (.int (4 : Int32)), .val (.ref b61), .val (.int p4), .val (.int p3), .val (.int (F3006 p1 p2 p3 p4)), .val (.int (F7 (3 : Int32))), .val (.int (F2006 p1 p2 p3 p4)), .val (.int (F7 (2 : Int32))), .unset] [(.int (2 : Int32)), (.int (F7 (2 : Int32)))])) t → Steps p.tables e below (s₁.setTop (entryFrame m #[(.int p1), (.int p2), (.int p3), (.int p4), (.int p5), (.int p6)] maxLocals)) t := fun t kt => by
              refine pre84 t ?_
              show Steps p.tables e below (T78.setTop (mkF m 181 #[.val (.int p1), .val (.int p2), .val (.int p3), .val (.int p4), .val (.int p5), .val (.int p6), .val (.int (4 : Int32)), .val (.ref b61), .val (.int p4), .val (.int p3), .val (.int (F3006 p1 p2 p3 p4)), .val (.int (F7 (3 : Int32))), .val (.int (F2006 p1 p2 p3 p4)), .val (.int (F7 (2 : Int32))), .unset] [(.int p3), (.int (F2006 p1 p2 p3 p4))])) _
              refine XS.icmpNo X78.here hx rfl (hb hby at_181) rfl (teq hc85).2 ?_
              show Steps p.tables e below (T78.setTop (mkF m 184 #[.val (.int p1), .val (.int p2), .val (.int p3), .val (.int p4), .val (.int p5), .val (.int p6), .val (.int (4 : Int32)), .val (.ref b61), .val (.int p4), .val (.int p3), .val (.int (F3006 p1 p2 p3 p4)), .val (.int (F7 (3 : Int32))), .val (.int (F2006 p1 p2 p3 p4)), .val (.int (F7 (2 : Int32))), .unset] [])) _
              refine XS.iload X78.here hx rfl (hb hby at_184) rfl ?_
              show Steps p.tables e below (T78.setTop (mkF m 186 #[.val (.int p1), .val (.int p2), .val (.int p3), .val (.int p4), .val (.int p5), .val (.int p6), .val (.int (4 : Int32)), .val (.ref b61), .val (.int p4), .val (.int p3), .val (.int (F3006 p1 p2 p3 p4)), .val (.int (F7 (3 : Int32))), .val (.int (F2006 p1 p2 p3 p4)), .val (.int (F7 (2 : Int32))), .unset] [(.int (F7 (2 : Int32)))])) _
              refine XS.iload X78.here hx rfl (hb hby at_186) rfl ?_
              show Steps p.tables e below (T78.setTop (mkF m 188 #[.val (.int p1), .val (.int p2), .val (.int p3), .val (.int p4), .val (.int p5), .val (.int p6), .val (.int (4 : Int32)), .val (.ref b61), .val (.int p4), .val (.int p3), .val (.int (F3006 p1 p2 p3 p4)), .val (.int (F7 (3 : Int32))), .val (.int (F2006 p1 p2 p3 p4)), .val (.int (F7 (2 : Int32))), .unset] [(.int (4 : Int32)), (.int (F7 (2 : Int32)))])) _
              refine XS.iconst X78.here hx rfl (hb hby at_188) ?_
              show Steps p.tables e below (T78.setTop (mkF m 189 #[.val (.int p1), .val (.int p2), .val (.int p3), .val (.int p4), .val (.int p5), .val (.int p6), .val (.int (4 : Int32)), .val (.ref b61), .val (.int p4), .val (.int p3), .val (.int (F3006 p1 p2 p3 p4)), .val (.int (F7 (3 : Int32))), .val (.int (F2006 p1 p2 p3 p4)), .val (.int (F7 (2 : Int32))), .unset] [(.int (2 : Int32)), (.int (4 : Int32)), (.int (F7 (2 : Int32)))])) _
              refine XS.isub X78.here hx rfl (hb hby at_189) rfl ?_
              exact kt
            by_cases hc87 : (F7 (2 : Int32)) = (2 : Int32)
            · refine fun t kt => pre86 t ?_
              repeat rw [if_pos hc81] at kt
              repeat rw [if_pos hc83] at kt
              repeat rw [if_pos hc85] at kt
              repeat rw [if_pos hc87] at kt
              show Steps p.tables e below (T78.setTop (mkF m 190 #[.val (.int p1), .val (.int p2), .val (.int p3), .val (.int p4), .val (.int p5), .val (.int p6), .val (.int (4 : Int32)), .val (.ref b61), .val (.int p4), .val (.int p3), .val (.int (F3006 p1 p2 p3 p4)), .val (.int (F7 (3 : Int32))), .val (.int (F2006 p1 p2 p3 p4)), .val (.int (F7 (2 : Int32))), .unset] [(.int (2 : Int32)), (.int (F7 (2 : Int32)))])) _
              refine XS.icmpNo X78.here hx rfl (hb hby at_190) rfl (teq hc87).2 ?_
              show Steps p.tables e below (T78.setTop (mkF m 193 #[.val (.int p1), .val (.int p2), .val (.int p3), .val (.int p4), .val (.int p5), .val (.int p6), .val (.int (4 : Int32)), .val (.ref b61), .val (.int p4), .val (.int p3), .val (.int (F3006 p1 p2 p3 p4)), .val (.int (F7 (3 : Int32))), .val (.int (F2006 p1 p2 p3 p4)), .val (.int (F7 (2 : Int32))), .unset] [])) _
              refine XS.iconst X78.here hx rfl (hb hby at_193) ?_
              show Steps p.tables e below (T78.setTop (mkF m 194 #[.val (.int p1), .val (.int p2), .val (.int p3), .val (.int p4), .val (.int p5), .val (.int p6), .val (.int (4 : Int32)), .val (.ref b61), .val (.int p4), .val (.int p3), .val (.int (F3006 p1 p2 p3 p4)), .val (.int (F7 (3 : Int32))), .val (.int (F2006 p1 p2 p3 p4)), .val (.int (F7 (2 : Int32))), .unset] [(.int (1 : Int32))])) _
              refine XS.goto X78.here hx rfl (pc0 := 194) (pc' := 198) rfl (hb hby at_194) (by decide) (by decide) ?_
              exact kt
            · refine fun t kt => pre86 t ?_
              repeat rw [if_pos hc81] at kt
              repeat rw [if_pos hc83] at kt
              repeat rw [if_pos hc85] at kt
              repeat rw [if_neg hc87] at kt
              show Steps p.tables e below (T78.setTop (mkF m 190 #[.val (.int p1), .val (.int p2), .val (.int p3), .val (.int p4), .val (.int p5), .val (.int p6), .val (.int (4 : Int32)), .val (.ref b61), .val (.int p4), .val (.int p3), .val (.int (F3006 p1 p2 p3 p4)), .val (.int (F7 (3 : Int32))), .val (.int (F2006 p1 p2 p3 p4)), .val (.int (F7 (2 : Int32))), .unset] [(.int (2 : Int32)), (.int (F7 (2 : Int32)))])) _
              refine XS.icmpYes X78.here hx rfl (pc0 := 190) (pc' := 197) rfl (hb hby at_190) rfl (feq hc87).2 (by decide) (by decide) ?_
              show Steps p.tables e below (T78.setTop (mkF m 197 #[.val (.int p1), .val (.int p2), .val (.int p3), .val (.int p4), .val (.int p5), .val (.int p6), .val (.int (4 : Int32)), .val (.ref b61), .val (.int p4), .val (.int p3), .val (.int (F3006 p1 p2 p3 p4)), .val (.int (F7 (3 : Int32))), .val (.int (F2006 p1 p2 p3 p4)), .val (.int (F7 (2 : Int32))), .unset] [])) _
              refine XS.iconst X78.here hx rfl (hb hby at_197) ?_
              exact kt
          · refine fun t kt => pre84 t ?_
            repeat rw [if_pos hc81] at kt
            repeat rw [if_pos hc83] at kt
            repeat rw [if_neg hc85] at kt
            show Steps p.tables e below (T78.setTop (mkF m 181 #[.val (.int p1), .val (.int p2), .val (.int p3), .val (.int p4), .val (.int p5), .val (.int p6), .val (.int (4 : Int32)), .val (.ref b61), .val (.int p4), .val (.int p3), .val (.int (F3006 p1 p2 p3 p4)), .val (.int (F7 (3 : Int32))), .val (.int (F2006 p1 p2 p3 p4)), .val (.int (F7 (2 : Int32))), .unset] [(.int p3), (.int (F2006 p1 p2 p3 p4))])) _
            refine XS.icmpYes X78.here hx rfl (pc0 := 181) (pc' := 197) rfl (hb hby at_181) rfl (feq hc85).2 (by decide) (by decide) ?_
            show Steps p.tables e below (T78.setTop (mkF m 197 #[.val (.int p1), .val (.int p2), .val (.int p3), .val (.int p4), .val (.int p5), .val (.int p6), .val (.int (4 : Int32)), .val (.ref b61), .val (.int p4), .val (.int p3), .val (.int (F3006 p1 p2 p3 p4)), .val (.int (F7 (3 : Int32))), .val (.int (F2006 p1 p2 p3 p4)), .val (.int (F7 (2 : Int32))), .unset] [])) _
            refine XS.iconst X78.here hx rfl (hb hby at_197) ?_
            exact kt
        · refine fun t kt => pre82 t ?_
          repeat rw [if_pos hc81] at kt
          repeat rw [if_neg hc83] at kt
          show Steps p.tables e below (T78.setTop (mkF m 174 #[.val (.int p1), .val (.int p2), .val (.int p3), .val (.int p4), .val (.int p5), .val (.int p6), .val (.int (4 : Int32)), .val (.ref b61), .val (.int p4), .val (.int p3), .val (.int (F3006 p1 p2 p3 p4)), .val (.int (F7 (3 : Int32))), .val (.int (F2006 p1 p2 p3 p4)), .val (.int (F7 (2 : Int32))), .unset] [(.int (3 : Int32)), (.int (F7 (3 : Int32)))])) _
          refine XS.icmpYes X78.here hx rfl (pc0 := 174) (pc' := 197) rfl (hb hby at_174) rfl (feq hc83).2 (by decide) (by decide) ?_
          show Steps p.tables e below (T78.setTop (mkF m 197 #[.val (.int p1), .val (.int p2), .val (.int p3), .val (.int p4), .val (.int p5), .val (.int p6), .val (.int (4 : Int32)), .val (.ref b61), .val (.int p4), .val (.int p3), .val (.int (F3006 p1 p2 p3 p4)), .val (.int (F7 (3 : Int32))), .val (.int (F2006 p1 p2 p3 p4)), .val (.int (F7 (2 : Int32))), .unset] [])) _
          refine XS.iconst X78.here hx rfl (hb hby at_197) ?_
          exact kt
      · refine fun t kt => pre80 t ?_
        repeat rw [if_neg hc81] at kt
        show Steps p.tables e below (T78.setTop (mkF m 165 #[.val (.int p1), .val (.int p2), .val (.int p3), .val (.int p4), .val (.int p5), .val (.int p6), .val (.int (4 : Int32)), .val (.ref b61), .val (.int p4), .val (.int p3), .val (.int (F3006 p1 p2 p3 p4)), .val (.int (F7 (3 : Int32))), .val (.int (F2006 p1 p2 p3 p4)), .val (.int (F7 (2 : Int32))), .unset] [(.int p4), (.int (F3006 p1 p2 p3 p4))])) _
        refine XS.icmpYes X78.here hx rfl (pc0 := 165) (pc' := 197) rfl (hb hby at_165) rfl (feq hc81).2 (by decide) (by decide) ?_
        show Steps p.tables e below (T78.setTop (mkF m 197 #[.val (.int p1), .val (.int p2), .val (.int p3), .val (.int p4), .val (.int p5), .val (.int p6), .val (.int (4 : Int32)), .val (.ref b61), .val (.int p4), .val (.int p3), .val (.int (F3006 p1 p2 p3 p4)), .val (.int (F7 (3 : Int32))), .val (.int (F2006 p1 p2 p3 p4)), .val (.int (F7 (2 : Int32))), .unset] [])) _
        refine XS.iconst X78.here hx rfl (hb hby at_197) ?_
        exact kt
    obtain ⟨v89, hv89⟩ : ∃ z : Int32, z = (if (F3006 p1 p2 p3 p4) = p4 then (if (F7 (3 : Int32)) = (3 : Int32) then (if (F2006 p1 p2 p3 p4) = p3 then (if (F7 (2 : Int32)) = (2 : Int32) then (1 : Int32) else (0 : Int32)) else (0 : Int32)) else (0 : Int32)) else (0 : Int32)) := ⟨_, rfl⟩
    rw [← hv89] at pre88
    have pre90 : ∀ t, Steps p.tables e below (T78.setTop (mkF m 208 #[.val (.int p1), .val (.int p2), .val (.int p3), .val (.int p4), .val (.int p5), .val (.int p6), .val (.int (4 : Int32)), .val (.ref b61), .val (.int p4), .val (.int p3), .val (.int (F3006 p1 p2 p3 p4)), .val (.int (F7 (3 : Int32))), .val (.int (F2006 p1 p2 p3 p4)), .val (.int (F7 (2 : Int32))), .val (.int v89)] [(.int v89)])) t → Steps p.tables e below (s₁.setTop (entryFrame m #[(.int p1), (.int p2), (.int p3), (.int p4), (.int p5), (.int p6)] maxLocals)) t := fun t kt => by
      refine pre88 t ?_
      show Steps p.tables e below (T78.setTop (mkF m 198 #[.val (.int p1), .val (.int p2), .val (.int p3), .val (.int p4), .val (.int p5), .val (.int p6), .val (.int (4 : Int32)), .val (.ref b61), .val (.int p4), .val (.int p3), .val (.int (F3006 p1 p2 p3 p4)), .val (.int (F7 (3 : Int32))), .val (.int (F2006 p1 p2 p3 p4)), .val (.int (F7 (2 : Int32))), .unset] [(.int v89)])) _
      refine XS.istore X78.here hx rfl (hb hby at_198) rfl (l' := #[.val (.int p1), .val (.int p2), .val (.int p3), .val (.int p4), .val (.int p5), .val (.int p6), .val (.int (4 : Int32)), .val (.ref b61), .val (.int p4), .val (.int p3), .val (.int (F3006 p1 p2 p3 p4)), .val (.int (F7 (3 : Int32))), .val (.int (F2006 p1 p2 p3 p4)), .val (.int (F7 (2 : Int32))), .val (.int v89)]) rfl ?_
      show Steps p.tables e below (T78.setTop (mkF m 200 #[.val (.int p1), .val (.int p2), .val (.int p3), .val (.int p4), .val (.int p5), .val (.int p6), .val (.int (4 : Int32)), .val (.ref b61), .val (.int p4), .val (.int p3), .val (.int (F3006 p1 p2 p3 p4)), .val (.int (F7 (3 : Int32))), .val (.int (F2006 p1 p2 p3 p4)), .val (.int (F7 (2 : Int32))), .val (.int v89)] [])) _
      refine XS.iload X78.here hx rfl (hb hby at_200) rfl ?_
      show Steps p.tables e below (T78.setTop (mkF m 202 #[.val (.int p1), .val (.int p2), .val (.int p3), .val (.int p4), .val (.int p5), .val (.int p6), .val (.int (4 : Int32)), .val (.ref b61), .val (.int p4), .val (.int p3), .val (.int (F3006 p1 p2 p3 p4)), .val (.int (F7 (3 : Int32))), .val (.int (F2006 p1 p2 p3 p4)), .val (.int (F7 (2 : Int32))), .val (.int v89)] [(.int (4 : Int32))])) _
      refine XS.iconst X78.here hx rfl (hb hby at_202) ?_
      show Steps p.tables e below (T78.setTop (mkF m 203 #[.val (.int p1), .val (.int p2), .val (.int p3), .val (.int p4), .val (.int p5), .val (.int p6), .val (.int (4 : Int32)), .val (.ref b61), .val (.int p4), .val (.int p3), .val (.int (F3006 p1 p2 p3 p4)), .val (.int (F7 (3 : Int32))), .val (.int (F2006 p1 p2 p3 p4)), .val (.int (F7 (2 : Int32))), .val (.int v89)] [(.int (3 : Int32)), (.int (4 : Int32))])) _
      refine XS.icmpNo X78.here hx rfl (hb hby at_203) rfl (flt (by decide : ¬ ((4 : Int32) < (3 : Int32)))).1 ?_
      show Steps p.tables e below (T78.setTop (mkF m 206 #[.val (.int p1), .val (.int p2), .val (.int p3), .val (.int p4), .val (.int p5), .val (.int p6), .val (.int (4 : Int32)), .val (.ref b61), .val (.int p4), .val (.int p3), .val (.int (F3006 p1 p2 p3 p4)), .val (.int (F7 (3 : Int32))), .val (.int (F2006 p1 p2 p3 p4)), .val (.int (F7 (2 : Int32))), .val (.int v89)] [])) _
      refine XS.iload X78.here hx rfl (hb hby at_206) rfl ?_
      exact kt
    by_cases hc91 : v89 = (0 : Int32)
    · exact (leaf_0_5 p1 p2 p3 p4 p5 p6 hk2 v89 hv89 hc91).elim
    · have q93 := (q77.keep K76 (ninS (Ne.symm ne_b61_b62_0) nin0))
      obtain ⟨cq92, kq92, q92a, q92b, q92c⟩ := isOf hZ e78 f76_0
      obtain ⟨_, _, ⟨T92, L92, k92, n92⟩, -, X92, ⟨Lc92, hQ92, l92, y92, z92⟩, st92⟩ := X78.virtualBack hx (y := (⟨"com/example/krel/krel/saturation/IntList", "get", "(I)I"⟩ : MethodName)) (z := (⟨"com/example/krel/krel/saturation/IntList", "get", "(I)I"⟩ : MethodName)) hown (mvT hZ (hw _ (List.mem_of_getElem? (i := 41) rfl))) (mvT hZ (hw _ (List.mem_of_getElem? (i := 42) rfl))) (notFace_of_selects (args := #[]) (mvT hZ (hw _ (List.mem_of_getElem? (i := 44) rfl)))) (mvT hZ (hw _ (List.mem_of_getElem? (i := 44) rfl))) (mvT hZ (hw _ (List.mem_of_getElem? (i := 43) rfl))) (by decide) (backOf (W := 0) (rm8 l Z a0 hw [] b61 b62_0 kk62_0 p1 p2 p3 p4 T76.heap n0 z79 f76_0 f76_2 q93) hZ (hw _ (List.mem_of_getElem? (i := 45) rfl)) (hw _ (List.mem_of_getElem? (i := 2) rfl)) (by decide) (by decide)) q92a q92c (g := (mkF m 214 #[.val (.int p1), .val (.int p2), .val (.int p3), .val (.int p4), .val (.int p5), .val (.int p6), .val (.int (4 : Int32)), .val (.ref b61), .val (.int p4), .val (.int p3), .val (.int (F3006 p1 p2 p3 p4)), .val (.int (F7 (3 : Int32))), .val (.int (F2006 p1 p2 p3 p4)), .val (.int (F7 (2 : Int32))), .val (.int v89)] [(.int (0 : Int32)), (.ref b61)])) rfl (by rw [hml]; rfl) (Steps.refl _) (argsL := [(.int (0 : Int32))]) (rest := []) (lenOf pd_0_6 rfl) rfl (by show 2 * 0 + _ ≤ _; exact Nat.le_of_eq rfl) (hb hby at_214) (fun _ _ => ⟨rfl, e78, (by decide : 2 + 0 ≤ _), (by decide : 6 + 0 ≤ _)⟩)
      dsimp only [Pt.U, Pt.locs, Pt.cells, Pt.slots] at X92 l92 y92 z92 st92 hQ92
      subst l92 y92 z92
      obtain ⟨rfl, N92q, e92⟩ := hQ92
      have N92 := Fr.app N78 N92q
      have pre94 : ∀ t, Steps p.tables e below (T92.setTop (mkF m 218 #[.val (.int p1), .val (.int p2), .val (.int p3), .val (.int p4), .val (.int p5), .val (.int p6), .val (.int (4 : Int32)), .val (.ref b61), .val (.int p4), .val (.int p3), .val (.int (F3006 p1 p2 p3 p4)), .val (.int (F7 (3 : Int32))), .val (.int (F2006 p1 p2 p3 p4)), .val (.int (F7 (2 : Int32))), .val (.int v89)] [(.int p1), (.int (F8 p1 p2 p3 p4))])) t → Steps p.tables e below (s₁.setTop (entryFrame m #[(.int p1), (.int p2), (.int p3), (.int p4), (.int p5), (.int p6)] maxLocals)) t := fun t kt => by
        refine pre90 t ?_
        show Steps p.tables e below (T78.setTop (mkF m 208 #[.val (.int p1), .val (.int p2), .val (.int p3), .val (.int p4), .val (.int p5), .val (.int p6), .val (.int (4 : Int32)), .val (.ref b61), .val (.int p4), .val (.int p3), .val (.int (F3006 p1 p2 p3 p4)), .val (.int (F7 (3 : Int32))), .val (.int (F2006 p1 p2 p3 p4)), .val (.int (F7 (2 : Int32))), .val (.int v89)] [(.int v89)])) _
        refine XS.ifNo X78.here hx rfl (hb hby at_208) rfl ((if0 _ _).trans (feq hc91).1) ?_
        show Steps p.tables e below (T78.setTop (mkF m 211 #[.val (.int p1), .val (.int p2), .val (.int p3), .val (.int p4), .val (.int p5), .val (.int p6), .val (.int (4 : Int32)), .val (.ref b61), .val (.int p4), .val (.int p3), .val (.int (F3006 p1 p2 p3 p4)), .val (.int (F7 (3 : Int32))), .val (.int (F2006 p1 p2 p3 p4)), .val (.int (F7 (2 : Int32))), .val (.int v89)] [])) _
        refine XS.aload X78.here hx rfl (hb hby at_211) rfl rfl ?_
        show Steps p.tables e below (T78.setTop (mkF m 213 #[.val (.int p1), .val (.int p2), .val (.int p3), .val (.int p4), .val (.int p5), .val (.int p6), .val (.int (4 : Int32)), .val (.ref b61), .val (.int p4), .val (.int p3), .val (.int (F3006 p1 p2 p3 p4)), .val (.int (F7 (3 : Int32))), .val (.int (F2006 p1 p2 p3 p4)), .val (.int (F7 (2 : Int32))), .val (.int v89)] [(.ref b61)])) _
        refine XS.iconst X78.here hx rfl (hb hby at_213) ?_
        show Steps p.tables e below (T78.setTop (mkF m 214 #[.val (.int p1), .val (.int p2), .val (.int p3), .val (.int p4), .val (.int p5), .val (.int p6), .val (.int (4 : Int32)), .val (.ref b61), .val (.int p4), .val (.int p3), .val (.int (F3006 p1 p2 p3 p4)), .val (.int (F7 (3 : Int32))), .val (.int (F2006 p1 p2 p3 p4)), .val (.int (F7 (2 : Int32))), .val (.int v89)] [(.int (0 : Int32)), (.ref b61)])) _
        refine st92.trans ?_
        show Steps p.tables e below (T92.setTop (mkF m 217 #[.val (.int p1), .val (.int p2), .val (.int p3), .val (.int p4), .val (.int p5), .val (.int p6), .val (.int (4 : Int32)), .val (.ref b61), .val (.int p4), .val (.int p3), .val (.int (F3006 p1 p2 p3 p4)), .val (.int (F7 (3 : Int32))), .val (.int (F2006 p1 p2 p3 p4)), .val (.int (F7 (2 : Int32))), .val (.int v89)] [(.int (F8 p1 p2 p3 p4))])) _
        refine XS.iloadN X92.here hx rfl (hb hby at_217) rfl ?_
        exact kt
      by_cases hc95 : (F8 p1 p2 p3 p4) = p1
      · obtain ⟨fs, hr, hrun, hended, hW, hsame⟩ := X92.leave (v := some (.int (1 : Int32))) (fun h => by rw [Bd.returns] at h; cases h)
        refine ⟨_, _, pre94 _ ?_, hrun, hended, _, _, rfl, ?_, ⟨_, rfl⟩, hW, hsame.mono (by decide) (by decide)⟩
        · show Steps p.tables e below (T92.setTop (mkF m 218 #[.val (.int p1), .val (.int p2), .val (.int p3), .val (.int p4), .val (.int p5), .val (.int p6), .val (.int (4 : Int32)), .val (.ref b61), .val (.int p4), .val (.int p3), .val (.int (F3006 p1 p2 p3 p4)), .val (.int (F7 (3 : Int32))), .val (.int (F2006 p1 p2 p3 p4)), .val (.int (F7 (2 : Int32))), .val (.int v89)] [(.int p1), (.int (F8 p1 p2 p3 p4))])) _
          refine XS.icmpNo X92.here hx rfl (hb hby at_218) rfl (teq hc95).2 ?_
          show Steps p.tables e below (T92.setTop (mkF m 221 #[.val (.int p1), .val (.int p2), .val (.int p3), .val (.int p4), .val (.int p5), .val (.int p6), .val (.int (4 : Int32)), .val (.ref b61), .val (.int p4), .val (.int p3), .val (.int (F3006 p1 p2 p3 p4)), .val (.int (F7 (3 : Int32))), .val (.int (F2006 p1 p2 p3 p4)), .val (.int (F7 (2 : Int32))), .val (.int v89)] [])) _
          refine XS.iconst X92.here hx rfl (hb hby at_221) ?_
          show Steps p.tables e below (T92.setTop (mkF m 222 #[.val (.int p1), .val (.int p2), .val (.int p3), .val (.int p4), .val (.int p5), .val (.int p6), .val (.int (4 : Int32)), .val (.ref b61), .val (.int p4), .val (.int p3), .val (.int (F3006 p1 p2 p3 p4)), .val (.int (F7 (3 : Int32))), .val (.int (F2006 p1 p2 p3 p4)), .val (.int (F7 (2 : Int32))), .val (.int v89)] [(.int (1 : Int32))])) _
          refine XS.goto X92.here hx rfl (pc0 := 222) (pc' := 226) rfl (hb hby at_222) (by decide) (by decide) ?_
          show Steps p.tables e below (T92.setTop (mkF m 226 #[.val (.int p1), .val (.int p2), .val (.int p3), .val (.int p4), .val (.int p5), .val (.int p6), .val (.int (4 : Int32)), .val (.ref b61), .val (.int p4), .val (.int p3), .val (.int (F3006 p1 p2 p3 p4)), .val (.int (F7 (3 : Int32))), .val (.int (F2006 p1 p2 p3 p4)), .val (.int (F7 (2 : Int32))), .val (.int v89)] [(.int (1 : Int32))])) _
          refine XS.istore X92.here hx rfl (hb hby at_226) rfl (l' := #[.val (.int p1), .val (.int p2), .val (.int p3), .val (.int p4), .val (.int p5), .val (.int p6), .val (.int (4 : Int32)), .val (.ref b61), .val (.int p4), .val (.int p3), .val (.int (F3006 p1 p2 p3 p4)), .val (.int (F7 (3 : Int32))), .val (.int (F2006 p1 p2 p3 p4)), .val (.int (F7 (2 : Int32))), .val (.int (1 : Int32))]) rfl ?_
          show Steps p.tables e below (T92.setTop (mkF m 228 #[.val (.int p1), .val (.int p2), .val (.int p3), .val (.int p4), .val (.int p5), .val (.int p6), .val (.int (4 : Int32)), .val (.ref b61), .val (.int p4), .val (.int p3), .val (.int (F3006 p1 p2 p3 p4)), .val (.int (F7 (3 : Int32))), .val (.int (F2006 p1 p2 p3 p4)), .val (.int (F7 (2 : Int32))), .val (.int (1 : Int32))] [])) _
          refine XS.iload X92.here hx rfl (hb hby at_228) rfl ?_
          show Steps p.tables e below (T92.setTop (mkF m 230 #[.val (.int p1), .val (.int p2), .val (.int p3), .val (.int p4), .val (.int p5), .val (.int p6), .val (.int (4 : Int32)), .val (.ref b61), .val (.int p4), .val (.int p3), .val (.int (F3006 p1 p2 p3 p4)), .val (.int (F7 (3 : Int32))), .val (.int (F2006 p1 p2 p3 p4)), .val (.int (F7 (2 : Int32))), .val (.int (1 : Int32))] [(.int (1 : Int32))])) _
          exact retN X92 hx (t := .boolean) Bd.returns (by simp) (hb hby at_230) hr
        · show Q0 Z p1 p2 p3 p4 p5 p6 h0 n0 _ T92.heap _
          rw [e92]
          exact ⟨rfl, N92⟩
      · exact (leaf_0_7 p1 p2 p3 p4 p5 p6 hk2 v89 hv89 hc91 hc95).elim
  · rw [hk2] at pre1
    obtain ⟨b96, g96⟩ : ∃ z, z = h0.size := ⟨_, rfl⟩
    obtain ⟨T96, h96, X96, e96, E96, A96, D96, -, st96⟩ := newO X0 hx hZ hown (hw _ (List.mem_of_getElem? (i := 0) rfl)) (hw _ (List.mem_of_getElem? (i := 1) rfl)) (hw _ (List.mem_of_getElem? (i := 2) rfl)) e0 (g := (mkF m 8 #[.val (.int p1), .val (.int p2), .val (.int p3), .val (.int p4), .val (.int p5), .val (.int p6), .val (.int (5 : Int32)), .unset, .unset, .unset, .unset, .unset, .unset, .unset, .unset] [])) rfl (hb hby at_8) (by decide) (by decide)
    rw [← g96] at A96 D96 st96
    have g_b96 : n0 ≤ b96 := Nat.le_trans Z0 (Nat.le_of_eq g96.symm)
    have F_values_b96 : Fld Z h96 b96 "com/example/krel/krel/saturation/IntList" "values" "[I" .null := D96 (Or.inl (hw _ (List.mem_of_getElem? (i := 11) rfl))) (ty := (.array .int)) (by decide)
    have F_size_b96 : Fld Z h96 b96 "com/example/krel/krel/saturation/IntList" "size" "I" (.int (0 : Int32)) := D96 (Or.inl (hw _ (List.mem_of_getElem? (i := 18) rfl))) (ty := .int) (by decide)
    have z98 : n0 ≤ h96.size := (Nat.le_trans Z0 E96.1)
    obtain ⟨_, _, ⟨T97, L97, k97, n97⟩, -, X97, ⟨Lc97, hQ97, l97, y97, z97⟩, st97⟩ := X96.specialBack hx (y := (⟨"com/example/krel/krel/saturation/IntList", "<init>", "()V"⟩ : MethodName)) rfl hown (mvT hZ (hw _ (List.mem_of_getElem? (i := 3) rfl))) (mvT hZ (hw _ (List.mem_of_getElem? (i := 4) rfl))) (mvT hZ (hw _ (List.mem_of_getElem? (i := 5) rfl))) (by decide) (backOf (W := 1) (rm1 l Z a0 hw [] b96 (.int (0 : Int32)) .null h96 n0 z98 A96 F_size_b96 F_values_b96 g_b96) hZ (hw _ (List.mem_of_getElem? (i := 5) rfl)) (hw _ (List.mem_of_getElem? (i := 2) rfl)) (by decide) (by decide)) (g := (mkF m 12 #[.val (.int p1), .val (.int p2), .val (.int p3), .val (.int p4), .val (.int p5), .val (.int p6), .val (.int (5 : Int32)), .unset, .unset, .unset, .unset, .unset, .unset, .unset, .unset] [(.ref b96), (.ref b96)])) rfl (by rw [hml]; rfl) (Steps.refl _) (a := b96) (argsL := []) (rest := [(.ref b96)]) (lenOf pd_0_0 rfl) rfl (by show 2 * 0 + _ ≤ _; exact Nat.le_of_eq rfl) (hb hby at_12) (fun _ _ => ⟨rfl, e96, (by decide : 1 + 1 ≤ _), (by decide : 2 + 4 ≤ _)⟩)
    dsimp only [Pt.U, Pt.locs, Pt.cells, Pt.slots] at X97 l97 y97 z97 st97 hQ97
    subst l97 y97 z97
    obtain ⟨b97_0, kk97_0, rfl, N97q, g_b97_0, hz_b97_0, K97, f97_0, f97_1, f97_2, f97_3⟩ := hQ97
    have ne_b96_b97_0 : b96 ≠ b97_0 := Nat.ne_of_lt (Nat.lt_of_lt_of_le A96.lt hz_b97_0)
    have N97 := Fr.app N0 N97q
    have z100 : n0 ≤ T97.heap.size := (Nat.le_trans z98 K97.1)
    obtain ⟨cq99, kq99, q99a, q99b, q99c⟩ := isOf hZ rfl f97_0
    obtain ⟨_, _, ⟨T99, L99, k99, n99⟩, -, X99, ⟨Lc99, hQ99, l99, y99, z99⟩, st99⟩ := X97.virtualBack hx (y := (⟨"com/example/krel/krel/saturation/IntList", "add", "(I)V"⟩ : MethodName)) (z := (⟨"com/example/krel/krel/saturation/IntList", "add", "(I)V"⟩ : MethodName)) hown (mvT hZ (hw _ (List.mem_of_getElem? (i := 12) rfl))) (mvT hZ (hw _ (List.mem_of_getElem? (i := 13) rfl))) (notFace_of_selects (args := #[]) (mvT hZ (hw _ (List.mem_of_getElem? (i := 15) rfl)))) (mvT hZ (hw _ (List.mem_of_getElem? (i := 15) rfl))) (mvT hZ (hw _ (List.mem_of_getElem? (i := 14) rfl))) (by decide) (backOf (W := 0) (rm3 l Z a0 hw [] b96 p1 b97_0 kk97_0 (0 : Int32) (0 : Int32) (0 : Int32) (0 : Int32) T97.heap n0 z100 f97_0 f97_1 f97_2 f97_3 g_b96 (Ne.symm ne_b96_b97_0) g_b97_0) hZ (hw _ (List.mem_of_getElem? (i := 16) rfl)) (hw _ (List.mem_of_getElem? (i := 2) rfl)) (by decide) (by decide)) q99a q99c (g := (mkF m 20 #[.val (.int p1), .val (.int p2), .val (.int p3), .val (.int p4), .val (.int p5), .val (.int p6), .val (.int (5 : Int32)), .val (.ref b96), .unset, .unset, .unset, .unset, .unset, .unset, .unset] [(.int p1), (.ref b96)])) rfl (by rw [hml]; rfl) (Steps.refl _) (argsL := [(.int p1)]) (rest := []) (lenOf pd_0_1 rfl) rfl (by show 2 * 0 + _ ≤ _; exact Nat.le_of_eq rfl) (hb hby at_20) (fun _ _ => ⟨rfl, rfl, (by decide : 2 + 0 ≤ _), (by decide : 6 + 0 ≤ _)⟩)
    dsimp only [Pt.U, Pt.locs, Pt.cells, Pt.slots] at X99 l99 y99 z99 st99 hQ99
    subst l99 y99 z99
    obtain ⟨rfl, N99q, K99, f99_0, f99_1, f99_2, f99_3⟩ := hQ99
    have N99 := Fr.app N97 N99q
    have z102 : n0 ≤ T99.heap.size := (Nat.le_trans z100 K99.1)
    obtain ⟨cq101, kq101, q101a, q101b, q101c⟩ := isOf hZ rfl f99_0
    obtain ⟨_, _, ⟨T101, L101, k101, n101⟩, -, X101, ⟨Lc101, hQ101, l101, y101, z101⟩, st101⟩ := X99.virtualBack hx (y := (⟨"com/example/krel/krel/saturation/IntList", "add", "(I)V"⟩ : MethodName)) (z := (⟨"com/example/krel/krel/saturation/IntList", "add", "(I)V"⟩ : MethodName)) hown (mvT hZ (hw _ (List.mem_of_getElem? (i := 12) rfl))) (mvT hZ (hw _ (List.mem_of_getElem? (i := 13) rfl))) (notFace_of_selects (args := #[]) (mvT hZ (hw _ (List.mem_of_getElem? (i := 15) rfl)))) (mvT hZ (hw _ (List.mem_of_getElem? (i := 15) rfl))) (mvT hZ (hw _ (List.mem_of_getElem? (i := 14) rfl))) (by decide) (backOf (W := 0) (rm1003 l Z a0 hw [] b96 p2 b97_0 kk97_0 p1 (0 : Int32) (0 : Int32) (0 : Int32) T99.heap n0 z102 f99_0 f99_1 f99_2 f99_3 g_b96 (Ne.symm ne_b96_b97_0) g_b97_0) hZ (hw _ (List.mem_of_getElem? (i := 16) rfl)) (hw _ (List.mem_of_getElem? (i := 2) rfl)) (by decide) (by decide)) q101a q101c (g := (mkF m 26 #[.val (.int p1), .val (.int p2), .val (.int p3), .val (.int p4), .val (.int p5), .val (.int p6), .val (.int (5 : Int32)), .val (.ref b96), .unset, .unset, .unset, .unset, .unset, .unset, .unset] [(.int p2), (.ref b96)])) rfl (by rw [hml]; rfl) (Steps.refl _) (argsL := [(.int p2)]) (rest := []) (lenOf pd_0_1 rfl) rfl (by show 2 * 0 + _ ≤ _; exact Nat.le_of_eq rfl) (hb hby at_26) (fun _ _ => ⟨rfl, rfl, (by decide : 2 + 0 ≤ _), (by decide : 6 + 0 ≤ _)⟩)
    dsimp only [Pt.U, Pt.locs, Pt.cells, Pt.slots] at X101 l101 y101 z101 st101 hQ101
    subst l101 y101 z101
    obtain ⟨rfl, N101q, K101, f101_0, f101_1, f101_2, f101_3⟩ := hQ101
    have N101 := Fr.app N99 N101q
    have z104 : n0 ≤ T101.heap.size := (Nat.le_trans z102 K101.1)
    obtain ⟨cq103, kq103, q103a, q103b, q103c⟩ := isOf hZ rfl f101_0
    obtain ⟨_, _, ⟨T103, L103, k103, n103⟩, -, X103, ⟨Lc103, hQ103, l103, y103, z103⟩, st103⟩ := X101.virtualBack hx (y := (⟨"com/example/krel/krel/saturation/IntList", "add", "(I)V"⟩ : MethodName)) (z := (⟨"com/example/krel/krel/saturation/IntList", "add", "(I)V"⟩ : MethodName)) hown (mvT hZ (hw _ (List.mem_of_getElem? (i := 12) rfl))) (mvT hZ (hw _ (List.mem_of_getElem? (i := 13) rfl))) (notFace_of_selects (args := #[]) (mvT hZ (hw _ (List.mem_of_getElem? (i := 15) rfl)))) (mvT hZ (hw _ (List.mem_of_getElem? (i := 15) rfl))) (mvT hZ (hw _ (List.mem_of_getElem? (i := 14) rfl))) (by decide) (backOf (W := 0) (rm2003 l Z a0 hw [] b96 p3 b97_0 kk97_0 p1 p2 (0 : Int32) (0 : Int32) T101.heap n0 z104 f101_0 f101_1 f101_2 f101_3 g_b96 (Ne.symm ne_b96_b97_0) g_b97_0) hZ (hw _ (List.mem_of_getElem? (i := 16) rfl)) (hw _ (List.mem_of_getElem? (i := 2) rfl)) (by decide) (by decide)) q103a q103c (g := (mkF m 38 #[.val (.int p1), .val (.int p2), .val (.int p3), .val (.int p4), .val (.int p5), .val (.int p6), .val (.int (5 : Int32)), .val (.ref b96), .unset, .unset, .unset, .unset, .unset, .unset, .unset] [(.int p3), (.ref b96)])) rfl (by rw [hml]; rfl) (Steps.refl _) (argsL := [(.int p3)]) (rest := []) (lenOf pd_0_1 rfl) rfl (by show 2 * 0 + _ ≤ _; exact Nat.le_of_eq rfl) (hb hby at_38) (fun _ _ => ⟨rfl, rfl, (by decide : 2 + 0 ≤ _), (by decide : 6 + 0 ≤ _)⟩)
    dsimp only [Pt.U, Pt.locs, Pt.cells, Pt.slots] at X103 l103 y103 z103 st103 hQ103
    subst l103 y103 z103
    obtain ⟨rfl, N103q, K103, f103_0, f103_1, f103_2, f103_3⟩ := hQ103
    have N103 := Fr.app N101 N103q
    have z106 : n0 ≤ T103.heap.size := (Nat.le_trans z104 K103.1)
    obtain ⟨cq105, kq105, q105a, q105b, q105c⟩ := isOf hZ rfl f103_0
    obtain ⟨_, _, ⟨T105, L105, k105, n105⟩, -, X105, ⟨Lc105, hQ105, l105, y105, z105⟩, st105⟩ := X103.virtualBack hx (y := (⟨"com/example/krel/krel/saturation/IntList", "add", "(I)V"⟩ : MethodName)) (z := (⟨"com/example/krel/krel/saturation/IntList", "add", "(I)V"⟩ : MethodName)) hown (mvT hZ (hw _ (List.mem_of_getElem? (i := 12) rfl))) (mvT hZ (hw _ (List.mem_of_getElem? (i := 13) rfl))) (notFace_of_selects (args := #[]) (mvT hZ (hw _ (List.mem_of_getElem? (i := 15) rfl)))) (mvT hZ (hw _ (List.mem_of_getElem? (i := 15) rfl))) (mvT hZ (hw _ (List.mem_of_getElem? (i := 14) rfl))) (by decide) (backOf (W := 0) (rm3003 l Z a0 hw [] b96 p4 b97_0 kk97_0 p1 p2 p3 (0 : Int32) T103.heap n0 z106 f103_0 f103_1 f103_2 f103_3 g_b96 (Ne.symm ne_b96_b97_0) g_b97_0) hZ (hw _ (List.mem_of_getElem? (i := 16) rfl)) (hw _ (List.mem_of_getElem? (i := 2) rfl)) (by decide) (by decide)) q105a q105c (g := (mkF m 50 #[.val (.int p1), .val (.int p2), .val (.int p3), .val (.int p4), .val (.int p5), .val (.int p6), .val (.int (5 : Int32)), .val (.ref b96), .unset, .unset, .unset, .unset, .unset, .unset, .unset] [(.int p4), (.ref b96)])) rfl (by rw [hml]; rfl) (Steps.refl _) (argsL := [(.int p4)]) (rest := []) (lenOf pd_0_1 rfl) rfl (by show 2 * 0 + _ ≤ _; exact Nat.le_of_eq rfl) (hb hby at_50) (fun _ _ => ⟨rfl, rfl, (by decide : 2 + 0 ≤ _), (by decide : 6 + 0 ≤ _)⟩)
    dsimp only [Pt.U, Pt.locs, Pt.cells, Pt.slots] at X105 l105 y105 z105 st105 hQ105
    subst l105 y105 z105
    obtain ⟨rfl, N105q, K105, f105_0, f105_1, f105_2, f105_3⟩ := hQ105
    have N105 := Fr.app N103 N105q
    have z108 : n0 ≤ T105.heap.size := (Nat.le_trans z106 K105.1)
    obtain ⟨cq107, kq107, q107a, q107b, q107c⟩ := isOf hZ rfl f105_0
    obtain ⟨_, _, ⟨T107, L107, k107, n107⟩, -, X107, ⟨Lc107, hQ107, l107, y107, z107⟩, st107⟩ := X105.virtualBack hx (y := (⟨"com/example/krel/krel/saturation/IntList", "add", "(I)V"⟩ : MethodName)) (z := (⟨"com/example/krel/krel/saturation/IntList", "add", "(I)V"⟩ : MethodName)) hown (mvT hZ (hw _ (List.mem_of_getElem? (i := 12) rfl))) (mvT hZ (hw _ (List.mem_of_getElem? (i := 13) rfl))) (notFace_of_selects (args := #[]) (mvT hZ (hw _ (List.mem_of_getElem? (i := 15) rfl)))) (mvT hZ (hw _ (List.mem_of_getElem? (i := 15) rfl))) (mvT hZ (hw _ (List.mem_of_getElem? (i := 14) rfl))) (by decide) (backOf (W := 0) (rm4003 l Z a0 hw [] b96 p5 b97_0 kk97_0 p1 p2 p3 p4 T105.heap n0 z108 f105_0 f105_1 f105_2 f105_3 g_b96) hZ (hw _ (List.mem_of_getElem? (i := 16) rfl)) (hw _ (List.mem_of_getElem? (i := 2) rfl)) (by decide) (by decide)) q107a q107c (g := (mkF m 63 #[.val (.int p1), .val (.int p2), .val (.int p3), .val (.int p4), .val (.int p5), .val (.int p6), .val (.int (5 : Int32)), .val (.ref b96), .unset, .unset, .unset, .unset, .unset, .unset, .unset] [(.int p5), (.ref b96)])) rfl (by rw [hml]; rfl) (Steps.refl _) (argsL := [(.int p5)]) (rest := []) (lenOf pd_0_1 rfl) rfl (by show 2 * 0 + _ ≤ _; exact Nat.le_of_eq rfl) (hb hby at_63) (fun _ _ => ⟨rfl, rfl, (by decide : 2 + 1 ≤ _), (by decide : 6 + 8 ≤ _)⟩)
    dsimp only [Pt.U, Pt.locs, Pt.cells, Pt.slots] at X107 l107 y107 z107 st107 hQ107
    subst l107 y107 z107
    obtain ⟨b107_0, kk107_0, rfl, N107q, g_b107_0, hz_b107_0, K107, f107_0, f107_1, f107_2, f107_3⟩ := hQ107
    have ne_b96_b107_0 : b96 ≠ b107_0 := Nat.ne_of_lt (Nat.lt_of_lt_of_le f105_0.lt hz_b107_0)
    have ne_b97_0_b107_0 : b97_0 ≠ b107_0 := Nat.ne_of_lt (Nat.lt_of_lt_of_le f105_3.lt hz_b107_0)
    have N107 := Fr.app N105 N107q
    have z110 : n0 ≤ T107.heap.size := (Nat.le_trans z108 K107.1)
    obtain ⟨cq109, kq109, q109a, q109b, q109c⟩ := isOf hZ rfl f107_0
    obtain ⟨_, _, ⟨T109, L109, k109, n109⟩, -, X109, ⟨Lc109, hQ109, l109, y109, z109⟩, st109⟩ := X107.virtualBack hx (y := (⟨"com/example/krel/krel/saturation/IntList", "pop", "()I"⟩ : MethodName)) (z := (⟨"com/example/krel/krel/saturation/IntList", "pop", "()I"⟩ : MethodName)) hown (mvT hZ (hw _ (List.mem_of_getElem? (i := 31) rfl))) (mvT hZ (hw _ (List.mem_of_getElem? (i := 32) rfl))) (notFace_of_selects (args := #[]) (mvT hZ (hw _ (List.mem_of_getElem? (i := 34) rfl)))) (mvT hZ (hw _ (List.mem_of_getElem? (i := 34) rfl))) (mvT hZ (hw _ (List.mem_of_getElem? (i := 33) rfl))) (by decide) (backOf (W := 0) (rm5006 l Z a0 hw [] b96 b107_0 kk107_0 p1 p2 p3 p4 p5 (0 : Int32) (0 : Int32) (0 : Int32) T107.heap n0 z110 f107_0 f107_1 f107_2 f107_3 g_b96 (Ne.symm ne_b96_b107_0)) hZ (hw _ (List.mem_of_getElem? (i := 35) rfl)) (hw _ (List.mem_of_getElem? (i := 2) rfl)) (by decide) (by decide)) q109a q109c (g := (mkF m 135 #[.val (.int p1), .val (.int p2), .val (.int p3), .val (.int p4), .val (.int p5), .val (.int p6), .val (.int (5 : Int32)), .val (.ref b96), .val (.int p5), .val (.int p4), .unset, .unset, .unset, .unset, .unset] [(.ref b96)])) rfl (by rw [hml]; rfl) (Steps.refl _) (argsL := []) (rest := []) (lenOf pd_0_5 rfl) rfl (by show 2 * 0 + _ ≤ _; exact Nat.le_of_eq rfl) (hb hby at_135) (fun _ _ => ⟨rfl, rfl, (by decide : 3 + 0 ≤ _), (by decide : 14 + 0 ≤ _)⟩)
    dsimp only [Pt.U, Pt.locs, Pt.cells, Pt.slots] at X109 l109 y109 z109 st109 hQ109
    subst l109 y109 z109
    obtain ⟨rfl, N109q, K109, f109_0, f109_1, f109_2⟩ := hQ109
    have N109 := Fr.app N107 N109q
    have z112 : n0 ≤ T109.heap.size := (Nat.le_trans z110 K109.1)
    obtain ⟨cq111, kq111, q111a, q111b, q111c⟩ := isOf hZ rfl f109_0
    obtain ⟨_, _, ⟨T111, L111, k111, n111⟩, -, X111, ⟨Lc111, hQ111, l111, y111, z111⟩, st111⟩ := X109.virtualBack hx (y := (⟨"com/example/krel/krel/saturation/IntList", "size", "()I"⟩ : MethodName)) (z := (⟨"com/example/krel/krel/saturation/IntList", "size", "()I"⟩ : MethodName)) hown (mvT hZ (hw _ (List.mem_of_getElem? (i := 36) rfl))) (mvT hZ (hw _ (List.mem_of_getElem? (i := 37) rfl))) (notFace_of_selects (args := #[]) (mvT hZ (hw _ (List.mem_of_getElem? (i := 39) rfl)))) (mvT hZ (hw _ (List.mem_of_getElem? (i := 39) rfl))) (mvT hZ (hw _ (List.mem_of_getElem? (i := 38) rfl))) (by decide) (backOf (W := 0) (rm7 l Z a0 hw [] b96 (4 : Int32) T109.heap n0 z112 f109_1) hZ (hw _ (List.mem_of_getElem? (i := 40) rfl)) (hw _ (List.mem_of_getElem? (i := 2) rfl)) (by decide) (by decide)) q111a q111c (g := (mkF m 142 #[.val (.int p1), .val (.int p2), .val (.int p3), .val (.int p4), .val (.int p5), .val (.int p6), .val (.int (5 : Int32)), .val (.ref b96), .val (.int p5), .val (.int p4), .val (.int (F5006 p1 p2 p3 p4 p5 (0 : Int32) (0 : Int32) (0 : Int32))), .unset, .unset, .unset, .unset] [(.ref b96)])) rfl (by rw [hml]; rfl) (Steps.refl _) (argsL := []) (rest := []) (lenOf pd_0_5 rfl) rfl (by show 2 * 0 + _ ≤ _; exact Nat.le_of_eq rfl) (hb hby at_142) (fun _ _ => ⟨rfl, rfl, (by decide : 3 + 0 ≤ _), (by decide : 14 + 0 ≤ _)⟩)
    dsimp only [Pt.U, Pt.locs, Pt.cells, Pt.slots] at X111 l111 y111 z111 st111 hQ111
    subst l111 y111 z111
    obtain ⟨rfl, N111q, e111⟩ := hQ111
    have N111 := Fr.app N109 N111q
    have q114 := (f107_3.keep K109 (ninS (Ne.symm ne_b96_b107_0) nin0))
    obtain ⟨cq113, kq113, q113a, q113b, q113c⟩ := isOf hZ e111 f109_0
    obtain ⟨_, _, ⟨T113, L113, k113, n113⟩, -, X113, ⟨Lc113, hQ113, l113, y113, z113⟩, st113⟩ := X111.virtualBack hx (y := (⟨"com/example/krel/krel/saturation/IntList", "pop", "()I"⟩ : MethodName)) (z := (⟨"com/example/krel/krel/saturation/IntList", "pop", "()I"⟩ : MethodName)) hown (mvT hZ (hw _ (List.mem_of_getElem? (i := 31) rfl))) (mvT hZ (hw _ (List.mem_of_getElem? (i := 32) rfl))) (notFace_of_selects (args := #[]) (mvT hZ (hw _ (List.mem_of_getElem? (i := 34) rfl)))) (mvT hZ (hw _ (List.mem_of_getElem? (i := 34) rfl))) (mvT hZ (hw _ (List.mem_of_getElem? (i := 33) rfl))) (by decide) (backOf (W := 0) (rm4006 l Z a0 hw [] b96 b107_0 kk107_0 p1 p2 p3 p4 p5 (0 : Int32) (0 : Int32) (0 : Int32) T109.heap n0 z112 f109_0 f109_1 f109_2 q114 g_b96 (Ne.symm ne_b96_b107_0)) hZ (hw _ (List.mem_of_getElem? (i := 35) rfl)) (hw _ (List.mem_of_getElem? (i := 2) rfl)) (by decide) (by decide)) q113a q113c (g := (mkF m 149 #[.val (.int p1), .val (.int p2), .val (.int p3), .val (.int p4), .val (.int p5), .val (.int p6), .val (.int (5 : Int32)), .val (.ref b96), .val (.int p5), .val (.int p4), .val (.int (F5006 p1 p2 p3 p4 p5 (0 : Int32) (0 : Int32) (0 : Int32))), .val (.int (F7 (4 : Int32))), .unset, .unset, .unset] [(.ref b96)])) rfl (by rw [hml]; rfl) (Steps.refl _) (argsL := []) (rest := []) (lenOf pd_0_5 rfl) rfl (by show 2 * 0 + _ ≤ _; exact Nat.le_of_eq rfl) (hb hby at_149) (fun _ _ => ⟨rfl, e111, (by decide : 3 + 0 ≤ _), (by decide : 14 + 0 ≤ _)⟩)
    dsimp only [Pt.U, Pt.locs, Pt.cells, Pt.slots] at X113 l113 y113 z113 st113 hQ113
    subst l113 y113 z113
    obtain ⟨rfl, N113q, K113, f113_0, f113_1, f113_2⟩ := hQ113
    have N113 := Fr.app N111 N113q
    have z116 : n0 ≤ T113.heap.size := (Nat.le_trans z112 K113.1)
    obtain ⟨cq115, kq115, q115a, q115b, q115c⟩ := isOf hZ rfl f113_0
    obtain ⟨_, _, ⟨T115, L115, k115, n115⟩, -, X115, ⟨Lc115, hQ115, l115, y115, z115⟩, st115⟩ := X113.virtualBack hx (y := (⟨"com/example/krel/krel/saturation/IntList", "size", "()I"⟩ : MethodName)) (z := (⟨"com/example/krel/krel/saturation/IntList", "size", "()I"⟩ : MethodName)) hown (mvT hZ (hw _ (List.mem_of_getElem? (i := 36) rfl))) (mvT hZ (hw _ (List.mem_of_getElem? (i := 37) rfl))) (notFace_of_selects (args := #[]) (mvT hZ (hw _ (List.mem_of_getElem? (i := 39) rfl)))) (mvT hZ (hw _ (List.mem_of_getElem? (i := 39) rfl))) (mvT hZ (hw _ (List.mem_of_getElem? (i := 38) rfl))) (by decide) (backOf (W := 0) (rm7 l Z a0 hw [] b96 (3 : Int32) T113.heap n0 z116 f113_1) hZ (hw _ (List.mem_of_getElem? (i := 40) rfl)) (hw _ (List.mem_of_getElem? (i := 2) rfl)) (by decide) (by decide)) q115a q115c (g := (mkF m 156 #[.val (.int p1), .val (.int p2), .val (.int p3), .val (.int p4), .val (.int p5), .val (.int p6), .val (.int (5 : Int32)), .val (.ref b96), .val (.int p5), .val (.int p4), .val (.int (F5006 p1 p2 p3 p4 p5 (0 : Int32) (0 : Int32) (0 : Int32))), .val (.int (F7 (4 : Int32))), .val (.int (F4006 p1 p2 p3 p4 p5 (0 : Int32) (0 : Int32) (0 : Int32))), .unset, .unset] [(.ref b96)])) rfl (by rw [hml]; rfl) (Steps.refl _) (argsL := []) (rest := []) (lenOf pd_0_5 rfl) rfl (by show 2 * 0 + _ ≤ _; exact Nat.le_of_eq rfl) (hb hby at_156) (fun _ _ => ⟨rfl, rfl, (by decide : 3 + 0 ≤ _), (by decide : 14 + 0 ≤ _)⟩)
    dsimp only [Pt.U, Pt.locs, Pt.cells, Pt.slots] at X115 l115 y115 z115 st115 hQ115
    subst l115 y115 z115
    obtain ⟨rfl, N115q, e115⟩ := hQ115
    have N115 := Fr.app N113 N115q
    have pre117 : ∀ t, Steps p.tables e below (T115.setTop (mkF m 165 #[.val (.int p1), .val (.int p2), .val (.int p3), .val (.int p4), .val (.int p5), .val (.int p6), .val (.int (5 : Int32)), .val (.ref b96), .val (.int p5), .val (.int p4), .val (.int (F5006 p1 p2 p3 p4 p5 (0 : Int32) (0 : Int32) (0 : Int32))), .val (.int (F7 (4 : Int32))), .val (.int (F4006 p1 p2 p3 p4 p5 (0 : Int32) (0 : Int32) (0 : Int32))), .val (.int (F7 (3 : Int32))), .unset] [(.int p5), (.int (F5006 p1 p2 p3 p4 p5 (0 : Int32) (0 : Int32) (0 : Int32)))])) t → Steps p.tables e below (s₁.setTop (entryFrame m #[(.int p1), (.int p2), (.int p3), (.int p4), (.int p5), (.int p6)] maxLocals)) t := fun t kt => by
      refine pre1 t ?_
      show Steps p.tables e below (s₁.setTop (mkF m 8 #[.val (.int p1), .val (.int p2), .val (.int p3), .val (.int p4), .val (.int p5), .val (.int p6), .val (.int (5 : Int32)), .unset, .unset, .unset, .unset, .unset, .unset, .unset, .unset] [])) _
      refine st96 _ ?_
      show Steps p.tables e below (T96.setTop (mkF m 11 #[.val (.int p1), .val (.int p2), .val (.int p3), .val (.int p4), .val (.int p5), .val (.int p6), .val (.int (5 : Int32)), .unset, .unset, .unset, .unset, .unset, .unset, .unset, .unset] [(.ref b96)])) _
      refine XS.dup X96.here hx rfl (hb hby at_11) rfl rfl ?_
      show Steps p.tables e below (T96.setTop (mkF m 12 #[.val (.int p1), .val (.int p2), .val (.int p3), .val (.int p4), .val (.int p5), .val (.int p6), .val (.int (5 : Int32)), .unset, .unset, .unset, .unset, .unset, .unset, .unset, .unset] [(.ref b96), (.ref b96)])) _
      refine st97.trans ?_
      show Steps p.tables e below (T97.setTop (mkF m 15 #[.val (.int p1), .val (.int p2), .val (.int p3), .val (.int p4), .val (.int p5), .val (.int p6), .val (.int (5 : Int32)), .unset, .unset, .unset, .unset, .unset, .unset, .unset, .unset] [(.ref b96)])) _
      refine XS.astore X97.here hx rfl (hb hby at_15) rfl rfl (l' := #[.val (.int p1), .val (.int p2), .val (.int p3), .val (.int p4), .val (.int p5), .val (.int p6), .val (.int (5 : Int32)), .val (.ref b96), .unset, .unset, .unset, .unset, .unset, .unset, .unset]) rfl ?_
      show Steps p.tables e below (T97.setTop (mkF m 17 #[.val (.int p1), .val (.int p2), .val (.int p3), .val (.int p4), .val (.int p5), .val (.int p6), .val (.int (5 : Int32)), .val (.ref b96), .unset, .unset, .unset, .unset, .unset, .unset, .unset] [])) _
      refine XS.aload X97.here hx rfl (hb hby at_17) rfl rfl ?_
      show Steps p.tables e below (T97.setTop (mkF m 19 #[.val (.int p1), .val (.int p2), .val (.int p3), .val (.int p4), .val (.int p5), .val (.int p6), .val (.int (5 : Int32)), .val (.ref b96), .unset, .unset, .unset, .unset, .unset, .unset, .unset] [(.ref b96)])) _
      refine XS.iloadN X97.here hx rfl (hb hby at_19) rfl ?_
      show Steps p.tables e below (T97.setTop (mkF m 20 #[.val (.int p1), .val (.int p2), .val (.int p3), .val (.int p4), .val (.int p5), .val (.int p6), .val (.int (5 : Int32)), .val (.ref b96), .unset, .unset, .unset, .unset, .unset, .unset, .unset] [(.int p1), (.ref b96)])) _
      refine st99.trans ?_
      show Steps p.tables e below (T99.setTop (mkF m 23 #[.val (.int p1), .val (.int p2), .val (.int p3), .val (.int p4), .val (.int p5), .val (.int p6), .val (.int (5 : Int32)), .val (.ref b96), .unset, .unset, .unset, .unset, .unset, .unset, .unset] [])) _
      refine XS.aload X99.here hx rfl (hb hby at_23) rfl rfl ?_
      show Steps p.tables e below (T99.setTop (mkF m 25 #[.val (.int p1), .val (.int p2), .val (.int p3), .val (.int p4), .val (.int p5), .val (.int p6), .val (.int (5 : Int32)), .val (.ref b96), .unset, .unset, .unset, .unset, .unset, .unset, .unset] [(.ref b96)])) _
      refine XS.iloadN X99.here hx rfl (hb hby at_25) rfl ?_
      show Steps p.tables e below (T99.setTop (mkF m 26 #[.val (.int p1), .val (.int p2), .val (.int p3), .val (.int p4), .val (.int p5), .val (.int p6), .val (.int (5 : Int32)), .val (.ref b96), .unset, .unset, .unset, .unset, .unset, .unset, .unset] [(.int p2), (.ref b96)])) _
      refine st101.trans ?_
      show Steps p.tables e below (T101.setTop (mkF m 29 #[.val (.int p1), .val (.int p2), .val (.int p3), .val (.int p4), .val (.int p5), .val (.int p6), .val (.int (5 : Int32)), .val (.ref b96), .unset, .unset, .unset, .unset, .unset, .unset, .unset] [])) _
      refine XS.iload X101.here hx rfl (hb hby at_29) rfl ?_
      show Steps p.tables e below (T101.setTop (mkF m 31 #[.val (.int p1), .val (.int p2), .val (.int p3), .val (.int p4), .val (.int p5), .val (.int p6), .val (.int (5 : Int32)), .val (.ref b96), .unset, .unset, .unset, .unset, .unset, .unset, .unset] [(.int (5 : Int32))])) _
      refine XS.iconst X101.here hx rfl (hb hby at_31) ?_
      show Steps p.tables e below (T101.setTop (mkF m 32 #[.val (.int p1), .val (.int p2), .val (.int p3), .val (.int p4), .val (.int p5), .val (.int p6), .val (.int (5 : Int32)), .val (.ref b96), .unset, .unset, .unset, .unset, .unset, .unset, .unset] [(.int (3 : Int32)), (.int (5 : Int32))])) _
      refine XS.icmpNo X101.here hx rfl (hb hby at_32) rfl (flt (by decide : ¬ ((5 : Int32) < (3 : Int32)))).1 ?_
      show Steps p.tables e below (T101.setTop (mkF m 35 #[.val (.int p1), .val (.int p2), .val (.int p3), .val (.int p4), .val (.int p5), .val (.int p6), .val (.int (5 : Int32)), .val (.ref b96), .unset, .unset, .unset, .unset, .unset, .unset, .unset] [])) _
      refine XS.aload X101.here hx rfl (hb hby at_35) rfl rfl ?_
      show Steps p.tables e below (T101.setTop (mkF m 37 #[.val (.int p1), .val (.int p2), .val (.int p3), .val (.int p4), .val (.int p5), .val (.int p6), .val (.int (5 : Int32)), .val (.ref b96), .unset, .unset, .unset, .unset, .unset, .unset, .unset] [(.ref b96)])) _
      refine XS.iloadN X101.here hx rfl (hb hby at_37) rfl ?_
      show Steps p.tables e below (T101.setTop (mkF m 38 #[.val (.int p1), .val (.int p2), .val (.int p3), .val (.int p4), .val (.int p5), .val (.int p6), .val (.int (5 : Int32)), .val (.ref b96), .unset, .unset, .unset, .unset, .unset, .unset, .unset] [(.int p3), (.ref b96)])) _
      refine st103.trans ?_
      show Steps p.tables e below (T103.setTop (mkF m 41 #[.val (.int p1), .val (.int p2), .val (.int p3), .val (.int p4), .val (.int p5), .val (.int p6), .val (.int (5 : Int32)), .val (.ref b96), .unset, .unset, .unset, .unset, .unset, .unset, .unset] [])) _
      refine XS.iload X103.here hx rfl (hb hby at_41) rfl ?_
      show Steps p.tables e below (T103.setTop (mkF m 43 #[.val (.int p1), .val (.int p2), .val (.int p3), .val (.int p4), .val (.int p5), .val (.int p6), .val (.int (5 : Int32)), .val (.ref b96), .unset, .unset, .unset, .unset, .unset, .unset, .unset] [(.int (5 : Int32))])) _
      refine XS.iconst X103.here hx rfl (hb hby at_43) ?_
      show Steps p.tables e below (T103.setTop (mkF m 44 #[.val (.int p1), .val (.int p2), .val (.int p3), .val (.int p4), .val (.int p5), .val (.int p6), .val (.int (5 : Int32)), .val (.ref b96), .unset, .unset, .unset, .unset, .unset, .unset, .unset] [(.int (4 : Int32)), (.int (5 : Int32))])) _
      refine XS.icmpNo X103.here hx rfl (hb hby at_44) rfl (flt (by decide : ¬ ((5 : Int32) < (4 : Int32)))).1 ?_
      show Steps p.tables e below (T103.setTop (mkF m 47 #[.val (.int p1), .val (.int p2), .val (.int p3), .val (.int p4), .val (.int p5), .val (.int p6), .val (.int (5 : Int32)), .val (.ref b96), .unset, .unset, .unset, .unset, .unset, .unset, .unset] [])) _
      refine XS.aload X103.here hx rfl (hb hby at_47) rfl rfl ?_
      show Steps p.tables e below (T103.setTop (mkF m 49 #[.val (.int p1), .val (.int p2), .val (.int p3), .val (.int p4), .val (.int p5), .val (.int p6), .val (.int (5 : Int32)), .val (.ref b96), .unset, .unset, .unset, .unset, .unset, .unset, .unset] [(.ref b96)])) _
      refine XS.iloadN X103.here hx rfl (hb hby at_49) rfl ?_
      show Steps p.tables e below (T103.setTop (mkF m 50 #[.val (.int p1), .val (.int p2), .val (.int p3), .val (.int p4), .val (.int p5), .val (.int p6), .val (.int (5 : Int32)), .val (.ref b96), .unset, .unset, .unset, .unset, .unset, .unset, .unset] [(.int p4), (.ref b96)])) _
      refine st105.trans ?_
      show Steps p.tables e below (T105.setTop (mkF m 53 #[.val (.int p1), .val (.int p2), .val (.int p3), .val (.int p4), .val (.int p5), .val (.int p6), .val (.int (5 : Int32)), .val (.ref b96), .unset, .unset, .unset, .unset, .unset, .unset, .unset] [])) _
      refine XS.iload X105.here hx rfl (hb hby at_53) rfl ?_
      show Steps p.tables e below (T105.setTop (mkF m 55 #[.val (.int p1), .val (.int p2), .val (.int p3), .val (.int p4), .val (.int p5), .val (.int p6), .val (.int (5 : Int32)), .val (.ref b96), .unset, .unset, .unset, .unset, .unset, .unset, .unset] [(.int (5 : Int32))])) _
      refine XS.iconst X105.here hx rfl (hb hby at_55) ?_
      show Steps p.tables e below (T105.setTop (mkF m 56 #[.val (.int p1), .val (.int p2), .val (.int p3), .val (.int p4), .val (.int p5), .val (.int p6), .val (.int (5 : Int32)), .val (.ref b96), .unset, .unset, .unset, .unset, .unset, .unset, .unset] [(.int (5 : Int32)), (.int (5 : Int32))])) _
      refine XS.icmpNo X105.here hx rfl (hb hby at_56) rfl (flt (by decide : ¬ ((5 : Int32) < (5 : Int32)))).1 ?_
      show Steps p.tables e below (T105.setTop (mkF m 59 #[.val (.int p1), .val (.int p2), .val (.int p3), .val (.int p4), .val (.int p5), .val (.int p6), .val (.int (5 : Int32)), .val (.ref b96), .unset, .unset, .unset, .unset, .unset, .unset, .unset] [])) _
      refine XS.aload X105.here hx rfl (hb hby at_59) rfl rfl ?_
      show Steps p.tables e below (T105.setTop (mkF m 61 #[.val (.int p1), .val (.int p2), .val (.int p3), .val (.int p4), .val (.int p5), .val (.int p6), .val (.int (5 : Int32)), .val (.ref b96), .unset, .unset, .unset, .unset, .unset, .unset, .unset] [(.ref b96)])) _
      refine XS.iload X105.here hx rfl (hb hby at_61) rfl ?_
      show Steps p.tables e below (T105.setTop (mkF m 63 #[.val (.int p1), .val (.int p2), .val (.int p3), .val (.int p4), .val (.int p5), .val (.int p6), .val (.int (5 : Int32)), .val (.ref b96), .unset, .unset, .unset, .unset, .unset, .unset, .unset] [(.int p5), (.ref b96)])) _
      refine st107.trans ?_
      show Steps p.tables e below (T107.setTop (mkF m 66 #[.val (.int p1), .val (.int p2), .val (.int p3), .val (.int p4), .val (.int p5), .val (.int p6), .val (.int (5 : Int32)), .val (.ref b96), .unset, .unset, .unset, .unset, .unset, .unset, .unset] [])) _
      refine XS.iload X107.here hx rfl (hb hby at_66) rfl ?_
      show Steps p.tables e below (T107.setTop (mkF m 68 #[.val (.int p1), .val (.int p2), .val (.int p3), .val (.int p4), .val (.int p5), .val (.int p6), .val (.int (5 : Int32)), .val (.ref b96), .unset, .unset, .unset, .unset, .unset, .unset, .unset] [(.int (5 : Int32))])) _
      refine XS.iconst X107.here hx rfl (hb hby at_68) ?_
      show Steps p.tables e below (T107.setTop (mkF m 69 #[.val (.int p1), .val (.int p2), .val (.int p3), .val (.int p4), .val (.int p5), .val (.int p6), .val (.int (5 : Int32)), .val (.ref b96), .unset, .unset, .unset, .unset, .unset, .unset, .unset] [(.int (2 : Int32)), (.int (5 : Int32))])) _
      refine XS.icmpYes X107.here hx rfl (pc0 := 69) (pc' := 76) rfl (hb hby at_69) rfl (feq (by decide : ¬ ((5 : Int32) = (2 : Int32)))).2 (by decide) (by decide) ?_
      show Steps p.tables e below (T107.setTop (mkF m 76 #[.val (.int p1), .val (.int p2), .val (.int p3), .val (.int p4), .val (.int p5), .val (.int p6), .val (.int (5 : Int32)), .val (.ref b96), .unset, .unset, .unset, .unset, .unset, .unset, .unset] [])) _
      refine XS.iload X107.here hx rfl (hb hby at_76) rfl ?_
      show Steps p.tables e below (T107.setTop (mkF m 78 #[.val (.int p1), .val (.int p2), .val (.int p3), .val (.int p4), .val (.int p5), .val (.int p6), .val (.int (5 : Int32)), .val (.ref b96), .unset, .unset, .unset, .unset, .unset, .unset, .unset] [(.int (5 : Int32))])) _
      refine XS.iconst X107.here hx rfl (hb hby at_78) ?_
      show Steps p.tables e below (T107.setTop (mkF m 79 #[.val (.int p1), .val (.int p2), .val (.int p3), .val (.int p4), .val (.int p5), .val (.int p6), .val (.int (5 : Int32)), .val (.ref b96), .unset, .unset, .unset, .unset, .unset, .unset, .unset] [(.int (3 : Int32)), (.int (5 : Int32))])) _
      refine XS.icmpYes X107.here hx rfl (pc0 := 79) (pc' := 86) rfl (hb hby at_79) rfl (feq (by decide : ¬ ((5 : Int32) = (3 : Int32)))).2 (by decide) (by decide) ?_
      show Steps p.tables e below (T107.setTop (mkF m 86 #[.val (.int p1), .val (.int p2), .val (.int p3), .val (.int p4), .val (.int p5), .val (.int p6), .val (.int (5 : Int32)), .val (.ref b96), .unset, .unset, .unset, .unset, .unset, .unset, .unset] [])) _
      refine XS.iload X107.here hx rfl (hb hby at_86) rfl ?_
      show Steps p.tables e below (T107.setTop (mkF m 88 #[.val (.int p1), .val (.int p2), .val (.int p3), .val (.int p4), .val (.int p5), .val (.int p6), .val (.int (5 : Int32)), .val (.ref b96), .unset, .unset, .unset, .unset, .unset, .unset, .unset] [(.int (5 : Int32))])) _
      refine XS.iconst X107.here hx rfl (hb hby at_88) ?_
      show Steps p.tables e below (T107.setTop (mkF m 89 #[.val (.int p1), .val (.int p2), .val (.int p3), .val (.int p4), .val (.int p5), .val (.int p6), .val (.int (5 : Int32)), .val (.ref b96), .unset, .unset, .unset, .unset, .unset, .unset, .unset] [(.int (4 : Int32)), (.int (5 : Int32))])) _
      refine XS.icmpYes X107.here hx rfl (pc0 := 89) (pc' := 96) rfl (hb hby at_89) rfl (feq (by decide : ¬ ((5 : Int32) = (4 : Int32)))).2 (by decide) (by decide) ?_
      show Steps p.tables e below (T107.setTop (mkF m 96 #[.val (.int p1), .val (.int p2), .val (.int p3), .val (.int p4), .val (.int p5), .val (.int p6), .val (.int (5 : Int32)), .val (.ref b96), .unset, .unset, .unset, .unset, .unset, .unset, .unset] [])) _
      refine XS.iload X107.here hx rfl (hb hby at_96) rfl ?_
      show Steps p.tables e below (T107.setTop (mkF m 98 #[.val (.int p1), .val (.int p2), .val (.int p3), .val (.int p4), .val (.int p5), .val (.int p6), .val (.int (5 : Int32)), .val (.ref b96), .unset, .unset, .unset, .unset, .unset, .unset, .unset] [(.int p5)])) _
      refine XS.istore X107.here hx rfl (hb hby at_98) rfl (l' := #[.val (.int p1), .val (.int p2), .val (.int p3), .val (.int p4), .val (.int p5), .val (.int p6), .val (.int (5 : Int32)), .val (.ref b96), .val (.int p5), .unset, .unset, .unset, .unset, .unset, .unset]) rfl ?_
      show Steps p.tables e below (T107.setTop (mkF m 100 #[.val (.int p1), .val (.int p2), .val (.int p3), .val (.int p4), .val (.int p5), .val (.int p6), .val (.int (5 : Int32)), .val (.ref b96), .val (.int p5), .unset, .unset, .unset, .unset, .unset, .unset] [])) _
      refine XS.iload X107.here hx rfl (hb hby at_100) rfl ?_
      show Steps p.tables e below (T107.setTop (mkF m 102 #[.val (.int p1), .val (.int p2), .val (.int p3), .val (.int p4), .val (.int p5), .val (.int p6), .val (.int (5 : Int32)), .val (.ref b96), .val (.int p5), .unset, .unset, .unset, .unset, .unset, .unset] [(.int (5 : Int32))])) _
      refine XS.iconst X107.here hx rfl (hb hby at_102) ?_
      show Steps p.tables e below (T107.setTop (mkF m 103 #[.val (.int p1), .val (.int p2), .val (.int p3), .val (.int p4), .val (.int p5), .val (.int p6), .val (.int (5 : Int32)), .val (.ref b96), .val (.int p5), .unset, .unset, .unset, .unset, .unset, .unset] [(.int (2 : Int32)), (.int (5 : Int32))])) _
      refine XS.icmpYes X107.here hx rfl (pc0 := 103) (pc' := 110) rfl (hb hby at_103) rfl (feq (by decide : ¬ ((5 : Int32) = (2 : Int32)))).2 (by decide) (by decide) ?_
      show Steps p.tables e below (T107.setTop (mkF m 110 #[.val (.int p1), .val (.int p2), .val (.int p3), .val (.int p4), .val (.int p5), .val (.int p6), .val (.int (5 : Int32)), .val (.ref b96), .val (.int p5), .unset, .unset, .unset, .unset, .unset, .unset] [])) _
      refine XS.iload X107.here hx rfl (hb hby at_110) rfl ?_
      show Steps p.tables e below (T107.setTop (mkF m 112 #[.val (.int p1), .val (.int p2), .val (.int p3), .val (.int p4), .val (.int p5), .val (.int p6), .val (.int (5 : Int32)), .val (.ref b96), .val (.int p5), .unset, .unset, .unset, .unset, .unset, .unset] [(.int (5 : Int32))])) _
      refine XS.iconst X107.here hx rfl (hb hby at_112) ?_
      show Steps p.tables e below (T107.setTop (mkF m 113 #[.val (.int p1), .val (.int p2), .val (.int p3), .val (.int p4), .val (.int p5), .val (.int p6), .val (.int (5 : Int32)), .val (.ref b96), .val (.int p5), .unset, .unset, .unset, .unset, .unset, .unset] [(.int (3 : Int32)), (.int (5 : Int32))])) _
      refine XS.icmpYes X107.here hx rfl (pc0 := 113) (pc' := 120) rfl (hb hby at_113) rfl (feq (by decide : ¬ ((5 : Int32) = (3 : Int32)))).2 (by decide) (by decide) ?_
      show Steps p.tables e below (T107.setTop (mkF m 120 #[.val (.int p1), .val (.int p2), .val (.int p3), .val (.int p4), .val (.int p5), .val (.int p6), .val (.int (5 : Int32)), .val (.ref b96), .val (.int p5), .unset, .unset, .unset, .unset, .unset, .unset] [])) _
      refine XS.iload X107.here hx rfl (hb hby at_120) rfl ?_
      show Steps p.tables e below (T107.setTop (mkF m 122 #[.val (.int p1), .val (.int p2), .val (.int p3), .val (.int p4), .val (.int p5), .val (.int p6), .val (.int (5 : Int32)), .val (.ref b96), .val (.int p5), .unset, .unset, .unset, .unset, .unset, .unset] [(.int (5 : Int32))])) _
      refine XS.iconst X107.here hx rfl (hb hby at_122) ?_
      show Steps p.tables e below (T107.setTop (mkF m 123 #[.val (.int p1), .val (.int p2), .val (.int p3), .val (.int p4), .val (.int p5), .val (.int p6), .val (.int (5 : Int32)), .val (.ref b96), .val (.int p5), .unset, .unset, .unset, .unset, .unset, .unset] [(.int (4 : Int32)), (.int (5 : Int32))])) _
      refine XS.icmpYes X107.here hx rfl (pc0 := 123) (pc' := 130) rfl (hb hby at_123) rfl (feq (by decide : ¬ ((5 : Int32) = (4 : Int32)))).2 (by decide) (by decide) ?_
      show Steps p.tables e below (T107.setTop (mkF m 130 #[.val (.int p1), .val (.int p2), .val (.int p3), .val (.int p4), .val (.int p5), .val (.int p6), .val (.int (5 : Int32)), .val (.ref b96), .val (.int p5), .unset, .unset, .unset, .unset, .unset, .unset] [])) _
      refine XS.iloadN X107.here hx rfl (hb hby at_130) rfl ?_
      show Steps p.tables e below (T107.setTop (mkF m 131 #[.val (.int p1), .val (.int p2), .val (.int p3), .val (.int p4), .val (.int p5), .val (.int p6), .val (.int (5 : Int32)), .val (.ref b96), .val (.int p5), .unset, .unset, .unset, .unset, .unset, .unset] [(.int p4)])) _
      refine XS.istore X107.here hx rfl (hb hby at_131) rfl (l' := #[.val (.int p1), .val (.int p2), .val (.int p3), .val (.int p4), .val (.int p5), .val (.int p6), .val (.int (5 : Int32)), .val (.ref b96), .val (.int p5), .val (.int p4), .unset, .unset, .unset, .unset, .unset]) rfl ?_
      show Steps p.tables e below (T107.setTop (mkF m 133 #[.val (.int p1), .val (.int p2), .val (.int p3), .val (.int p4), .val (.int p5), .val (.int p6), .val (.int (5 : Int32)), .val (.ref b96), .val (.int p5), .val (.int p4), .unset, .unset, .unset, .unset, .unset] [])) _
      refine XS.aload X107.here hx rfl (hb hby at_133) rfl rfl ?_
      show Steps p.tables e below (T107.setTop (mkF m 135 #[.val (.int p1), .val (.int p2), .val (.int p3), .val (.int p4), .val (.int p5), .val (.int p6), .val (.int (5 : Int32)), .val (.ref b96), .val (.int p5), .val (.int p4), .unset, .unset, .unset, .unset, .unset] [(.ref b96)])) _
      refine st109.trans ?_
      show Steps p.tables e below (T109.setTop (mkF m 138 #[.val (.int p1), .val (.int p2), .val (.int p3), .val (.int p4), .val (.int p5), .val (.int p6), .val (.int (5 : Int32)), .val (.ref b96), .val (.int p5), .val (.int p4), .unset, .unset, .unset, .unset, .unset] [(.int (F5006 p1 p2 p3 p4 p5 (0 : Int32) (0 : Int32) (0 : Int32)))])) _
      refine XS.istore X109.here hx rfl (hb hby at_138) rfl (l' := #[.val (.int p1), .val (.int p2), .val (.int p3), .val (.int p4), .val (.int p5), .val (.int p6), .val (.int (5 : Int32)), .val (.ref b96), .val (.int p5), .val (.int p4), .val (.int (F5006 p1 p2 p3 p4 p5 (0 : Int32) (0 : Int32) (0 : Int32))), .unset, .unset, .unset, .unset]) rfl ?_
      show Steps p.tables e below (T109.setTop (mkF m 140 #[.val (.int p1), .val (.int p2), .val (.int p3), .val (.int p4), .val (.int p5), .val (.int p6), .val (.int (5 : Int32)), .val (.ref b96), .val (.int p5), .val (.int p4), .val (.int (F5006 p1 p2 p3 p4 p5 (0 : Int32) (0 : Int32) (0 : Int32))), .unset, .unset, .unset, .unset] [])) _
      refine XS.aload X109.here hx rfl (hb hby at_140) rfl rfl ?_
      show Steps p.tables e below (T109.setTop (mkF m 142 #[.val (.int p1), .val (.int p2), .val (.int p3), .val (.int p4), .val (.int p5), .val (.int p6), .val (.int (5 : Int32)), .val (.ref b96), .val (.int p5), .val (.int p4), .val (.int (F5006 p1 p2 p3 p4 p5 (0 : Int32) (0 : Int32) (0 : Int32))), .unset, .unset, .unset, .unset] [(.ref b96)])) _
      refine st111.trans ?_
      show Steps p.tables e below (T111.setTop (mkF m 145 #[.val (.int p1), .val (.int p2), .val (.int p3), .val (.int p4), .val (.int p5), .val (.int p6), .val (.int (5 : Int32)), .val (.ref b96), .val (.int p5), .val (.int p4), .val (.int (F5006 p1 p2 p3 p4 p5 (0 : Int32) (0 : Int32) (0 : Int32))), .unset, .unset, .unset, .unset] [(.int (F7 (4 : Int32)))])) _
      refine XS.istore X111.here hx rfl (hb hby at_145) rfl (l' := #[.val (.int p1), .val (.int p2), .val (.int p3), .val (.int p4), .val (.int p5), .val (.int p6), .val (.int (5 : Int32)), .val (.ref b96), .val (.int p5), .val (.int p4), .val (.int (F5006 p1 p2 p3 p4 p5 (0 : Int32) (0 : Int32) (0 : Int32))), .val (.int (F7 (4 : Int32))), .unset, .unset, .unset]) rfl ?_
      show Steps p.tables e below (T111.setTop (mkF m 147 #[.val (.int p1), .val (.int p2), .val (.int p3), .val (.int p4), .val (.int p5), .val (.int p6), .val (.int (5 : Int32)), .val (.ref b96), .val (.int p5), .val (.int p4), .val (.int (F5006 p1 p2 p3 p4 p5 (0 : Int32) (0 : Int32) (0 : Int32))), .val (.int (F7 (4 : Int32))), .unset, .unset, .unset] [])) _
      refine XS.aload X111.here hx rfl (hb hby at_147) rfl rfl ?_
      show Steps p.tables e below (T111.setTop (mkF m 149 #[.val (.int p1), .val (.int p2), .val (.int p3), .val (.int p4), .val (.int p5), .val (.int p6), .val (.int (5 : Int32)), .val (.ref b96), .val (.int p5), .val (.int p4), .val (.int (F5006 p1 p2 p3 p4 p5 (0 : Int32) (0 : Int32) (0 : Int32))), .val (.int (F7 (4 : Int32))), .unset, .unset, .unset] [(.ref b96)])) _
      refine st113.trans ?_
      show Steps p.tables e below (T113.setTop (mkF m 152 #[.val (.int p1), .val (.int p2), .val (.int p3), .val (.int p4), .val (.int p5), .val (.int p6), .val (.int (5 : Int32)), .val (.ref b96), .val (.int p5), .val (.int p4), .val (.int (F5006 p1 p2 p3 p4 p5 (0 : Int32) (0 : Int32) (0 : Int32))), .val (.int (F7 (4 : Int32))), .unset, .unset, .unset] [(.int (F4006 p1 p2 p3 p4 p5 (0 : Int32) (0 : Int32) (0 : Int32)))])) _
      refine XS.istore X113.here hx rfl (hb hby at_152) rfl (l' := #[.val (.int p1), .val (.int p2), .val (.int p3), .val (.int p4), .val (.int p5), .val (.int p6), .val (.int (5 : Int32)), .val (.ref b96), .val (.int p5), .val (.int p4), .val (.int (F5006 p1 p2 p3 p4 p5 (0 : Int32) (0 : Int32) (0 : Int32))), .val (.int (F7 (4 : Int32))), .val (.int (F4006 p1 p2 p3 p4 p5 (0 : Int32) (0 : Int32) (0 : Int32))), .unset, .unset]) rfl ?_
      show Steps p.tables e below (T113.setTop (mkF m 154 #[.val (.int p1), .val (.int p2), .val (.int p3), .val (.int p4), .val (.int p5), .val (.int p6), .val (.int (5 : Int32)), .val (.ref b96), .val (.int p5), .val (.int p4), .val (.int (F5006 p1 p2 p3 p4 p5 (0 : Int32) (0 : Int32) (0 : Int32))), .val (.int (F7 (4 : Int32))), .val (.int (F4006 p1 p2 p3 p4 p5 (0 : Int32) (0 : Int32) (0 : Int32))), .unset, .unset] [])) _
      refine XS.aload X113.here hx rfl (hb hby at_154) rfl rfl ?_
      show Steps p.tables e below (T113.setTop (mkF m 156 #[.val (.int p1), .val (.int p2), .val (.int p3), .val (.int p4), .val (.int p5), .val (.int p6), .val (.int (5 : Int32)), .val (.ref b96), .val (.int p5), .val (.int p4), .val (.int (F5006 p1 p2 p3 p4 p5 (0 : Int32) (0 : Int32) (0 : Int32))), .val (.int (F7 (4 : Int32))), .val (.int (F4006 p1 p2 p3 p4 p5 (0 : Int32) (0 : Int32) (0 : Int32))), .unset, .unset] [(.ref b96)])) _
      refine st115.trans ?_
      show Steps p.tables e below (T115.setTop (mkF m 159 #[.val (.int p1), .val (.int p2), .val (.int p3), .val (.int p4), .val (.int p5), .val (.int p6), .val (.int (5 : Int32)), .val (.ref b96), .val (.int p5), .val (.int p4), .val (.int (F5006 p1 p2 p3 p4 p5 (0 : Int32) (0 : Int32) (0 : Int32))), .val (.int (F7 (4 : Int32))), .val (.int (F4006 p1 p2 p3 p4 p5 (0 : Int32) (0 : Int32) (0 : Int32))), .unset, .unset] [(.int (F7 (3 : Int32)))])) _
      refine XS.istore X115.here hx rfl (hb hby at_159) rfl (l' := #[.val (.int p1), .val (.int p2), .val (.int p3), .val (.int p4), .val (.int p5), .val (.int p6), .val (.int (5 : Int32)), .val (.ref b96), .val (.int p5), .val (.int p4), .val (.int (F5006 p1 p2 p3 p4 p5 (0 : Int32) (0 : Int32) (0 : Int32))), .val (.int (F7 (4 : Int32))), .val (.int (F4006 p1 p2 p3 p4 p5 (0 : Int32) (0 : Int32) (0 : Int32))), .val (.int (F7 (3 : Int32))), .unset]) rfl ?_
      show Steps p.tables e below (T115.setTop (mkF m 161 #[.val (.int p1), .val (.int p2), .val (.int p3), .val (.int p4), .val (.int p5), .val (.int p6), .val (.int (5 : Int32)), .val (.ref b96), .val (.int p5), .val (.int p4), .val (.int (F5006 p1 p2 p3 p4 p5 (0 : Int32) (0 : Int32) (0 : Int32))), .val (.int (F7 (4 : Int32))), .val (.int (F4006 p1 p2 p3 p4 p5 (0 : Int32) (0 : Int32) (0 : Int32))), .val (.int (F7 (3 : Int32))), .unset] [])) _
      refine XS.iload X115.here hx rfl (hb hby at_161) rfl ?_
      show Steps p.tables e below (T115.setTop (mkF m 163 #[.val (.int p1), .val (.int p2), .val (.int p3), .val (.int p4), .val (.int p5), .val (.int p6), .val (.int (5 : Int32)), .val (.ref b96), .val (.int p5), .val (.int p4), .val (.int (F5006 p1 p2 p3 p4 p5 (0 : Int32) (0 : Int32) (0 : Int32))), .val (.int (F7 (4 : Int32))), .val (.int (F4006 p1 p2 p3 p4 p5 (0 : Int32) (0 : Int32) (0 : Int32))), .val (.int (F7 (3 : Int32))), .unset] [(.int (F5006 p1 p2 p3 p4 p5 (0 : Int32) (0 : Int32) (0 : Int32)))])) _
      refine XS.iload X115.here hx rfl (hb hby at_163) rfl ?_
      exact kt
    have pre125 : ∀ t, Steps p.tables e below (T115.setTop (mkF m 198 #[.val (.int p1), .val (.int p2), .val (.int p3), .val (.int p4), .val (.int p5), .val (.int p6), .val (.int (5 : Int32)), .val (.ref b96), .val (.int p5), .val (.int p4), .val (.int (F5006 p1 p2 p3 p4 p5 (0 : Int32) (0 : Int32) (0 : Int32))), .val (.int (F7 (4 : Int32))), .val (.int (F4006 p1 p2 p3 p4 p5 (0 : Int32) (0 : Int32) (0 : Int32))), .val (.int (F7 (3 : Int32))), .unset] [(.int (if (F5006 p1 p2 p3 p4 p5 (0 : Int32) (0 : Int32) (0 : Int32)) = p5 then (if (F7 (4 : Int32)) = (4 : Int32) then (if (F4006 p1 p2 p3 p4 p5 (0 : Int32) (0 : Int32) (0 : Int32)) = p4 then (if (F7 (3 : Int32)) = (3 : Int32) then (1 : Int32) else (0 : Int32)) else (0 : Int32)) else (0 : Int32)) else (0 : Int32)))])) t → Steps p.tables e below (s₁.setTop (entryFrame m #[(.int p1), (.int p2), (.int p3), (.int p4), (.int p5), (.int p6)] maxLocals)) t := by
      by_cases hc118 : (F5006 p1 p2 p3 p4 p5 (0 : Int32) (0 : Int32) (0 : Int32)) = p5
      · have pre119 : ∀ t, Steps p.tables e below (T115.setTop (mkF m 174 #[.val (.int p1), .val (.int p2), .val (.int p3), .val (.int p4), .val (.int p5), .val (.int p6), .val (.int (5 : Int32)), .val (.ref b96), .val (.int p5), .val (.int p4), .val (.int (F5006 p1 p2 p3 p4 p5 (0 : Int32) (0 : Int32) (0 : Int32))), .val (.int (F7 (4 : Int32))), .val (.int (F4006 p1 p2 p3 p4 p5 (0 : Int32) (0 : Int32) (0 : Int32))), .val (.int (F7 (3 : Int32))), .unset] [(.int (4 : Int32)), (.int (F7 (4 : Int32)))])) t → Steps p.tables e below (s₁.setTop (entryFrame m #[(.int p1), (.int p2), (.int p3), (.int p4), (.int p5), (.int p6)] maxLocals)) t := fun t kt => by
          refine pre117 t ?_
          show Steps p.tables e below (T115.setTop (mkF m 165 #[.val (.int p1), .val (.int p2), .val (.int p3), .val (.int p4), .val (.int p5), .val (.int p6), .val (.int (5 : Int32)), .val (.ref b96), .val (.int p5), .val (.int p4), .val (.int (F5006 p1 p2 p3 p4 p5 (0 : Int32) (0 : Int32) (0 : Int32))), .val (.int (F7 (4 : Int32))), .val (.int (F4006 p1 p2 p3 p4 p5 (0 : Int32) (0 : Int32) (0 : Int32))), .val (.int (F7 (3 : Int32))), .unset] [(.int p5), (.int (F5006 p1 p2 p3 p4 p5 (0 : Int32) (0 : Int32) (0 : Int32)))])) _
          refine XS.icmpNo X115.here hx rfl (hb hby at_165) rfl (teq hc118).2 ?_
          show Steps p.tables e below (T115.setTop (mkF m 168 #[.val (.int p1), .val (.int p2), .val (.int p3), .val (.int p4), .val (.int p5), .val (.int p6), .val (.int (5 : Int32)), .val (.ref b96), .val (.int p5), .val (.int p4), .val (.int (F5006 p1 p2 p3 p4 p5 (0 : Int32) (0 : Int32) (0 : Int32))), .val (.int (F7 (4 : Int32))), .val (.int (F4006 p1 p2 p3 p4 p5 (0 : Int32) (0 : Int32) (0 : Int32))), .val (.int (F7 (3 : Int32))), .unset] [])) _
          refine XS.iload X115.here hx rfl (hb hby at_168) rfl ?_
          show Steps p.tables e below (T115.setTop (mkF m 170 #[.val (.int p1), .val (.int p2), .val (.int p3), .val (.int p4), .val (.int p5), .val (.int p6), .val (.int (5 : Int32)), .val (.ref b96), .val (.int p5), .val (.int p4), .val (.int (F5006 p1 p2 p3 p4 p5 (0 : Int32) (0 : Int32) (0 : Int32))), .val (.int (F7 (4 : Int32))), .val (.int (F4006 p1 p2 p3 p4 p5 (0 : Int32) (0 : Int32) (0 : Int32))), .val (.int (F7 (3 : Int32))), .unset] [(.int (F7 (4 : Int32)))])) _
          refine XS.iload X115.here hx rfl (hb hby at_170) rfl ?_
          show Steps p.tables e below (T115.setTop (mkF m 172 #[.val (.int p1), .val (.int p2), .val (.int p3), .val (.int p4), .val (.int p5), .val (.int p6), .val (.int (5 : Int32)), .val (.ref b96), .val (.int p5), .val (.int p4), .val (.int (F5006 p1 p2 p3 p4 p5 (0 : Int32) (0 : Int32) (0 : Int32))), .val (.int (F7 (4 : Int32))), .val (.int (F4006 p1 p2 p3 p4 p5 (0 : Int32) (0 : Int32) (0 : Int32))), .val (.int (F7 (3 : Int32))), .unset] [(.int (5 : Int32)), (.int (F7 (4 : Int32)))])) _
          refine XS.iconst X115.here hx rfl (hb hby at_172) ?_
          show Steps p.tables e below (T115.setTop (mkF m 173 #[.val (.int p1), .val (.int p2), .val (.int p3), .val (.int p4), .val (.int p5), .val (.int p6), .val (.int (5 : Int32)), .val (.ref b96), .val (.int p5), .val (.int p4), .val (.int (F5006 p1 p2 p3 p4 p5 (0 : Int32) (0 : Int32) (0 : Int32))), .val (.int (F7 (4 : Int32))), .val (.int (F4006 p1 p2 p3 p4 p5 (0 : Int32) (0 : Int32) (0 : Int32))), .val (.int (F7 (3 : Int32))), .unset] [(.int (1 : Int32)), (.int (5 : Int32)), (.int (F7 (4 : Int32)))])) _
          refine XS.isub X115.here hx rfl (hb hby at_173) rfl ?_
          exact kt
        by_cases hc120 : (F7 (4 : Int32)) = (4 : Int32)
        · have pre121 : ∀ t, Steps p.tables e below (T115.setTop (mkF m 181 #[.val (.int p1), .val (.int p2), .val (.int p3), .val (.int p4), .val (.int p5), .val (.int p6), .val (.int (5 : Int32)), .val (.ref b96), .val (.int p5), .val (.int p4), .val (.int (F5006 p1 p2 p3 p4 p5 (0 : Int32) (0 : Int32) (0 : Int32))), .val (.int (F7 (4 : Int32))), .val (.int (F4006 p1 p2 p3 p4 p5 (0 : Int32) (0 : Int32) (0 : Int32))), .val (.int (F7 (3 : Int32))), .unset] [(.int p4), (.int (F4006 p1 p2 p3 p4 p5 (0 : Int32) (0 : Int32) (0 : Int32)))])) t → Steps p.tables e below (s₁.setTop (entryFrame m #[(.int p1), (.int p2), (.int p3), (.int p4), (.int p5), (.int p6)] maxLocals)) t := fun t kt => by
            refine pre119 t ?_
            show Steps p.tables e below (T115.setTop (mkF m 174 #[.val (.int p1), .val (.int p2), .val (.int p3), .val (.int p4), .val (.int p5), .val (.int p6), .val (.int (5 : Int32)), .val (.ref b96), .val (.int p5), .val (.int p4), .val (.int (F5006 p1 p2 p3 p4 p5 (0 : Int32) (0 : Int32) (0 : Int32))), .val (.int (F7 (4 : Int32))), .val (.int (F4006 p1 p2 p3 p4 p5 (0 : Int32) (0 : Int32) (0 : Int32))), .val (.int (F7 (3 : Int32))), .unset] [(.int (4 : Int32)), (.int (F7 (4 : Int32)))])) _
            refine XS.icmpNo X115.here hx rfl (hb hby at_174) rfl (teq hc120).2 ?_
            show Steps p.tables e below (T115.setTop (mkF m 177 #[.val (.int p1), .val (.int p2), .val (.int p3), .val (.int p4), .val (.int p5), .val (.int p6), .val (.int (5 : Int32)), .val (.ref b96), .val (.int p5), .val (.int p4), .val (.int (F5006 p1 p2 p3 p4 p5 (0 : Int32) (0 : Int32) (0 : Int32))), .val (.int (F7 (4 : Int32))), .val (.int (F4006 p1 p2 p3 p4 p5 (0 : Int32) (0 : Int32) (0 : Int32))), .val (.int (F7 (3 : Int32))), .unset] [])) _
            refine XS.iload X115.here hx rfl (hb hby at_177) rfl ?_
            show Steps p.tables e below (T115.setTop (mkF m 179 #[.val (.int p1), .val (.int p2), .val (.int p3), .val (.int p4), .val (.int p5), .val (.int p6), .val (.int (5 : Int32)), .val (.ref b96), .val (.int p5), .val (.int p4), .val (.int (F5006 p1 p2 p3 p4 p5 (0 : Int32) (0 : Int32) (0 : Int32))), .val (.int (F7 (4 : Int32))), .val (.int (F4006 p1 p2 p3 p4 p5 (0 : Int32) (0 : Int32) (0 : Int32))), .val (.int (F7 (3 : Int32))), .unset] [(.int (F4006 p1 p2 p3 p4 p5 (0 : Int32) (0 : Int32) (0 : Int32)))])) _
            refine XS.iload X115.here hx rfl (hb hby at_179) rfl ?_
            exact kt
          by_cases hc122 : (F4006 p1 p2 p3 p4 p5 (0 : Int32) (0 : Int32) (0 : Int32)) = p4
          · have pre123 : ∀ t, Steps p.tables e below (T115.setTop (mkF m 190 #[.val (.int p1), .val (.int p2), .val (.int p3), .val (.int p4), .val (.int p5), .val (.int p6), .val (.int (5 : Int32)), .val (.ref b96), .val (.int p5), .val (.int p4), .val (.int (F5006 p1 p2 p3 p4 p5 (0 : Int32) (0 : Int32) (0 : Int32))), .val (.int (F7 (4 : Int32))), .val (.int (F4006 p1 p2 p3 p4 p5 (0 : Int32) (0 : Int32) (0 : Int32))), .val (.int (F7 (3 : Int32))), .unset] [(.int (3 : Int32)), (.int (F7 (3 : Int32)))])) t → Steps p.tables e below (s₁.setTop (entryFrame m #[(.int p1), (.int p2), (.int p3), (.int p4), (.int p5), (.int p6)] maxLocals)) t := fun t kt => by
              refine pre121 t ?_
              show Steps p.tables e below (T115.setTop (mkF m 181 #[.val (.int p1), .val (.int p2), .val (.int p3), .val (.int p4), .val (.int p5), .val (.int p6), .val (.int (5 : Int32)), .val (.ref b96), .val (.int p5), .val (.int p4), .val (.int (F5006 p1 p2 p3 p4 p5 (0 : Int32) (0 : Int32) (0 : Int32))), .val (.int (F7 (4 : Int32))), .val (.int (F4006 p1 p2 p3 p4 p5 (0 : Int32) (0 : Int32) (0 : Int32))), .val (.int (F7 (3 : Int32))), .unset] [(.int p4), (.int (F4006 p1 p2 p3 p4 p5 (0 : Int32) (0 : Int32) (0 : Int32)))])) _
              refine XS.icmpNo X115.here hx rfl (hb hby at_181) rfl (teq hc122).2 ?_
              show Steps p.tables e below (T115.setTop (mkF m 184 #[.val (.int p1), .val (.int p2), .val (.int p3), .val (.int p4), .val (.int p5), .val (.int p6), .val (.int (5 : Int32)), .val (.ref b96), .val (.int p5), .val (.int p4), .val (.int (F5006 p1 p2 p3 p4 p5 (0 : Int32) (0 : Int32) (0 : Int32))), .val (.int (F7 (4 : Int32))), .val (.int (F4006 p1 p2 p3 p4 p5 (0 : Int32) (0 : Int32) (0 : Int32))), .val (.int (F7 (3 : Int32))), .unset] [])) _
              refine XS.iload X115.here hx rfl (hb hby at_184) rfl ?_
              show Steps p.tables e below (T115.setTop (mkF m 186 #[.val (.int p1), .val (.int p2), .val (.int p3), .val (.int p4), .val (.int p5), .val (.int p6), .val (.int (5 : Int32)), .val (.ref b96), .val (.int p5), .val (.int p4), .val (.int (F5006 p1 p2 p3 p4 p5 (0 : Int32) (0 : Int32) (0 : Int32))), .val (.int (F7 (4 : Int32))), .val (.int (F4006 p1 p2 p3 p4 p5 (0 : Int32) (0 : Int32) (0 : Int32))), .val (.int (F7 (3 : Int32))), .unset] [(.int (F7 (3 : Int32)))])) _
              refine XS.iload X115.here hx rfl (hb hby at_186) rfl ?_
              show Steps p.tables e below (T115.setTop (mkF m 188 #[.val (.int p1), .val (.int p2), .val (.int p3), .val (.int p4), .val (.int p5), .val (.int p6), .val (.int (5 : Int32)), .val (.ref b96), .val (.int p5), .val (.int p4), .val (.int (F5006 p1 p2 p3 p4 p5 (0 : Int32) (0 : Int32) (0 : Int32))), .val (.int (F7 (4 : Int32))), .val (.int (F4006 p1 p2 p3 p4 p5 (0 : Int32) (0 : Int32) (0 : Int32))), .val (.int (F7 (3 : Int32))), .unset] [(.int (5 : Int32)), (.int (F7 (3 : Int32)))])) _
              refine XS.iconst X115.here hx rfl (hb hby at_188) ?_
              show Steps p.tables e below (T115.setTop (mkF m 189 #[.val (.int p1), .val (.int p2), .val (.int p3), .val (.int p4), .val (.int p5), .val (.int p6), .val (.int (5 : Int32)), .val (.ref b96), .val (.int p5), .val (.int p4), .val (.int (F5006 p1 p2 p3 p4 p5 (0 : Int32) (0 : Int32) (0 : Int32))), .val (.int (F7 (4 : Int32))), .val (.int (F4006 p1 p2 p3 p4 p5 (0 : Int32) (0 : Int32) (0 : Int32))), .val (.int (F7 (3 : Int32))), .unset] [(.int (2 : Int32)), (.int (5 : Int32)), (.int (F7 (3 : Int32)))])) _
              refine XS.isub X115.here hx rfl (hb hby at_189) rfl ?_
              exact kt
            by_cases hc124 : (F7 (3 : Int32)) = (3 : Int32)
            · refine fun t kt => pre123 t ?_
              repeat rw [if_pos hc118] at kt
              repeat rw [if_pos hc120] at kt
              repeat rw [if_pos hc122] at kt
              repeat rw [if_pos hc124] at kt
              show Steps p.tables e below (T115.setTop (mkF m 190 #[.val (.int p1), .val (.int p2), .val (.int p3), .val (.int p4), .val (.int p5), .val (.int p6), .val (.int (5 : Int32)), .val (.ref b96), .val (.int p5), .val (.int p4), .val (.int (F5006 p1 p2 p3 p4 p5 (0 : Int32) (0 : Int32) (0 : Int32))), .val (.int (F7 (4 : Int32))), .val (.int (F4006 p1 p2 p3 p4 p5 (0 : Int32) (0 : Int32) (0 : Int32))), .val (.int (F7 (3 : Int32))), .unset] [(.int (3 : Int32)), (.int (F7 (3 : Int32)))])) _
              refine XS.icmpNo X115.here hx rfl (hb hby at_190) rfl (teq hc124).2 ?_
              show Steps p.tables e below (T115.setTop (mkF m 193 #[.val (.int p1), .val (.int p2), .val (.int p3), .val (.int p4), .val (.int p5), .val (.int p6), .val (.int (5 : Int32)), .val (.ref b96), .val (.int p5), .val (.int p4), .val (.int (F5006 p1 p2 p3 p4 p5 (0 : Int32) (0 : Int32) (0 : Int32))), .val (.int (F7 (4 : Int32))), .val (.int (F4006 p1 p2 p3 p4 p5 (0 : Int32) (0 : Int32) (0 : Int32))), .val (.int (F7 (3 : Int32))), .unset] [])) _
              refine XS.iconst X115.here hx rfl (hb hby at_193) ?_
              show Steps p.tables e below (T115.setTop (mkF m 194 #[.val (.int p1), .val (.int p2), .val (.int p3), .val (.int p4), .val (.int p5), .val (.int p6), .val (.int (5 : Int32)), .val (.ref b96), .val (.int p5), .val (.int p4), .val (.int (F5006 p1 p2 p3 p4 p5 (0 : Int32) (0 : Int32) (0 : Int32))), .val (.int (F7 (4 : Int32))), .val (.int (F4006 p1 p2 p3 p4 p5 (0 : Int32) (0 : Int32) (0 : Int32))), .val (.int (F7 (3 : Int32))), .unset] [(.int (1 : Int32))])) _
              refine XS.goto X115.here hx rfl (pc0 := 194) (pc' := 198) rfl (hb hby at_194) (by decide) (by decide) ?_
              exact kt
            · refine fun t kt => pre123 t ?_
              repeat rw [if_pos hc118] at kt
              repeat rw [if_pos hc120] at kt
              repeat rw [if_pos hc122] at kt
              repeat rw [if_neg hc124] at kt
              show Steps p.tables e below (T115.setTop (mkF m 190 #[.val (.int p1), .val (.int p2), .val (.int p3), .val (.int p4), .val (.int p5), .val (.int p6), .val (.int (5 : Int32)), .val (.ref b96), .val (.int p5), .val (.int p4), .val (.int (F5006 p1 p2 p3 p4 p5 (0 : Int32) (0 : Int32) (0 : Int32))), .val (.int (F7 (4 : Int32))), .val (.int (F4006 p1 p2 p3 p4 p5 (0 : Int32) (0 : Int32) (0 : Int32))), .val (.int (F7 (3 : Int32))), .unset] [(.int (3 : Int32)), (.int (F7 (3 : Int32)))])) _
              refine XS.icmpYes X115.here hx rfl (pc0 := 190) (pc' := 197) rfl (hb hby at_190) rfl (feq hc124).2 (by decide) (by decide) ?_
              show Steps p.tables e below (T115.setTop (mkF m 197 #[.val (.int p1), .val (.int p2), .val (.int p3), .val (.int p4), .val (.int p5), .val (.int p6), .val (.int (5 : Int32)), .val (.ref b96), .val (.int p5), .val (.int p4), .val (.int (F5006 p1 p2 p3 p4 p5 (0 : Int32) (0 : Int32) (0 : Int32))), .val (.int (F7 (4 : Int32))), .val (.int (F4006 p1 p2 p3 p4 p5 (0 : Int32) (0 : Int32) (0 : Int32))), .val (.int (F7 (3 : Int32))), .unset] [])) _
              refine XS.iconst X115.here hx rfl (hb hby at_197) ?_
              exact kt
          · refine fun t kt => pre121 t ?_
            repeat rw [if_pos hc118] at kt
            repeat rw [if_pos hc120] at kt
            repeat rw [if_neg hc122] at kt
            show Steps p.tables e below (T115.setTop (mkF m 181 #[.val (.int p1), .val (.int p2), .val (.int p3), .val (.int p4), .val (.int p5), .val (.int p6), .val (.int (5 : Int32)), .val (.ref b96), .val (.int p5), .val (.int p4), .val (.int (F5006 p1 p2 p3 p4 p5 (0 : Int32) (0 : Int32) (0 : Int32))), .val (.int (F7 (4 : Int32))), .val (.int (F4006 p1 p2 p3 p4 p5 (0 : Int32) (0 : Int32) (0 : Int32))), .val (.int (F7 (3 : Int32))), .unset] [(.int p4), (.int (F4006 p1 p2 p3 p4 p5 (0 : Int32) (0 : Int32) (0 : Int32)))])) _
            refine XS.icmpYes X115.here hx rfl (pc0 := 181) (pc' := 197) rfl (hb hby at_181) rfl (feq hc122).2 (by decide) (by decide) ?_
            show Steps p.tables e below (T115.setTop (mkF m 197 #[.val (.int p1), .val (.int p2), .val (.int p3), .val (.int p4), .val (.int p5), .val (.int p6), .val (.int (5 : Int32)), .val (.ref b96), .val (.int p5), .val (.int p4), .val (.int (F5006 p1 p2 p3 p4 p5 (0 : Int32) (0 : Int32) (0 : Int32))), .val (.int (F7 (4 : Int32))), .val (.int (F4006 p1 p2 p3 p4 p5 (0 : Int32) (0 : Int32) (0 : Int32))), .val (.int (F7 (3 : Int32))), .unset] [])) _
            refine XS.iconst X115.here hx rfl (hb hby at_197) ?_
            exact kt
        · refine fun t kt => pre119 t ?_
          repeat rw [if_pos hc118] at kt
          repeat rw [if_neg hc120] at kt
          show Steps p.tables e below (T115.setTop (mkF m 174 #[.val (.int p1), .val (.int p2), .val (.int p3), .val (.int p4), .val (.int p5), .val (.int p6), .val (.int (5 : Int32)), .val (.ref b96), .val (.int p5), .val (.int p4), .val (.int (F5006 p1 p2 p3 p4 p5 (0 : Int32) (0 : Int32) (0 : Int32))), .val (.int (F7 (4 : Int32))), .val (.int (F4006 p1 p2 p3 p4 p5 (0 : Int32) (0 : Int32) (0 : Int32))), .val (.int (F7 (3 : Int32))), .unset] [(.int (4 : Int32)), (.int (F7 (4 : Int32)))])) _
          refine XS.icmpYes X115.here hx rfl (pc0 := 174) (pc' := 197) rfl (hb hby at_174) rfl (feq hc120).2 (by decide) (by decide) ?_
          show Steps p.tables e below (T115.setTop (mkF m 197 #[.val (.int p1), .val (.int p2), .val (.int p3), .val (.int p4), .val (.int p5), .val (.int p6), .val (.int (5 : Int32)), .val (.ref b96), .val (.int p5), .val (.int p4), .val (.int (F5006 p1 p2 p3 p4 p5 (0 : Int32) (0 : Int32) (0 : Int32))), .val (.int (F7 (4 : Int32))), .val (.int (F4006 p1 p2 p3 p4 p5 (0 : Int32) (0 : Int32) (0 : Int32))), .val (.int (F7 (3 : Int32))), .unset] [])) _
          refine XS.iconst X115.here hx rfl (hb hby at_197) ?_
          exact kt
      · refine fun t kt => pre117 t ?_
        repeat rw [if_neg hc118] at kt
        show Steps p.tables e below (T115.setTop (mkF m 165 #[.val (.int p1), .val (.int p2), .val (.int p3), .val (.int p4), .val (.int p5), .val (.int p6), .val (.int (5 : Int32)), .val (.ref b96), .val (.int p5), .val (.int p4), .val (.int (F5006 p1 p2 p3 p4 p5 (0 : Int32) (0 : Int32) (0 : Int32))), .val (.int (F7 (4 : Int32))), .val (.int (F4006 p1 p2 p3 p4 p5 (0 : Int32) (0 : Int32) (0 : Int32))), .val (.int (F7 (3 : Int32))), .unset] [(.int p5), (.int (F5006 p1 p2 p3 p4 p5 (0 : Int32) (0 : Int32) (0 : Int32)))])) _
        refine XS.icmpYes X115.here hx rfl (pc0 := 165) (pc' := 197) rfl (hb hby at_165) rfl (feq hc118).2 (by decide) (by decide) ?_
        show Steps p.tables e below (T115.setTop (mkF m 197 #[.val (.int p1), .val (.int p2), .val (.int p3), .val (.int p4), .val (.int p5), .val (.int p6), .val (.int (5 : Int32)), .val (.ref b96), .val (.int p5), .val (.int p4), .val (.int (F5006 p1 p2 p3 p4 p5 (0 : Int32) (0 : Int32) (0 : Int32))), .val (.int (F7 (4 : Int32))), .val (.int (F4006 p1 p2 p3 p4 p5 (0 : Int32) (0 : Int32) (0 : Int32))), .val (.int (F7 (3 : Int32))), .unset] [])) _
        refine XS.iconst X115.here hx rfl (hb hby at_197) ?_
        exact kt
    obtain ⟨v126, hv126⟩ : ∃ z : Int32, z = (if (F5006 p1 p2 p3 p4 p5 (0 : Int32) (0 : Int32) (0 : Int32)) = p5 then (if (F7 (4 : Int32)) = (4 : Int32) then (if (F4006 p1 p2 p3 p4 p5 (0 : Int32) (0 : Int32) (0 : Int32)) = p4 then (if (F7 (3 : Int32)) = (3 : Int32) then (1 : Int32) else (0 : Int32)) else (0 : Int32)) else (0 : Int32)) else (0 : Int32)) := ⟨_, rfl⟩
    rw [← hv126] at pre125
    have pre127 : ∀ t, Steps p.tables e below (T115.setTop (mkF m 208 #[.val (.int p1), .val (.int p2), .val (.int p3), .val (.int p4), .val (.int p5), .val (.int p6), .val (.int (5 : Int32)), .val (.ref b96), .val (.int p5), .val (.int p4), .val (.int (F5006 p1 p2 p3 p4 p5 (0 : Int32) (0 : Int32) (0 : Int32))), .val (.int (F7 (4 : Int32))), .val (.int (F4006 p1 p2 p3 p4 p5 (0 : Int32) (0 : Int32) (0 : Int32))), .val (.int (F7 (3 : Int32))), .val (.int v126)] [(.int v126)])) t → Steps p.tables e below (s₁.setTop (entryFrame m #[(.int p1), (.int p2), (.int p3), (.int p4), (.int p5), (.int p6)] maxLocals)) t := fun t kt => by
      refine pre125 t ?_
      show Steps p.tables e below (T115.setTop (mkF m 198 #[.val (.int p1), .val (.int p2), .val (.int p3), .val (.int p4), .val (.int p5), .val (.int p6), .val (.int (5 : Int32)), .val (.ref b96), .val (.int p5), .val (.int p4), .val (.int (F5006 p1 p2 p3 p4 p5 (0 : Int32) (0 : Int32) (0 : Int32))), .val (.int (F7 (4 : Int32))), .val (.int (F4006 p1 p2 p3 p4 p5 (0 : Int32) (0 : Int32) (0 : Int32))), .val (.int (F7 (3 : Int32))), .unset] [(.int v126)])) _
      refine XS.istore X115.here hx rfl (hb hby at_198) rfl (l' := #[.val (.int p1), .val (.int p2), .val (.int p3), .val (.int p4), .val (.int p5), .val (.int p6), .val (.int (5 : Int32)), .val (.ref b96), .val (.int p5), .val (.int p4), .val (.int (F5006 p1 p2 p3 p4 p5 (0 : Int32) (0 : Int32) (0 : Int32))), .val (.int (F7 (4 : Int32))), .val (.int (F4006 p1 p2 p3 p4 p5 (0 : Int32) (0 : Int32) (0 : Int32))), .val (.int (F7 (3 : Int32))), .val (.int v126)]) rfl ?_
      show Steps p.tables e below (T115.setTop (mkF m 200 #[.val (.int p1), .val (.int p2), .val (.int p3), .val (.int p4), .val (.int p5), .val (.int p6), .val (.int (5 : Int32)), .val (.ref b96), .val (.int p5), .val (.int p4), .val (.int (F5006 p1 p2 p3 p4 p5 (0 : Int32) (0 : Int32) (0 : Int32))), .val (.int (F7 (4 : Int32))), .val (.int (F4006 p1 p2 p3 p4 p5 (0 : Int32) (0 : Int32) (0 : Int32))), .val (.int (F7 (3 : Int32))), .val (.int v126)] [])) _
      refine XS.iload X115.here hx rfl (hb hby at_200) rfl ?_
      show Steps p.tables e below (T115.setTop (mkF m 202 #[.val (.int p1), .val (.int p2), .val (.int p3), .val (.int p4), .val (.int p5), .val (.int p6), .val (.int (5 : Int32)), .val (.ref b96), .val (.int p5), .val (.int p4), .val (.int (F5006 p1 p2 p3 p4 p5 (0 : Int32) (0 : Int32) (0 : Int32))), .val (.int (F7 (4 : Int32))), .val (.int (F4006 p1 p2 p3 p4 p5 (0 : Int32) (0 : Int32) (0 : Int32))), .val (.int (F7 (3 : Int32))), .val (.int v126)] [(.int (5 : Int32))])) _
      refine XS.iconst X115.here hx rfl (hb hby at_202) ?_
      show Steps p.tables e below (T115.setTop (mkF m 203 #[.val (.int p1), .val (.int p2), .val (.int p3), .val (.int p4), .val (.int p5), .val (.int p6), .val (.int (5 : Int32)), .val (.ref b96), .val (.int p5), .val (.int p4), .val (.int (F5006 p1 p2 p3 p4 p5 (0 : Int32) (0 : Int32) (0 : Int32))), .val (.int (F7 (4 : Int32))), .val (.int (F4006 p1 p2 p3 p4 p5 (0 : Int32) (0 : Int32) (0 : Int32))), .val (.int (F7 (3 : Int32))), .val (.int v126)] [(.int (3 : Int32)), (.int (5 : Int32))])) _
      refine XS.icmpNo X115.here hx rfl (hb hby at_203) rfl (flt (by decide : ¬ ((5 : Int32) < (3 : Int32)))).1 ?_
      show Steps p.tables e below (T115.setTop (mkF m 206 #[.val (.int p1), .val (.int p2), .val (.int p3), .val (.int p4), .val (.int p5), .val (.int p6), .val (.int (5 : Int32)), .val (.ref b96), .val (.int p5), .val (.int p4), .val (.int (F5006 p1 p2 p3 p4 p5 (0 : Int32) (0 : Int32) (0 : Int32))), .val (.int (F7 (4 : Int32))), .val (.int (F4006 p1 p2 p3 p4 p5 (0 : Int32) (0 : Int32) (0 : Int32))), .val (.int (F7 (3 : Int32))), .val (.int v126)] [])) _
      refine XS.iload X115.here hx rfl (hb hby at_206) rfl ?_
      exact kt
    by_cases hc128 : v126 = (0 : Int32)
    · exact (leaf_0_8 p1 p2 p3 p4 p5 p6 hk2 v126 hv126 hc128).elim
    · have q130 := (q114.keep K113 (ninS (Ne.symm ne_b96_b107_0) nin0))
      obtain ⟨cq129, kq129, q129a, q129b, q129c⟩ := isOf hZ e115 f113_0
      obtain ⟨_, _, ⟨T129, L129, k129, n129⟩, -, X129, ⟨Lc129, hQ129, l129, y129, z129⟩, st129⟩ := X115.virtualBack hx (y := (⟨"com/example/krel/krel/saturation/IntList", "get", "(I)I"⟩ : MethodName)) (z := (⟨"com/example/krel/krel/saturation/IntList", "get", "(I)I"⟩ : MethodName)) hown (mvT hZ (hw _ (List.mem_of_getElem? (i := 41) rfl))) (mvT hZ (hw _ (List.mem_of_getElem? (i := 42) rfl))) (notFace_of_selects (args := #[]) (mvT hZ (hw _ (List.mem_of_getElem? (i := 44) rfl)))) (mvT hZ (hw _ (List.mem_of_getElem? (i := 44) rfl))) (mvT hZ (hw _ (List.mem_of_getElem? (i := 43) rfl))) (by decide) (backOf (W := 0) (rm1008 l Z a0 hw [] b96 b107_0 kk107_0 p1 p2 p3 p4 p5 (0 : Int32) (0 : Int32) (0 : Int32) T113.heap n0 z116 f113_0 f113_2 q130) hZ (hw _ (List.mem_of_getElem? (i := 45) rfl)) (hw _ (List.mem_of_getElem? (i := 2) rfl)) (by decide) (by decide)) q129a q129c (g := (mkF m 214 #[.val (.int p1), .val (.int p2), .val (.int p3), .val (.int p4), .val (.int p5), .val (.int p6), .val (.int (5 : Int32)), .val (.ref b96), .val (.int p5), .val (.int p4), .val (.int (F5006 p1 p2 p3 p4 p5 (0 : Int32) (0 : Int32) (0 : Int32))), .val (.int (F7 (4 : Int32))), .val (.int (F4006 p1 p2 p3 p4 p5 (0 : Int32) (0 : Int32) (0 : Int32))), .val (.int (F7 (3 : Int32))), .val (.int v126)] [(.int (0 : Int32)), (.ref b96)])) rfl (by rw [hml]; rfl) (Steps.refl _) (argsL := [(.int (0 : Int32))]) (rest := []) (lenOf pd_0_6 rfl) rfl (by show 2 * 0 + _ ≤ _; exact Nat.le_of_eq rfl) (hb hby at_214) (fun _ _ => ⟨rfl, e115, (by decide : 3 + 0 ≤ _), (by decide : 14 + 0 ≤ _)⟩)
      dsimp only [Pt.U, Pt.locs, Pt.cells, Pt.slots] at X129 l129 y129 z129 st129 hQ129
      subst l129 y129 z129
      obtain ⟨rfl, N129q, e129⟩ := hQ129
      have N129 := Fr.app N115 N129q
      have pre131 : ∀ t, Steps p.tables e below (T129.setTop (mkF m 218 #[.val (.int p1), .val (.int p2), .val (.int p3), .val (.int p4), .val (.int p5), .val (.int p6), .val (.int (5 : Int32)), .val (.ref b96), .val (.int p5), .val (.int p4), .val (.int (F5006 p1 p2 p3 p4 p5 (0 : Int32) (0 : Int32) (0 : Int32))), .val (.int (F7 (4 : Int32))), .val (.int (F4006 p1 p2 p3 p4 p5 (0 : Int32) (0 : Int32) (0 : Int32))), .val (.int (F7 (3 : Int32))), .val (.int v126)] [(.int p1), (.int (F1008 p1 p2 p3 p4 p5 (0 : Int32) (0 : Int32) (0 : Int32)))])) t → Steps p.tables e below (s₁.setTop (entryFrame m #[(.int p1), (.int p2), (.int p3), (.int p4), (.int p5), (.int p6)] maxLocals)) t := fun t kt => by
        refine pre127 t ?_
        show Steps p.tables e below (T115.setTop (mkF m 208 #[.val (.int p1), .val (.int p2), .val (.int p3), .val (.int p4), .val (.int p5), .val (.int p6), .val (.int (5 : Int32)), .val (.ref b96), .val (.int p5), .val (.int p4), .val (.int (F5006 p1 p2 p3 p4 p5 (0 : Int32) (0 : Int32) (0 : Int32))), .val (.int (F7 (4 : Int32))), .val (.int (F4006 p1 p2 p3 p4 p5 (0 : Int32) (0 : Int32) (0 : Int32))), .val (.int (F7 (3 : Int32))), .val (.int v126)] [(.int v126)])) _
        refine XS.ifNo X115.here hx rfl (hb hby at_208) rfl ((if0 _ _).trans (feq hc128).1) ?_
        show Steps p.tables e below (T115.setTop (mkF m 211 #[.val (.int p1), .val (.int p2), .val (.int p3), .val (.int p4), .val (.int p5), .val (.int p6), .val (.int (5 : Int32)), .val (.ref b96), .val (.int p5), .val (.int p4), .val (.int (F5006 p1 p2 p3 p4 p5 (0 : Int32) (0 : Int32) (0 : Int32))), .val (.int (F7 (4 : Int32))), .val (.int (F4006 p1 p2 p3 p4 p5 (0 : Int32) (0 : Int32) (0 : Int32))), .val (.int (F7 (3 : Int32))), .val (.int v126)] [])) _
        refine XS.aload X115.here hx rfl (hb hby at_211) rfl rfl ?_
        show Steps p.tables e below (T115.setTop (mkF m 213 #[.val (.int p1), .val (.int p2), .val (.int p3), .val (.int p4), .val (.int p5), .val (.int p6), .val (.int (5 : Int32)), .val (.ref b96), .val (.int p5), .val (.int p4), .val (.int (F5006 p1 p2 p3 p4 p5 (0 : Int32) (0 : Int32) (0 : Int32))), .val (.int (F7 (4 : Int32))), .val (.int (F4006 p1 p2 p3 p4 p5 (0 : Int32) (0 : Int32) (0 : Int32))), .val (.int (F7 (3 : Int32))), .val (.int v126)] [(.ref b96)])) _
        refine XS.iconst X115.here hx rfl (hb hby at_213) ?_
        show Steps p.tables e below (T115.setTop (mkF m 214 #[.val (.int p1), .val (.int p2), .val (.int p3), .val (.int p4), .val (.int p5), .val (.int p6), .val (.int (5 : Int32)), .val (.ref b96), .val (.int p5), .val (.int p4), .val (.int (F5006 p1 p2 p3 p4 p5 (0 : Int32) (0 : Int32) (0 : Int32))), .val (.int (F7 (4 : Int32))), .val (.int (F4006 p1 p2 p3 p4 p5 (0 : Int32) (0 : Int32) (0 : Int32))), .val (.int (F7 (3 : Int32))), .val (.int v126)] [(.int (0 : Int32)), (.ref b96)])) _
        refine st129.trans ?_
        show Steps p.tables e below (T129.setTop (mkF m 217 #[.val (.int p1), .val (.int p2), .val (.int p3), .val (.int p4), .val (.int p5), .val (.int p6), .val (.int (5 : Int32)), .val (.ref b96), .val (.int p5), .val (.int p4), .val (.int (F5006 p1 p2 p3 p4 p5 (0 : Int32) (0 : Int32) (0 : Int32))), .val (.int (F7 (4 : Int32))), .val (.int (F4006 p1 p2 p3 p4 p5 (0 : Int32) (0 : Int32) (0 : Int32))), .val (.int (F7 (3 : Int32))), .val (.int v126)] [(.int (F1008 p1 p2 p3 p4 p5 (0 : Int32) (0 : Int32) (0 : Int32)))])) _
        refine XS.iloadN X129.here hx rfl (hb hby at_217) rfl ?_
        exact kt
      by_cases hc132 : (F1008 p1 p2 p3 p4 p5 (0 : Int32) (0 : Int32) (0 : Int32)) = p1
      · obtain ⟨fs, hr, hrun, hended, hW, hsame⟩ := X129.leave (v := some (.int (1 : Int32))) (fun h => by rw [Bd.returns] at h; cases h)
        refine ⟨_, _, pre131 _ ?_, hrun, hended, _, _, rfl, ?_, ⟨_, rfl⟩, hW, hsame.mono (by decide) (by decide)⟩
        · show Steps p.tables e below (T129.setTop (mkF m 218 #[.val (.int p1), .val (.int p2), .val (.int p3), .val (.int p4), .val (.int p5), .val (.int p6), .val (.int (5 : Int32)), .val (.ref b96), .val (.int p5), .val (.int p4), .val (.int (F5006 p1 p2 p3 p4 p5 (0 : Int32) (0 : Int32) (0 : Int32))), .val (.int (F7 (4 : Int32))), .val (.int (F4006 p1 p2 p3 p4 p5 (0 : Int32) (0 : Int32) (0 : Int32))), .val (.int (F7 (3 : Int32))), .val (.int v126)] [(.int p1), (.int (F1008 p1 p2 p3 p4 p5 (0 : Int32) (0 : Int32) (0 : Int32)))])) _
          refine XS.icmpNo X129.here hx rfl (hb hby at_218) rfl (teq hc132).2 ?_
          show Steps p.tables e below (T129.setTop (mkF m 221 #[.val (.int p1), .val (.int p2), .val (.int p3), .val (.int p4), .val (.int p5), .val (.int p6), .val (.int (5 : Int32)), .val (.ref b96), .val (.int p5), .val (.int p4), .val (.int (F5006 p1 p2 p3 p4 p5 (0 : Int32) (0 : Int32) (0 : Int32))), .val (.int (F7 (4 : Int32))), .val (.int (F4006 p1 p2 p3 p4 p5 (0 : Int32) (0 : Int32) (0 : Int32))), .val (.int (F7 (3 : Int32))), .val (.int v126)] [])) _
          refine XS.iconst X129.here hx rfl (hb hby at_221) ?_
          show Steps p.tables e below (T129.setTop (mkF m 222 #[.val (.int p1), .val (.int p2), .val (.int p3), .val (.int p4), .val (.int p5), .val (.int p6), .val (.int (5 : Int32)), .val (.ref b96), .val (.int p5), .val (.int p4), .val (.int (F5006 p1 p2 p3 p4 p5 (0 : Int32) (0 : Int32) (0 : Int32))), .val (.int (F7 (4 : Int32))), .val (.int (F4006 p1 p2 p3 p4 p5 (0 : Int32) (0 : Int32) (0 : Int32))), .val (.int (F7 (3 : Int32))), .val (.int v126)] [(.int (1 : Int32))])) _
          refine XS.goto X129.here hx rfl (pc0 := 222) (pc' := 226) rfl (hb hby at_222) (by decide) (by decide) ?_
          show Steps p.tables e below (T129.setTop (mkF m 226 #[.val (.int p1), .val (.int p2), .val (.int p3), .val (.int p4), .val (.int p5), .val (.int p6), .val (.int (5 : Int32)), .val (.ref b96), .val (.int p5), .val (.int p4), .val (.int (F5006 p1 p2 p3 p4 p5 (0 : Int32) (0 : Int32) (0 : Int32))), .val (.int (F7 (4 : Int32))), .val (.int (F4006 p1 p2 p3 p4 p5 (0 : Int32) (0 : Int32) (0 : Int32))), .val (.int (F7 (3 : Int32))), .val (.int v126)] [(.int (1 : Int32))])) _
          refine XS.istore X129.here hx rfl (hb hby at_226) rfl (l' := #[.val (.int p1), .val (.int p2), .val (.int p3), .val (.int p4), .val (.int p5), .val (.int p6), .val (.int (5 : Int32)), .val (.ref b96), .val (.int p5), .val (.int p4), .val (.int (F5006 p1 p2 p3 p4 p5 (0 : Int32) (0 : Int32) (0 : Int32))), .val (.int (F7 (4 : Int32))), .val (.int (F4006 p1 p2 p3 p4 p5 (0 : Int32) (0 : Int32) (0 : Int32))), .val (.int (F7 (3 : Int32))), .val (.int (1 : Int32))]) rfl ?_
          show Steps p.tables e below (T129.setTop (mkF m 228 #[.val (.int p1), .val (.int p2), .val (.int p3), .val (.int p4), .val (.int p5), .val (.int p6), .val (.int (5 : Int32)), .val (.ref b96), .val (.int p5), .val (.int p4), .val (.int (F5006 p1 p2 p3 p4 p5 (0 : Int32) (0 : Int32) (0 : Int32))), .val (.int (F7 (4 : Int32))), .val (.int (F4006 p1 p2 p3 p4 p5 (0 : Int32) (0 : Int32) (0 : Int32))), .val (.int (F7 (3 : Int32))), .val (.int (1 : Int32))] [])) _
          refine XS.iload X129.here hx rfl (hb hby at_228) rfl ?_
          show Steps p.tables e below (T129.setTop (mkF m 230 #[.val (.int p1), .val (.int p2), .val (.int p3), .val (.int p4), .val (.int p5), .val (.int p6), .val (.int (5 : Int32)), .val (.ref b96), .val (.int p5), .val (.int p4), .val (.int (F5006 p1 p2 p3 p4 p5 (0 : Int32) (0 : Int32) (0 : Int32))), .val (.int (F7 (4 : Int32))), .val (.int (F4006 p1 p2 p3 p4 p5 (0 : Int32) (0 : Int32) (0 : Int32))), .val (.int (F7 (3 : Int32))), .val (.int (1 : Int32))] [(.int (1 : Int32))])) _
          exact retN X129 hx (t := .boolean) Bd.returns (by simp) (hb hby at_230) hr
        · show Q0 Z p1 p2 p3 p4 p5 p6 h0 n0 _ T129.heap _
          rw [e129]
          exact ⟨rfl, N129⟩
      · exact (leaf_0_10 p1 p2 p3 p4 p5 p6 hk2 v126 hv126 hc128 hc132).elim
set_option maxRecDepth 65536 in
set_option maxHeartbeats 40000000 in
theorem comes_1 {Post : Tables → Env → Array Value → State → Outcome → State → Prop} (hpost : ∀ tb e args s v u, (limb_1_1.after args s (.returned v) u = true ∧ limb_1_2.after args s (.returned v) u = true ∧ True) → FrameEnd s (.returned v) u (Jvm.fieldLocs frame_1_writes args s ++ Jvm.arrayLocs frame_1_arrays args s ++ Jvm.staticLocs frame_1_statics s) 16 128 → Post tb e args s (.returned v) u) :
    ArmFor flags0 classFile x code maxLocals ret World_1 tables_1 room_1 Calls_1 rest_1 Pre_1 Post := by
  intro l hfl _ _ p e ha hc hk s m args below hf hA hF happ hP
  obtain ⟨hcalls, hrest, hpre⟩ := hP
  obtain ⟨-, -, -, hnamed, -, -, -, hat⟩ := (Spec.applies_iff hf).mp happ
  obtain ⟨hg, hn⟩ := and_e (Cond.before_iff.mp (show (Jvm.Cond.and given_1 narrow_1).before args s = true from hpre))
  obtain ⟨g1, g2⟩ := and_e hg
  obtain ⟨g3, g4⟩ := and_e g2
  obtain ⟨g5, g6⟩ := and_e g4
  obtain ⟨g7, g8⟩ := and_e g6
  obtain ⟨g9, g10⟩ := and_e g8
  obtain ⟨g11, g12⟩ := and_e g10
  obtain ⟨w0, w1, w2, w3, w4, w5, rfl⟩ : ∃ w0 w1 w2 w3 w4 w5 : Value, args = #[w0, w1, w2, w3, w4, w5] := by
    have hs : args.size = 6 := by simpa [Cond.value, given_1] using g1
    obtain ⟨L⟩ := args
    match L, hs with
    | [w0, w1, w2, w3, w4, w5], _ => exact ⟨w0, w1, w2, w3, w4, w5, rfl⟩
  have hw := fun d (hd : d ∈ tables_1) => atoms_spec (ws := Jvm.Cond.code x code maxLocals ret :: tables_1) hat d (List.mem_cons_of_mem _ hd)
  have hfit : Fit s := fun {y c} hc i hi => by
    obtain ⟨ha, rfl⟩ := Array.getElem?_eq_some_iff.mp hc
    have q := List.all_eq_true.mp ((Array.all_eq_true_iff_forall_mem.mp hF) _ (Array.getElem_mem ha)) i (List.mem_range.mpr hi)
    simpa [Array.getElem?_eq_getElem hi] using q
  obtain ⟨i0, ei0⟩ := is_v g3
  obtain rfl : w0 = (.int i0) := Option.some.inj ei0
  obtain ⟨i1, ei1⟩ := is_v g5
  obtain rfl : w1 = (.int i1) := Option.some.inj ei1
  obtain ⟨i2, ei2⟩ := is_v g7
  obtain rfl : w2 = (.int i2) := Option.some.inj ei2
  obtain ⟨i3, ei3⟩ := is_v g9
  obtain rfl : w3 = (.int i3) := Option.some.inj ei3
  obtain ⟨i4, ei4⟩ := is_v g11
  obtain rfl : w4 = (.int i4) := Option.some.inj ei4
  obtain ⟨i5, ei5⟩ := is_v g12
  obtain rfl : w5 = (.int i5) := Option.some.inj ei5
  obtain ⟨n, o, h1, h2, h3, _, L, rfl, ⟨rfl, N⟩, hq⟩ := rm0 l s _ hw tables_1 i0 i1 i2 i3 i4 i5 s.heap s.heap.size (Nat.le_refl _) p e ha hc hk s m _ below hf ((Spec.applies_iff_loose hf).mp happ).1 ⟨rfl, State.Warmed39.refl s, rfl⟩ trivial
  refine ⟨n, _, h1, h2, h3, hpost _ _ _ _ _ _ ⟨Cond.after_iff.mpr rfl, Cond.after_iff.mpr (eq_i res_at (Term.int_eval (1)) rfl), trivial⟩ ⟨hq.1, hq.2.1, (hq.2.2.sift fun y hy => Or.inr (N y hy)).mono (by decide) (by decide)⟩⟩
theorem main_1_1 : Claimed_1_1 := comes_1 fun _ _ _ _ _ _ h hF => ⟨h.1, hF⟩
theorem main_1_2 : Claimed_1_2 := comes_1 fun _ _ _ _ _ _ h hF => ⟨h.2.1, hF⟩
end Jvm.Pilot.@@N@@
namespace Jvm.Pilot.@@N@@
open Jvm Jvm.ClassFile Sem Op Lib Jvm.Free Jvm.Stand Jvm.Pilot.@@N@@.Jvm.D
/-! MADE BY PROGRAM (witnessworld.py) out of the Statement's table words and the real class files: 12 classes; the members and pool entries that the words name. The judged class is class 1, her method 1. -/
namespace start1
open Jvm.ClassFile
def u (s : String) : CpInfo := .utf8 (stringToUtf16 s)
/-- a pool by its gaps: so many unusable entries, then the entry; so many at the end -/
def gap : Nat → List CpInfo → List CpInfo
  | 0, r => r
  | n + 1, r => .unusable :: gap n r
def poolList (es : List (Nat × CpInfo)) (last : Nat) : List CpInfo := es.foldr (fun e r => gap e.1 (e.2 :: r)) (gap last [])
def pool (es : List (Nat × CpInfo)) (last : Nat) : Array CpInfo := ⟨poolList es last⟩
def fileOf (pool : Array CpInfo) (this : Nat) (attrs : Array Attribute := #[]) (ms : Array MethodInfo := #[]) (fl : Nat := 33) (sup : Nat := 0) (ifs : Array Nat := #[]) (fds : Array FieldInfo := #[]) : ClassFile where
  minorVersion := 0
  majorVersion := 65
  constantPool := pool
  accessFlags := fl
  thisClass := this
  superClass := sup
  interfaces := ifs
  fields := fds
  methods := ms
  attributes := attrs
def plain (name : String) (sup : Option ClassId) : Class where
  name := name
  kind := .ordinary
  loader := none
  accessFlags := 33
  super := sup
  interfaces := #[]
  cf := none
  fields := #[]
  methods := #[]
  instanceTypes := #[]
  staticTypes := #[]
  resolved := #[]
  callSites := []
  init := .initialized
  statics := none
  mirror := none

def pool0 : Array CpInfo := pool [(5, u "<init>"), (0, u "()V"), (1, .class_ 10), (1, u "java/lang/Object")] 113

def k0c0 : Code := { maxStack := 0, maxLocals := 1, code := object_method_1_code, exceptionTable := #[], attributes := #[] }
def k0m0 : Method := { name := "<init>", desc := "()V", sig := { parameters := [], returnType := none }, accessFlags := 1, code := some k0c0 }
/-- java/lang/Object -/
def k0 : Class := { plain "java/lang/Object" none with
  accessFlags := 33
  interfaces := #[]
  cf := some (fileOf pool0 8 #[] #[{ accessFlags := 1, nameIndex := 5, descriptorIndex := 6, attributes := #[] }] 33 0 #[] #[])
  fields := #[]
  methods := #[k0m0]
  instanceTypes := #[]
  staticTypes := #[]
  resolved := Array.replicate 124 none
  statics := none }

def pool1 : Array CpInfo := pool [(2, .class_ 4), (0, .nameAndType 5 6), (0, u "java/lang/Object"), (0, u "<init>"), (0, u "()V"), (0, .class_ 8), (0, u "com/example/krel/krel/saturation/IntList"), (0, .methodref 7 3), (0, .methodref 7 11), (0, .nameAndType 12 13), (0, u "add"), (0, u "(I)V"), (0, .methodref 7 15), (0, .nameAndType 16 17), (0, u "pop"), (0, u "()I"), (0, .methodref 7 19), (0, .nameAndType 20 17), (0, u "size"), (0, .methodref 7 22), (0, .nameAndType 23 24), (0, u "get"), (0, u "(I)I"), (0, .class_ 26), (0, u "com/example/krel/krel/saturation/IntListPopPinLaw"), (2, u "law"), (0, u "(IIIIII)Z")] 3

def k1m0 : Method := { name := "<init>", desc := "()V", sig := { parameters := [], returnType := none }, accessFlags := 1, code := none }
def k1c1 : Code := { maxStack := 3, maxLocals := 15, code := code, exceptionTable := #[], attributes := #[] }
def k1m1 : Method := { name := "law", desc := "(IIIIII)Z", sig := { parameters := [.int, .int, .int, .int, .int, .int], returnType := some .boolean }, accessFlags := 9, code := some k1c1 }
/-- com/example/krel/krel/saturation/IntListPopPinLaw -/
def k1 : Class := { plain "com/example/krel/krel/saturation/IntListPopPinLaw" (some 0) with
  accessFlags := 49
  interfaces := #[]
  cf := some (fileOf pool1 25 #[] #[{ accessFlags := 1, nameIndex := 5, descriptorIndex := 6, attributes := #[] }, { accessFlags := 9, nameIndex := 29, descriptorIndex := 30, attributes := #[] }] 49 2 #[] #[])
  fields := #[]
  methods := #[k1m0, k1m1]
  instanceTypes := #[]
  staticTypes := #[]
  resolved := Array.replicate 34 none
  statics := none }

def pool2 : Array CpInfo := pool [(1, .methodref 2 3), (0, .class_ 4), (0, .nameAndType 5 6), (0, u "java/lang/Object"), (0, u "<init>"), (0, u "()V"), (0, .fieldref 8 9), (0, .class_ 10), (0, .nameAndType 11 12), (0, u "com/example/krel/krel/saturation/IntList"), (0, u "values"), (0, u "[I"), (0, .fieldref 8 14), (0, .nameAndType 15 16), (0, u "size"), (0, u "I"), (0, .methodref 18 19), (0, .class_ 20), (0, .nameAndType 21 22), (0, u "java/util/Arrays"), (0, u "copyOf"), (0, u "([II)[I"), (2, u "add"), (0, u "(I)V"), (1, u "get"), (0, u "(I)I"), (0, u "()I"), (0, u "pop")] 2

def k2c0 : Code := { maxStack := 2, maxLocals := 1, code := prog_41_method_1_code, exceptionTable := #[], attributes := #[] }
def k2m0 : Method := { name := "<init>", desc := "()V", sig := { parameters := [], returnType := none }, accessFlags := 0, code := some k2c0 }
def k2c1 : Code := { maxStack := 5, maxLocals := 2, code := prog_41_method_2_code, exceptionTable := #[], attributes := #[] }
def k2m1 : Method := { name := "add", desc := "(I)V", sig := { parameters := [.int], returnType := none }, accessFlags := 0, code := some k2c1 }
def k2c2 : Code := { maxStack := 2, maxLocals := 2, code := prog_41_method_3_code, exceptionTable := #[], attributes := #[] }
def k2m2 : Method := { name := "get", desc := "(I)I", sig := { parameters := [.int], returnType := some .int }, accessFlags := 0, code := some k2c2 }
def k2c3 : Code := { maxStack := 1, maxLocals := 1, code := prog_41_method_4_code, exceptionTable := #[], attributes := #[] }
def k2m3 : Method := { name := "size", desc := "()I", sig := { parameters := [], returnType := some .int }, accessFlags := 0, code := some k2c3 }
def k2c4 : Code := { maxStack := 4, maxLocals := 1, code := prog_41_method_5_code, exceptionTable := #[], attributes := #[] }
def k2m4 : Method := { name := "pop", desc := "()I", sig := { parameters := [], returnType := some .int }, accessFlags := 0, code := some k2c4 }
/-- com/example/krel/krel/saturation/IntList -/
def k2 : Class := { plain "com/example/krel/krel/saturation/IntList" (some 0) with
  accessFlags := 32
  interfaces := #[]
  cf := some (fileOf pool2 8 #[] #[{ accessFlags := 0, nameIndex := 5, descriptorIndex := 6, attributes := #[] }, { accessFlags := 0, nameIndex := 25, descriptorIndex := 26, attributes := #[] }, { accessFlags := 0, nameIndex := 28, descriptorIndex := 29, attributes := #[] }, { accessFlags := 0, nameIndex := 15, descriptorIndex := 30, attributes := #[] }, { accessFlags := 0, nameIndex := 31, descriptorIndex := 30, attributes := #[] }] 32 2 #[] #[{ accessFlags := 2, nameIndex := 11, descriptorIndex := 12, attributes := #[] }, { accessFlags := 2, nameIndex := 15, descriptorIndex := 16, attributes := #[] }])
  fields := #[{ name := "values", type := (.array .int), accessFlags := 2, slot := 0, constantValue := 0 }, { name := "size", type := .int, accessFlags := 2, slot := 1, constantValue := 0 }]
  methods := #[k2m0, k2m1, k2m2, k2m3, k2m4]
  instanceTypes := #[(.array .int), .int]
  staticTypes := #[]
  resolved := Array.replicate 34 none
  statics := none }

def pool3 : Array CpInfo := pool [(2, .class_ 4), (1, u "java/lang/Object"), (0, u "<init>"), (0, u "()V"), (7, .class_ 16), (1, u "java/util/Arrays"), (57, .class_ 76), (1, u "java/util/Arrays$NaturalOrder"), (36, .class_ 115), (1, u "java/util/Arrays$LegacyMergeSort"), (1, u "Z"), (32, .methodref 151 152), (0, .class_ 153), (0, .nameAndType 154 155), (0, u "java/lang/System"), (0, u "arraycopy"), (0, u "(Ljava/lang/Object;ILjava/lang/Object;II)V"), (146, u "copyOf"), (1, .methodref 305 306), (0, .class_ 307), (0, .nameAndType 308 309), (0, u "java/lang/Math"), (0, u "min"), (0, u "(II)I"), (65, .class_ 376), (0, u "java/util/Arrays$ArrayList"), (68, u "$assertionsDisabled"), (269, u "MIN_ARRAY_SORT_GRAN"), (0, u "I"), (2, u "INSERTIONSORT_THRESHOLD"), (151, u "([II)[I"), (103, .class_ 976), (0, u "java/util/Arrays$ArrayItr")] 52

def k3m0 : Method := { name := "<init>", desc := "()V", sig := { parameters := [], returnType := none }, accessFlags := 2, code := none }
def k3c1 : Code := { maxStack := 6, maxLocals := 3, code := jdk_65_method_123_code, exceptionTable := #[], attributes := #[] }
def k3m1 : Method := { name := "copyOf", desc := "([II)[I", sig := { parameters := [(.array .int), .int], returnType := some (.array .int) }, accessFlags := 9, code := some k3c1 }
/-- java/util/Arrays -/
def k3 : Class := { plain "java/util/Arrays" (some 0) with
  accessFlags := 49
  interfaces := #[]
  cf := some (fileOf pool3 14 #[.nestMembers #[975, 375, 113, 74]] #[{ accessFlags := 2, nameIndex := 5, descriptorIndex := 6, attributes := #[] }, { accessFlags := 9, nameIndex := 302, descriptorIndex := 871, attributes := #[] }] 49 2 #[] #[{ accessFlags := 26, nameIndex := 715, descriptorIndex := 716, attributes := #[] }, { accessFlags := 26, nameIndex := 719, descriptorIndex := 716, attributes := #[] }, { accessFlags := 4120, nameIndex := 445, descriptorIndex := 117, attributes := #[] }])
  fields := #[{ name := "MIN_ARRAY_SORT_GRAN", type := .int, accessFlags := 26, slot := 0, constantValue := 0 }, { name := "INSERTIONSORT_THRESHOLD", type := .int, accessFlags := 26, slot := 1, constantValue := 0 }, { name := "$assertionsDisabled", type := .boolean, accessFlags := 4120, slot := 2, constantValue := 0 }]
  methods := #[k3m0, k3m1]
  instanceTypes := #[]
  staticTypes := #[.int, .int, .boolean]
  resolved := Array.replicate 1029 none
  statics := none }

def pool4 : Array CpInfo := pool [(1, .class_ 2), (0, u "java/lang/Math"), (1, .class_ 6), (1, u "java/lang/Object"), (0, u "<init>"), (0, u "()V"), (89, .class_ 100), (1, u "java/lang/Math$RandomNumberGeneratorHolder"), (71, u "negativeZeroFloatBits"), (0, u "J"), (2, u "negativeZeroDoubleBits"), (24, u "min"), (43, u "$assertionsDisabled"), (0, u "Z"), (88, u "(II)I"), (2, u "twoToTheDoubleScaleDown"), (0, u "D"), (4, u "twoToTheDoubleScaleUp"), (9, u "E"), (3, u "PI"), (2, u "TAU"), (2, u "DEGREES_TO_RADIANS"), (0, u "RADIANS_TO_DEGREES")] 94

def k4m0 : Method := { name := "<init>", desc := "()V", sig := { parameters := [], returnType := none }, accessFlags := 2, code := none }
def k4c1 : Code := { maxStack := 2, maxLocals := 2, code := jdk_29_method_69_code, exceptionTable := #[], attributes := #[] }
def k4m1 : Method := { name := "min", desc := "(II)I", sig := { parameters := [.int, .int], returnType := some .int }, accessFlags := 9, code := some k4c1 }
/-- java/lang/Math -/
def k4 : Class := { plain "java/lang/Math" (some 0) with
  accessFlags := 49
  interfaces := #[]
  cf := some (fileOf pool4 1 #[.nestMembers #[98]] #[{ accessFlags := 2, nameIndex := 7, descriptorIndex := 8, attributes := #[] }, { accessFlags := 9, nameIndex := 201, descriptorIndex := 335, attributes := #[] }] 49 4 #[] #[{ accessFlags := 25, nameIndex := 354, descriptorIndex := 339, attributes := #[] }, { accessFlags := 25, nameIndex := 358, descriptorIndex := 339, attributes := #[] }, { accessFlags := 25, nameIndex := 361, descriptorIndex := 339, attributes := #[] }, { accessFlags := 26, nameIndex := 364, descriptorIndex := 339, attributes := #[] }, { accessFlags := 26, nameIndex := 365, descriptorIndex := 339, attributes := #[] }, { accessFlags := 26, nameIndex := 172, descriptorIndex := 173, attributes := #[] }, { accessFlags := 26, nameIndex := 176, descriptorIndex := 173, attributes := #[] }, { accessFlags := 8, nameIndex := 344, descriptorIndex := 339, attributes := #[] }, { accessFlags := 8, nameIndex := 338, descriptorIndex := 339, attributes := #[] }, { accessFlags := 4120, nameIndex := 245, descriptorIndex := 246, attributes := #[] }])
  fields := #[{ name := "E", type := .double, accessFlags := 25, slot := 0, constantValue := 0 }, { name := "PI", type := .double, accessFlags := 25, slot := 1, constantValue := 0 }, { name := "TAU", type := .double, accessFlags := 25, slot := 2, constantValue := 0 }, { name := "DEGREES_TO_RADIANS", type := .double, accessFlags := 26, slot := 3, constantValue := 0 }, { name := "RADIANS_TO_DEGREES", type := .double, accessFlags := 26, slot := 4, constantValue := 0 }, { name := "negativeZeroFloatBits", type := .long, accessFlags := 26, slot := 5, constantValue := 0 }, { name := "negativeZeroDoubleBits", type := .long, accessFlags := 26, slot := 6, constantValue := 0 }, { name := "twoToTheDoubleScaleUp", type := .double, accessFlags := 8, slot := 7, constantValue := 0 }, { name := "twoToTheDoubleScaleDown", type := .double, accessFlags := 8, slot := 8, constantValue := 0 }, { name := "$assertionsDisabled", type := .boolean, accessFlags := 4120, slot := 9, constantValue := 0 }]
  methods := #[k4m0, k4m1]
  instanceTypes := #[]
  staticTypes := #[.double, .double, .double, .double, .double, .long, .long, .double, .double, .boolean]
  resolved := Array.replicate 460 none
  statics := none }

def pool5 : Array CpInfo := pool [(2, .class_ 4), (1, u "java/lang/Object"), (0, u "<init>"), (0, u "()V"), (1, .class_ 10), (1, u "java/lang/System"), (0, u "allowSecurityManager"), (0, u "I"), (16, u "cons"), (0, u "Ljava/io/Console;"), (77, .class_ 110), (1, u "java/lang/System$CallersHolder"), (43, u "initialErrStream"), (0, u "Ljava/io/PrintStream;"), (19, u "security"), (0, u "Ljava/lang/SecurityManager;"), (31, .class_ 209), (0, u "java/lang/System$1"), (7, u "props"), (0, u "Ljava/util/Properties;"), (2, u "lineSeparator"), (0, u "Ljava/lang/String;"), (96, .class_ 321), (1, u "java/lang/System$LoggerFinder"), (5, .class_ 328), (0, u "java/lang/System$Logger"), (67, u "err"), (2, u "out"), (91, u "notSupportedJnuEncoding"), (15, u "in"), (17, u "initialIn"), (0, u "Ljava/io/InputStream;"), (35, u "bootLayer"), (0, u "Ljava/lang/ModuleLayer;"), (99, .class_ 664), (0, u "java/lang/System$2"), (9, u "NEVER"), (2, u "MAYBE"), (49, u "arraycopy"), (0, u "(Ljava/lang/Object;ILjava/lang/Object;II)V"), (72, .class_ 802), (0, u "java/lang/System$Logger$Level")] 31

def k5m0 : Method := { name := "<init>", desc := "()V", sig := { parameters := [], returnType := none }, accessFlags := 2, code := none }
def k5m1 : Method := { name := "arraycopy", desc := "(Ljava/lang/Object;ILjava/lang/Object;II)V", sig := { parameters := [(.object "java/lang/Object"), .int, (.object "java/lang/Object"), .int, .int], returnType := none }, accessFlags := 265, code := none }
/-- java/lang/System -/
def k5 : Class := { plain "java/lang/System" (some 0) with
  accessFlags := 49
  interfaces := #[]
  cf := some (fileOf pool5 8 #[.nestMembers #[319, 327, 801, 108, 663, 208]] #[{ accessFlags := 2, nameIndex := 5, descriptorIndex := 6, attributes := #[] }, { accessFlags := 265, nameIndex := 727, descriptorIndex := 728, attributes := #[] }] 49 2 #[] #[{ accessFlags := 25, nameIndex := 507, descriptorIndex := 526, attributes := #[] }, { accessFlags := 25, nameIndex := 399, descriptorIndex := 155, attributes := #[] }, { accessFlags := 25, nameIndex := 396, descriptorIndex := 155, attributes := #[] }, { accessFlags := 10, nameIndex := 525, descriptorIndex := 526, attributes := #[] }, { accessFlags := 26, nameIndex := 674, descriptorIndex := 12, attributes := #[] }, { accessFlags := 26, nameIndex := 677, descriptorIndex := 12, attributes := #[] }, { accessFlags := 10, nameIndex := 11, descriptorIndex := 12, attributes := #[] }, { accessFlags := 74, nameIndex := 175, descriptorIndex := 176, attributes := #[] }, { accessFlags := 10, nameIndex := 491, descriptorIndex := 222, attributes := #[] }, { accessFlags := 74, nameIndex := 29, descriptorIndex := 30, attributes := #[] }, { accessFlags := 74, nameIndex := 154, descriptorIndex := 155, attributes := #[] }, { accessFlags := 10, nameIndex := 217, descriptorIndex := 218, attributes := #[] }, { accessFlags := 10, nameIndex := 221, descriptorIndex := 222, attributes := #[] }, { accessFlags := 8, nameIndex := 562, descriptorIndex := 563, attributes := #[] }])
  fields := #[{ name := "in", type := (.object "java/io/InputStream"), accessFlags := 25, slot := 0, constantValue := 0 }, { name := "out", type := (.object "java/io/PrintStream"), accessFlags := 25, slot := 1, constantValue := 0 }, { name := "err", type := (.object "java/io/PrintStream"), accessFlags := 25, slot := 2, constantValue := 0 }, { name := "initialIn", type := (.object "java/io/InputStream"), accessFlags := 10, slot := 3, constantValue := 0 }, { name := "NEVER", type := .int, accessFlags := 26, slot := 4, constantValue := 0 }, { name := "MAYBE", type := .int, accessFlags := 26, slot := 5, constantValue := 0 }, { name := "allowSecurityManager", type := .int, accessFlags := 10, slot := 6, constantValue := 0 }, { name := "security", type := (.object "java/lang/SecurityManager"), accessFlags := 74, slot := 7, constantValue := 0 }, { name := "notSupportedJnuEncoding", type := (.object "java/lang/String"), accessFlags := 10, slot := 8, constantValue := 0 }, { name := "cons", type := (.object "java/io/Console"), accessFlags := 74, slot := 9, constantValue := 0 }, { name := "initialErrStream", type := (.object "java/io/PrintStream"), accessFlags := 74, slot := 10, constantValue := 0 }, { name := "props", type := (.object "java/util/Properties"), accessFlags := 10, slot := 11, constantValue := 0 }, { name := "lineSeparator", type := (.object "java/lang/String"), accessFlags := 10, slot := 12, constantValue := 0 }, { name := "bootLayer", type := (.object "java/lang/ModuleLayer"), accessFlags := 8, slot := 13, constantValue := 0 }]
  methods := #[k5m0, k5m1]
  instanceTypes := #[]
  staticTypes := #[(.object "java/io/InputStream"), (.object "java/io/PrintStream"), (.object "java/io/PrintStream"), (.object "java/io/InputStream"), .int, .int, .int, (.object "java/lang/SecurityManager"), (.object "java/lang/String"), (.object "java/io/Console"), (.object "java/io/PrintStream"), (.object "java/util/Properties"), (.object "java/lang/String"), (.object "java/lang/ModuleLayer")]
  resolved := Array.replicate 834 none
  statics := none }

def pool6 : Array CpInfo := pool [(1, u "java/lang/Cloneable"), (0, .class_ 1), (0, u "java/lang/Object"), (0, .class_ 3)] 3

/-- java/lang/Cloneable -/
def k6 : Class := { plain "java/lang/Cloneable" (some 0) with
  accessFlags := 1537
  interfaces := #[]
  cf := some (fileOf pool6 2 #[] #[] 1537 4 #[] #[])
  fields := #[]
  methods := #[]
  instanceTypes := #[]
  staticTypes := #[]
  resolved := Array.replicate 8 none
  statics := none }

def pool7 : Array CpInfo := pool [(1, u "java/io/Serializable"), (0, .class_ 1), (0, u "java/lang/Object"), (0, .class_ 3)] 3

/-- java/io/Serializable -/
def k7 : Class := { plain "java/io/Serializable" (some 0) with
  accessFlags := 1537
  interfaces := #[]
  cf := some (fileOf pool7 2 #[] #[] 1537 4 #[] #[])
  fields := #[]
  methods := #[]
  instanceTypes := #[]
  staticTypes := #[]
  resolved := Array.replicate 8 none
  statics := none }

/-- the primitive byte -/
def k8 : Class := { plain "byte" none with kind := .primitive 'B', accessFlags := 0x411 }
/-- [B -/
def k9 : Class := { plain "[B" (some 0) with kind := .array 8 .byte, interfaces := #[6, 7], accessFlags := 1041 }

/-- the primitive int -/
def k10 : Class := { plain "int" none with kind := .primitive 'I', accessFlags := 0x411 }
/-- [I -/
def k11 : Class := { plain "[I" (some 0) with kind := .array 10 .int, interfaces := #[6, 7], accessFlags := 1041 }

def heap : Heap := #[]
def classes : Array Class := #[k0, k1, k2, k3, k4, k5, k6, k7, k8, k9, k10, k11]
def interned : List (Array UInt16 × Addr) := []
def slotsUsed : Nat := 0
def theMethod : MethodId := ⟨1, 1⟩
def args0 : Array Value := #[.int 5, .int 7, .int 5, .int 7, .int 5, .int 3]
def aboutOver (below : List Frame) : State where
  vm := { classes := classes, interned := interned.toArray }
  heap := heap
  slotsUsed := slotsUsed
  threads := #[{ frames := .invoking theMethod args0 :: below }]
def below0 : List Frame := [.native { method := ⟨0, 0⟩, args := #[] }]
def about1 : State := aboutOver below0
def p0 : Program := .bare "" "" ""
def e0 : Env := launch0.env 0 0 0
theorem w_frames : about1.frames = Frame.invoking theMethod args0 :: below0 := rfl
set_option maxRecDepth 65536 in
theorem w_args : argsFit about1.vm theMethod args0 = true := by decide +kernel
set_option maxRecDepth 65536 in
theorem w_heap : heapFits about1 = true := by decide +kernel
set_option maxRecDepth 65536 in
theorem w_runnable : about1.curStatus? = some .runnable := by decide +kernel
set_option maxRecDepth 65536 in
theorem w_alone : about1.alone = true := by decide +kernel
set_option maxRecDepth 65536 in
theorem w_named : about1.methodNamed? x = some theMethod := by decide +kernel
set_option maxRecDepth 65536 in
theorem w_hears : about1.hears theMethod below0 = true := by decide +kernel
set_option maxRecDepth 65536 in
theorem w_ripe : about1.ripe theMethod args0 below0 = true := by decide +kernel
theorem w_running : about1.status = .running := rfl
set_option maxRecDepth 65536 in
theorem w_room : about1.hasRoom e0.platform room_1 = true :=
  launch0.hasRoom_least _ room_1 (by decide +kernel) (by decide +kernel) (by decide +kernel) (by decide +kernel) (by decide +kernel) (by decide +kernel)
theorem allAtoms_all (ts : List Jvm.Cond) (a : Array Jvm.Value) (st : Jvm.State) : (allAtoms ts).before a st = ts.all (fun c => c.before a st) := by
  induction ts with
  | nil => rfl
  | cons c t ih =>
    show (Jvm.Cond.and c (allAtoms t)).before a st = _
    rw [Jvm.Cond.before_and, ih, List.all_cons]
def words1 : List Jvm.Cond := Jvm.Cond.code x code maxLocals ret :: tables_1
/-- a 'code' word, met by the world's own term for the bytes: nothing is compared byte by byte -/
theorem code_word {y : MethodName} {bytes : ByteArray} {mx : Nat} {rt : Option FieldType} {a : Array Value} {s : State} {m : MethodId} {meth : Method} {c : Code} (h1 : s.methodNamed? y = some m) (h2 : s.vm.method? m = some meth) (h3 : meth.code = some c) (h4 : c.code = bytes)
    (h5 : (c.maxLocals == mx && c.exceptionTable.isEmpty && decide (c.maxStack ≤ mostOperands) && decide (meth.sig.returnType = rt) && !meth.locks && decide (parseMethodDescriptor y.desc = some meth.sig)) = true) : (Jvm.Cond.code y bytes mx rt).before a s = true := by
  simp only [Bool.and_eq_true, beq_iff_eq, Bool.not_eq_true', decide_eq_true_eq] at h5
  obtain ⟨⟨⟨⟨⟨g1, g2⟩, g3⟩, g4⟩, g5⟩, g6⟩ := h5
  simp [Cond.before, Cond.holds, Cond.value, h1, h2, h3, h4, g1, g2, g3, g4, g5, g6]
def isCode : Jvm.Cond → Bool
  | .code _ _ _ _ => true
  | _ => false
theorem all_split {L : List Jvm.Cond} {P : Jvm.Cond → Bool} (h1 : L.all (fun c => isCode c || P c) = true) (h2 : ∀ c ∈ L.filter isCode, P c = true) : L.all P = true := by
  refine List.all_eq_true.mpr fun c hc => ?_
  have h := List.all_eq_true.mp h1 c hc
  rcases Bool.eq_false_or_eq_true (isCode c) with hi | hi
  · exact h2 c (List.mem_filter.mpr ⟨hc, hi⟩)
  · simpa [hi] using h
set_option maxRecDepth 65536 in
theorem w_c0 : (Jvm.Cond.code x code maxLocals ret).before args0 about1 = true := code_word (m := ⟨1, 1⟩) (meth := k1m1) (c := k1c1) (by decide +kernel) rfl rfl rfl (by decide +kernel)
set_option maxRecDepth 65536 in
theorem w_c1 : (Jvm.Cond.code ({ cls := "com/example/krel/krel/saturation/IntList", name := "<init>", desc := "()V" } : Jvm.MethodName) prog_41_method_1_code (1 : Nat) (Option.none : Option Jvm.ClassFile.FieldType)).before args0 about1 = true := code_word (m := ⟨2, 0⟩) (meth := k2m0) (c := k2c0) (by decide +kernel) rfl rfl rfl (by decide +kernel)
set_option maxRecDepth 65536 in
theorem w_c2 : (Jvm.Cond.code ({ cls := "java/lang/Object", name := "<init>", desc := "()V" } : Jvm.MethodName) object_method_1_code (1 : Nat) (Option.none : Option Jvm.ClassFile.FieldType)).before args0 about1 = true := code_word (m := ⟨0, 0⟩) (meth := k0m0) (c := k0c0) (by decide +kernel) rfl rfl rfl (by decide +kernel)
set_option maxRecDepth 65536 in
theorem w_c3 : (Jvm.Cond.code ({ cls := "com/example/krel/krel/saturation/IntList", name := "add", desc := "(I)V" } : Jvm.MethodName) prog_41_method_2_code (2 : Nat) (Option.none : Option Jvm.ClassFile.FieldType)).before args0 about1 = true := code_word (m := ⟨2, 1⟩) (meth := k2m1) (c := k2c1) (by decide +kernel) rfl rfl rfl (by decide +kernel)
set_option maxRecDepth 65536 in
theorem w_c4 : (Jvm.Cond.code ({ cls := "java/util/Arrays", name := "copyOf", desc := "([II)[I" } : Jvm.MethodName) jdk_65_method_123_code (3 : Nat) (Option.some (Jvm.ClassFile.FieldType.array Jvm.ClassFile.FieldType.int))).before args0 about1 = true := code_word (m := ⟨3, 1⟩) (meth := k3m1) (c := k3c1) (by decide +kernel) rfl rfl rfl (by decide +kernel)
set_option maxRecDepth 65536 in
theorem w_c5 : (Jvm.Cond.code ({ cls := "java/lang/Math", name := "min", desc := "(II)I" } : Jvm.MethodName) jdk_29_method_69_code (2 : Nat) (Option.some Jvm.ClassFile.FieldType.int)).before args0 about1 = true := code_word (m := ⟨4, 1⟩) (meth := k4m1) (c := k4c1) (by decide +kernel) rfl rfl rfl (by decide +kernel)
set_option maxRecDepth 65536 in
theorem w_c6 : (Jvm.Cond.code ({ cls := "com/example/krel/krel/saturation/IntList", name := "pop", desc := "()I" } : Jvm.MethodName) prog_41_method_5_code (1 : Nat) (Option.some Jvm.ClassFile.FieldType.int)).before args0 about1 = true := code_word (m := ⟨2, 4⟩) (meth := k2m4) (c := k2c4) (by decide +kernel) rfl rfl rfl (by decide +kernel)
set_option maxRecDepth 65536 in
theorem w_c7 : (Jvm.Cond.code ({ cls := "com/example/krel/krel/saturation/IntList", name := "size", desc := "()I" } : Jvm.MethodName) prog_41_method_4_code (1 : Nat) (Option.some Jvm.ClassFile.FieldType.int)).before args0 about1 = true := code_word (m := ⟨2, 3⟩) (meth := k2m3) (c := k2c3) (by decide +kernel) rfl rfl rfl (by decide +kernel)
set_option maxRecDepth 65536 in
theorem w_c8 : (Jvm.Cond.code ({ cls := "com/example/krel/krel/saturation/IntList", name := "get", desc := "(I)I" } : Jvm.MethodName) prog_41_method_3_code (2 : Nat) (Option.some Jvm.ClassFile.FieldType.int)).before args0 about1 = true := code_word (m := ⟨2, 2⟩) (meth := k2m2) (c := k2c2) (by decide +kernel) rfl rfl rfl (by decide +kernel)
def codes1 : List Jvm.Cond := [Jvm.Cond.code x code maxLocals ret, Jvm.Cond.code ({ cls := "com/example/krel/krel/saturation/IntList", name := "<init>", desc := "()V" } : Jvm.MethodName) prog_41_method_1_code (1 : Nat) (Option.none : Option Jvm.ClassFile.FieldType), Jvm.Cond.code ({ cls := "java/lang/Object", name := "<init>", desc := "()V" } : Jvm.MethodName) object_method_1_code (1 : Nat) (Option.none : Option Jvm.ClassFile.FieldType), Jvm.Cond.code ({ cls := "com/example/krel/krel/saturation/IntList", name := "add", desc := "(I)V" } : Jvm.MethodName) prog_41_method_2_code (2 : Nat) (Option.none : Option Jvm.ClassFile.FieldType), Jvm.Cond.code ({ cls := "java/util/Arrays", name := "copyOf", desc := "([II)[I" } : Jvm.MethodName) jdk_65_method_123_code (3 : Nat) (Option.some (Jvm.ClassFile.FieldType.array Jvm.ClassFile.FieldType.int)), Jvm.Cond.code ({ cls := "java/lang/Math", name := "min", desc := "(II)I" } : Jvm.MethodName) jdk_29_method_69_code (2 : Nat) (Option.some Jvm.ClassFile.FieldType.int), Jvm.Cond.code ({ cls := "com/example/krel/krel/saturation/IntList", name := "pop", desc := "()I" } : Jvm.MethodName) prog_41_method_5_code (1 : Nat) (Option.some Jvm.ClassFile.FieldType.int), Jvm.Cond.code ({ cls := "com/example/krel/krel/saturation/IntList", name := "size", desc := "()I" } : Jvm.MethodName) prog_41_method_4_code (1 : Nat) (Option.some Jvm.ClassFile.FieldType.int), Jvm.Cond.code ({ cls := "com/example/krel/krel/saturation/IntList", name := "get", desc := "(I)I" } : Jvm.MethodName) prog_41_method_3_code (2 : Nat) (Option.some Jvm.ClassFile.FieldType.int)]
set_option maxRecDepth 65536 in
theorem codes_eq : words1.filter isCode = codes1 := rfl
theorem w_codes : ∀ c ∈ words1.filter isCode, c.before args0 about1 = true := by
  rw [codes_eq]
  intro c hc
  simp only [codes1, List.mem_cons, List.not_mem_nil, or_false] at hc
  rcases hc with rfl | rfl | rfl | rfl | rfl | rfl | rfl | rfl | rfl
  · exact w_c0
  · exact w_c1
  · exact w_c2
  · exact w_c3
  · exact w_c4
  · exact w_c5
  · exact w_c6
  · exact w_c7
  · exact w_c8
set_option maxRecDepth 65536 in
theorem w_t1 : (words1.take 24).all (fun c => isCode c || c.before args0 about1) = true := by decide +kernel
set_option maxRecDepth 65536 in
theorem w_t2 : (words1.drop 24).all (fun c => isCode c || c.before args0 about1) = true := by decide +kernel
theorem w_tables : (allAtoms (Jvm.Cond.code x code maxLocals ret :: tables_1)).before args0 about1 = true := by
  rw [allAtoms_all]
  show words1.all (fun c => c.before args0 about1) = true
  refine all_split ?_ w_codes
  rw [← List.take_append_drop 24 words1, List.all_append, w_t1, w_t2]
  rfl
set_option maxRecDepth 65536 in
theorem w_case : (Jvm.Cond.and given_1 narrow_1).before args0 about1 = true := by decide +kernel
theorem w_applies : (headSpec (Jvm.Cond.code x code maxLocals ret :: tables_1) room_1).applies x e0.platform about1 = true :=
  (Spec.applies_iff w_frames).mpr ⟨w_running, w_runnable, w_alone, w_named, w_hears, w_ripe, w_room, w_tables⟩
theorem atStart : AtStart classFile x code maxLocals ret World_1 tables_1 room_1 Calls_1 rest_1 Pre_1 launch0 p0 e0 about1 theMethod args0 below0 :=
  ⟨lists_1, trivial, launch0.admits_env _ _ _, launch0.least_env, fairChoices_fair.cas, fairChoices_fair.clock, w_frames, w_args, w_heap, w_applies, trivial, trivial, w_case⟩
end start1
theorem witness_1 : WitnessClaimed_1 := ⟨start1.p0, start1.e0, start1.about1, start1.theMethod, start1.args0, start1.below0, start1.atStart⟩
end Jvm.Pilot.@@N@@
