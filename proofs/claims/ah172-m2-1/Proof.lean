import JvmDerived
import JvmDerived.Pilot.@@N@@Statement
import JvmDerived.Pilot.@@N@@Code
set_option linter.unusedVariables false
set_option linter.unusedSimpArgs false
namespace Jvm.RoadKit
open Sem ClassFile Op Lib Jvm.Stand Jvm.Free Jvm.LawKit
section New
variable {p : Program} {l : Launch} {e : Env} {R : Room} {s : State} {m : MethodId} {args : Array Value} {below : List Frame} {meth : Method} {c : Code} {T : State} {locs : List Loc} {cells slots : Nat}
theorem retI (X : Stand p l e R s m args below meth c T locs cells slots) (hx : p.tables.exec = Jvm.exec) {pc : Nat} {Ls : Array Slot} {z : Int32} {rest : List Value} (hret : meth.sig.returnType = some .int) (hd : decode c.code pc = .ok (.ireturn, 1)) {fs : List Frame}
    (hl : ∀ (f : JFrame) (acts : List Action), f.method = m → f.locked = none → f.entered = [] → (doReturn e (T.setTop f) acts (some (.int z))).1 = T.setFrames fs) : Steps p.tables e below (T.setTop (mkF m pc Ls (.int z :: rest))) (T.setFrames fs) := by
  have hm' : T.vm.method? m = some meth := X.method'
  have hn : narrow .int (.int z) = .int z := rfl
  show Steps p.tables e below (T.setTop { method := m, pc := pc, locals := Ls, stack := _ :: rest, locked := none }) _
  jvm_step X.here [X.here.top, hx, hd, hm', hret, hn]
  first | (intro acts; rw [hl _ acts rfl rfl rfl]) | rw [hl _ _ rfl rfl rfl]
  exact Steps.refl _
end New
end Jvm.RoadKit

namespace Jvm.Pilot.@@N@@
open Jvm Jvm.ClassFile Sem Op Lib Jvm.Free Jvm.Stand Jvm.LawKit Jvm.RoadKit Bundle Jvm.Pilot.@@N@@.Jvm.D
def own_at (L : List Int32) (j : Int32) : Int32 := L.getD j.toNatClampNeg 0
theorem own_getD (L : List Int32) (i : Nat) : (L.map Value.int).getD i (.int (0 : Int32)) = .int (L.getD i 0) := by
  induction L generalizing i with
  | nil => rfl
  | cons a t ih => cases i with
    | zero => rfl
    | succ i => exact ih i

theorem own_eqI {a b : Int32} : a = b ↔ a.toInt = b.toInt := Int32.toInt_inj.symm
theorem own_ltI {a b : Int32} : a < b ↔ a.toInt < b.toInt := Int32.lt_iff_toInt_lt
theorem own_bd (a : Int32) : -2147483648 ≤ a.toInt ∧ a.toInt < 2147483648 := ⟨Int32.le_toInt a, Int32.toInt_lt a⟩

theorem own_add (a d : Int32) (h : ¬ d = 0) : ¬ (a = a + d) := by
  intro e
  apply h
  have h2 : a + d - a = d := by rw [Int32.add_comm, Int32.add_sub_cancel]
  rw [← e, Int32.sub_self] at h2
  exact h2.symm
theorem own_add' (a d : Int32) (h : ¬ d = 0) : ¬ (a + d = a) := fun e => own_add a d h e.symm
theorem own_or (a b c : Int32) : a &&& (b ||| c) = (a &&& b) ||| (a &&& c) := Int32.toBitVec_inj.1 BitVec.and_or_distrib_left
theorem own_15 (a : Int32) : a &&& 15 = 0 ↔ (a &&& 1 = 0 ∧ a &&& 2 = 0 ∧ a &&& 4 = 0 ∧ a &&& 8 = 0) := by
  constructor
  · intro h
    have g (k : Int32) (hk : 15 &&& k = k) : a &&& k = 0 := by
      rw [← hk, ← Int32.and_assoc, h]; exact Int32.zero_and
    exact ⟨g 1 (by decide), g 2 (by decide), g 4 (by decide), g 8 (by decide)⟩
  · rintro ⟨h1, h2, h4, h8⟩
    have e : (15 : Int32) = 1 ||| (2 ||| (4 ||| 8)) := by decide
    rw [e, own_or, own_or, own_or, h1, h2, h4, h8]; decide

theorem d1_0 : decode prog_13_method_1_code 0 = .ok (.aload_n 0, 1) := by decide +kernel
theorem d1_1 : decode prog_13_method_1_code 1 = .ok (.invokespecial 1, 3) := by decide +kernel
theorem d1_4 : decode prog_13_method_1_code 4 = .ok (.return_, 1) := by decide +kernel
theorem pn_1 : plainName "android/content/res/Configuration" = true := by first | (simp [plainName, overriddenIn]; done) | decide +kernel
theorem ef_1 (m : MethodId) (a1 : Addr) : entryFrame m #[(.ref a1)] 1 = mkF m 0 #[.val (.ref a1)] [] := by first | (simp [entryFrame, mkF, argsToLocals, Value.category]; done) | rfl
def Q1 (Z : State) (a1 : Addr) (h0 : Heap) (n0 : Nat) (v : Option Value) (h : Heap) (L : List Loc) : Prop := v = none ∧ Fr n0 L ∧ h = h0
set_option maxRecDepth 65536 in
set_option maxHeartbeats 40000000 in
theorem rm1 (l : Launch) (Z : State) (a0 : Array Value) (hw : ∀ d ∈ tables_1, d.before a0 Z = true) (ws : List Jvm.Cond) (a1 : Addr) (h0 : Heap) (n0 : Nat) (Z0 : n0 ≤ h0.size) :
    MetFree l (⟨"android/content/res/Configuration", "<init>", "()V"⟩ : MethodName) (head1 (Jvm.Cond.code (⟨"android/content/res/Configuration", "<init>", "()V"⟩ : MethodName) prog_13_method_1_code 1 none :: ws) ({ frames := 1, cells := 0, slots := 0, locals := 12 } : Room)) (fun a U => a = #[(.ref a1)] ∧ Z.Warmed39 U.vm ∧ U.heap = h0) (fun _ _ _ _ _ => True) (fun _ U o U' => ∃ v L, o = .returned v ∧ Q1 Z a1 h0 n0 v U'.heap L ∧ FrameEnd U o U' L ({ frames := 1, cells := 0, slots := 0, locals := 12 } : Room).cells ({ frames := 1, cells := 0, slots := 0, locals := 12 } : Room).slots) := by
  refine MetFree.of_bodySF (plainFor_of_name pn_1) hisR ?_
  intro p e s m args below meth c s₁ Bd hml0 hP hK
  obtain ⟨rfl, hZ, hh⟩ := hP
  have hx := Bd.exec
  have hby := Bd.bytes
  have hml : c.maxLocals = 1 := hml0
  have hown : s.vm.findClass "android/content/res/Configuration" = some m.cls := findClass_of_methodNamed Bd.named
  have hnm := (name_of_methodNamed Bd.named Bd.method).1
  have X0 : Stand p l e ({ frames := 1, cells := 0, slots := 0, locals := 12 } : Room) s m #[(.ref a1)] below meth c s₁ [] 0 0 := Stand.of_body Bd
  have e0 : s₁.heap = h0 := by rw [← hh, Bd.state]; rfl
  have N0 := Fr.nil n0
  have pre0 : ∀ t, Steps p.tables e below (s₁.setTop (mkF m 0 #[.val (.ref a1)] [])) t → Steps p.tables e below (s₁.setTop (entryFrame m #[(.ref a1)] 1)) t := fun t k => castTop (ef_1 m a1) k
  obtain ⟨T1, X1, e1, st1⟩ := initO X0 hx hZ hown (hw _ (List.mem_of_getElem? (i := 6) rfl)) (hw _ (List.mem_of_getElem? (i := 7) rfl)) (hw _ (List.mem_of_getElem? (i := 8) rfl)) e0 (g := (mkF m 1 #[.val (.ref a1)] [(.ref a1)])) rfl (by rw [hml]; rfl) rfl (hb hby d1_1) (by decide) (W := 0) (by show 2 * 0 + _ ≤ _; exact Nat.le_of_eq rfl) (by decide)
  obtain ⟨fs, hr, hrun, hended, hW, hsame⟩ := X1.leave (v := none) (fun _ => rfl)
  refine ⟨_, _, pre0 _ ?_, hrun, hended, _, _, rfl, ?_, ⟨_, rfl⟩, hW, hsame.mono (by decide) (by decide)⟩
  · show Steps p.tables e below (s₁.setTop (mkF m 0 #[.val (.ref a1)] [])) _
    refine XS.aloadN X0.here hx rfl (hb hby d1_0) rfl rfl ?_
    show Steps p.tables e below (s₁.setTop (mkF m 1 #[.val (.ref a1)] [(.ref a1)])) _
    refine st1 _ ?_
    show Steps p.tables e below (T1.setTop (mkF m 4 #[.val (.ref a1)] [])) _
    exact X1.returnOut hx Bd.returns (hb hby d1_4) hr
  · show Q1 Z a1 h0 n0 _ T1.heap _
    rw [e1]
    exact ⟨rfl, N0, rfl⟩
theorem d3_0 : decode prog_13_method_7_code 0 = .ok (.aload_n 1, 1) := by decide +kernel
theorem d3_1 : decode prog_13_method_7_code 1 = .ok (.ifnull 51, 3) := by decide +kernel
theorem d3_4 : decode prog_13_method_7_code 4 = .ok (.aload_n 0, 1) := by decide +kernel
theorem d3_5 : decode prog_13_method_7_code 5 = .ok (.getfield 13, 3) := by decide +kernel
theorem d3_8 : decode prog_13_method_7_code 8 = .ok (.aload_n 1, 1) := by decide +kernel
theorem d3_9 : decode prog_13_method_7_code 9 = .ok (.getfield 13, 3) := by decide +kernel
theorem d3_12 : decode prog_13_method_7_code 12 = .ok (.if_icmp .ne 40, 3) := by decide +kernel
theorem d3_15 : decode prog_13_method_7_code 15 = .ok (.aload_n 0, 1) := by decide +kernel
theorem d3_16 : decode prog_13_method_7_code 16 = .ok (.getfield 17, 3) := by decide +kernel
theorem d3_19 : decode prog_13_method_7_code 19 = .ok (.aload_n 1, 1) := by decide +kernel
theorem d3_20 : decode prog_13_method_7_code 20 = .ok (.getfield 17, 3) := by decide +kernel
theorem d3_23 : decode prog_13_method_7_code 23 = .ok (.if_icmp .ne 29, 3) := by decide +kernel
theorem d3_26 : decode prog_13_method_7_code 26 = .ok (.aload_n 0, 1) := by decide +kernel
theorem d3_27 : decode prog_13_method_7_code 27 = .ok (.getfield 20, 3) := by decide +kernel
theorem d3_30 : decode prog_13_method_7_code 30 = .ok (.aload_n 1, 1) := by decide +kernel
theorem d3_31 : decode prog_13_method_7_code 31 = .ok (.getfield 20, 3) := by decide +kernel
theorem d3_34 : decode prog_13_method_7_code 34 = .ok (.if_icmp .ne 18, 3) := by decide +kernel
theorem d3_37 : decode prog_13_method_7_code 37 = .ok (.aload_n 0, 1) := by decide +kernel
theorem d3_38 : decode prog_13_method_7_code 38 = .ok (.getfield 23, 3) := by decide +kernel
theorem d3_41 : decode prog_13_method_7_code 41 = .ok (.aload_n 1, 1) := by decide +kernel
theorem d3_42 : decode prog_13_method_7_code 42 = .ok (.getfield 23, 3) := by decide +kernel
theorem d3_45 : decode prog_13_method_7_code 45 = .ok (.if_icmp .ne 7, 3) := by decide +kernel
theorem d3_48 : decode prog_13_method_7_code 48 = .ok (.iconst 1, 1) := by decide +kernel
theorem d3_49 : decode prog_13_method_7_code 49 = .ok (.goto 4, 3) := by decide +kernel
theorem d3_52 : decode prog_13_method_7_code 52 = .ok (.iconst 0, 1) := by decide +kernel
theorem d3_53 : decode prog_13_method_7_code 53 = .ok (.ireturn, 1) := by decide +kernel
theorem pn_3 : plainName "android/content/res/Configuration" = true := by first | (simp [plainName, overriddenIn]; done) | decide +kernel
theorem ef_3 (m : MethodId) (a1 : Addr) (a2 : Addr) : entryFrame m #[(.ref a1), (.ref a2)] 2 = mkF m 0 #[.val (.ref a1), .val (.ref a2)] [] := by first | (simp [entryFrame, mkF, argsToLocals, Value.category]; done) | rfl
def F3 (w_orientation_a1 : Int32) (w_orientation_a2 : Int32) (w_uiMode_a1 : Int32) (w_uiMode_a2 : Int32) (w_screenWidthDp_a1 : Int32) (w_screenWidthDp_a2 : Int32) (w_screenHeightDp_a1 : Int32) (w_screenHeightDp_a2 : Int32) : Int32 := (if w_orientation_a1 = w_orientation_a2 then (if w_uiMode_a1 = w_uiMode_a2 then (if w_screenWidthDp_a1 = w_screenWidthDp_a2 then (if w_screenHeightDp_a1 = w_screenHeightDp_a2 then (1 : Int32) else (0 : Int32)) else (0 : Int32)) else (0 : Int32)) else (0 : Int32))
def Q3 (Z : State) (a1 : Addr) (a2 : Addr) (w_orientation_a1 : Int32) (w_orientation_a2 : Int32) (w_uiMode_a1 : Int32) (w_uiMode_a2 : Int32) (w_screenWidthDp_a1 : Int32) (w_screenWidthDp_a2 : Int32) (w_screenHeightDp_a1 : Int32) (w_screenHeightDp_a2 : Int32) (h0 : Heap) (n0 : Nat) (v : Option Value) (h : Heap) (L : List Loc) : Prop := v = some (.int (F3 w_orientation_a1 w_orientation_a2 w_uiMode_a1 w_uiMode_a2 w_screenWidthDp_a1 w_screenWidthDp_a2 w_screenHeightDp_a1 w_screenHeightDp_a2)) ∧ Fr n0 L ∧ h = h0
set_option maxRecDepth 65536 in
set_option maxHeartbeats 40000000 in
theorem rm3 (l : Launch) (Z : State) (a0 : Array Value) (hw : ∀ d ∈ tables_1, d.before a0 Z = true) (ws : List Jvm.Cond) (a1 : Addr) (a2 : Addr) (w_orientation_a1 : Int32) (w_orientation_a2 : Int32) (w_uiMode_a1 : Int32) (w_uiMode_a2 : Int32) (w_screenWidthDp_a1 : Int32) (w_screenWidthDp_a2 : Int32) (w_screenHeightDp_a1 : Int32) (w_screenHeightDp_a2 : Int32) (h0 : Heap) (n0 : Nat) (Z0 : n0 ≤ h0.size) (F_orientation_a1 : Fld Z h0 a1 "android/content/res/Configuration" "orientation" "I" (.int w_orientation_a1)) (F_orientation_a2 : Fld Z h0 a2 "android/content/res/Configuration" "orientation" "I" (.int w_orientation_a2)) (F_uiMode_a1 : Fld Z h0 a1 "android/content/res/Configuration" "uiMode" "I" (.int w_uiMode_a1)) (F_uiMode_a2 : Fld Z h0 a2 "android/content/res/Configuration" "uiMode" "I" (.int w_uiMode_a2)) (F_screenWidthDp_a1 : Fld Z h0 a1 "android/content/res/Configuration" "screenWidthDp" "I" (.int w_screenWidthDp_a1)) (F_screenWidthDp_a2 : Fld Z h0 a2 "android/content/res/Configuration" "screenWidthDp" "I" (.int w_screenWidthDp_a2)) (F_screenHeightDp_a1 : Fld Z h0 a1 "android/content/res/Configuration" "screenHeightDp" "I" (.int w_screenHeightDp_a1)) (F_screenHeightDp_a2 : Fld Z h0 a2 "android/content/res/Configuration" "screenHeightDp" "I" (.int w_screenHeightDp_a2)) :
    MetFree l (⟨"android/content/res/Configuration", "equals", "(Landroid/content/res/Configuration;)Z"⟩ : MethodName) (head1 (Jvm.Cond.code (⟨"android/content/res/Configuration", "equals", "(Landroid/content/res/Configuration;)Z"⟩ : MethodName) prog_13_method_7_code 2 (some .boolean) :: ws) ({ frames := 0, cells := 0, slots := 0, locals := 0 } : Room)) (fun a U => a = #[(.ref a1), (.ref a2)] ∧ Z.Warmed39 U.vm ∧ U.heap = h0) (fun _ _ _ _ _ => True) (fun _ U o U' => ∃ v L, o = .returned v ∧ Q3 Z a1 a2 w_orientation_a1 w_orientation_a2 w_uiMode_a1 w_uiMode_a2 w_screenWidthDp_a1 w_screenWidthDp_a2 w_screenHeightDp_a1 w_screenHeightDp_a2 h0 n0 v U'.heap L ∧ FrameEnd U o U' L ({ frames := 0, cells := 0, slots := 0, locals := 0 } : Room).cells ({ frames := 0, cells := 0, slots := 0, locals := 0 } : Room).slots) := by
  refine MetFree.of_bodySF (plainFor_of_name pn_3) hisR ?_
  intro p e s m args below meth c s₁ Bd hml0 hP hK
  obtain ⟨rfl, hZ, hh⟩ := hP
  have hx := Bd.exec
  have hby := Bd.bytes
  have hml : c.maxLocals = 2 := hml0
  have hown : s.vm.findClass "android/content/res/Configuration" = some m.cls := findClass_of_methodNamed Bd.named
  have hnm := (name_of_methodNamed Bd.named Bd.method).1
  have X0 : Stand p l e ({ frames := 0, cells := 0, slots := 0, locals := 0 } : Room) s m #[(.ref a1), (.ref a2)] below meth c s₁ [] 0 0 := Stand.of_body Bd
  have e0 : s₁.heap = h0 := by rw [← hh, Bd.state]; rfl
  have N0 := Fr.nil n0
  have pre0 : ∀ t, Steps p.tables e below (s₁.setTop (mkF m 0 #[.val (.ref a1), .val (.ref a2)] [])) t → Steps p.tables e below (s₁.setTop (entryFrame m #[(.ref a1), (.ref a2)] 2)) t := fun t k => castTop (ef_3 m a1 a2) k
  obtain ⟨T1, X1, e1, st1⟩ := getF X0 hx hZ hown (host := "") (Or.inl (hw _ (List.mem_of_getElem? (i := 22) rfl))) Via.refl e0 F_orientation_a1 (g := (mkF m 5 #[.val (.ref a1), .val (.ref a2)] [(.ref a1)])) rfl rfl (hb hby d3_5)
  obtain ⟨T2, X2, e2, st2⟩ := getF X1 hx hZ hown (host := "") (Or.inl (hw _ (List.mem_of_getElem? (i := 22) rfl))) Via.refl e1 F_orientation_a2 (g := (mkF m 9 #[.val (.ref a1), .val (.ref a2)] [(.ref a2), (.int w_orientation_a1)])) rfl rfl (hb hby d3_9)
  have pre3 : ∀ t, Steps p.tables e below (T2.setTop (mkF m 12 #[.val (.ref a1), .val (.ref a2)] [(.int w_orientation_a2), (.int w_orientation_a1)])) t → Steps p.tables e below (s₁.setTop (entryFrame m #[(.ref a1), (.ref a2)] 2)) t := fun t kt => by
    refine pre0 t ?_
    show Steps p.tables e below (s₁.setTop (mkF m 0 #[.val (.ref a1), .val (.ref a2)] [])) _
    refine XS.aloadN X0.here hx rfl (hb hby d3_0) rfl rfl ?_
    show Steps p.tables e below (s₁.setTop (mkF m 1 #[.val (.ref a1), .val (.ref a2)] [(.ref a2)])) _
    refine XS.ifnullNo X0.here hx rfl (hb hby d3_1) rfl ?_
    show Steps p.tables e below (s₁.setTop (mkF m 4 #[.val (.ref a1), .val (.ref a2)] [])) _
    refine XS.aloadN X0.here hx rfl (hb hby d3_4) rfl rfl ?_
    show Steps p.tables e below (s₁.setTop (mkF m 5 #[.val (.ref a1), .val (.ref a2)] [(.ref a1)])) _
    refine st1 _ ?_
    show Steps p.tables e below (T1.setTop (mkF m 8 #[.val (.ref a1), .val (.ref a2)] [(.int w_orientation_a1)])) _
    refine XS.aloadN X1.here hx rfl (hb hby d3_8) rfl rfl ?_
    show Steps p.tables e below (T1.setTop (mkF m 9 #[.val (.ref a1), .val (.ref a2)] [(.ref a2), (.int w_orientation_a1)])) _
    refine st2 _ ?_
    exact kt
  by_cases hc4 : w_orientation_a1 = w_orientation_a2
  · obtain ⟨T5, X5, e5, st5⟩ := getF X2 hx hZ hown (host := "") (Or.inl (hw _ (List.mem_of_getElem? (i := 23) rfl))) Via.refl e2 F_uiMode_a1 (g := (mkF m 16 #[.val (.ref a1), .val (.ref a2)] [(.ref a1)])) rfl rfl (hb hby d3_16)
    obtain ⟨T6, X6, e6, st6⟩ := getF X5 hx hZ hown (host := "") (Or.inl (hw _ (List.mem_of_getElem? (i := 23) rfl))) Via.refl e5 F_uiMode_a2 (g := (mkF m 20 #[.val (.ref a1), .val (.ref a2)] [(.ref a2), (.int w_uiMode_a1)])) rfl rfl (hb hby d3_20)
    have pre7 : ∀ t, Steps p.tables e below (T6.setTop (mkF m 23 #[.val (.ref a1), .val (.ref a2)] [(.int w_uiMode_a2), (.int w_uiMode_a1)])) t → Steps p.tables e below (s₁.setTop (entryFrame m #[(.ref a1), (.ref a2)] 2)) t := fun t kt => by
      refine pre3 t ?_
      show Steps p.tables e below (T2.setTop (mkF m 12 #[.val (.ref a1), .val (.ref a2)] [(.int w_orientation_a2), (.int w_orientation_a1)])) _
      refine XS.icmpNo X2.here hx rfl (hb hby d3_12) rfl (teq hc4).2 ?_
      show Steps p.tables e below (T2.setTop (mkF m 15 #[.val (.ref a1), .val (.ref a2)] [])) _
      refine XS.aloadN X2.here hx rfl (hb hby d3_15) rfl rfl ?_
      show Steps p.tables e below (T2.setTop (mkF m 16 #[.val (.ref a1), .val (.ref a2)] [(.ref a1)])) _
      refine st5 _ ?_
      show Steps p.tables e below (T5.setTop (mkF m 19 #[.val (.ref a1), .val (.ref a2)] [(.int w_uiMode_a1)])) _
      refine XS.aloadN X5.here hx rfl (hb hby d3_19) rfl rfl ?_
      show Steps p.tables e below (T5.setTop (mkF m 20 #[.val (.ref a1), .val (.ref a2)] [(.ref a2), (.int w_uiMode_a1)])) _
      refine st6 _ ?_
      exact kt
    by_cases hc8 : w_uiMode_a1 = w_uiMode_a2
    · obtain ⟨T9, X9, e9, st9⟩ := getF X6 hx hZ hown (host := "") (Or.inl (hw _ (List.mem_of_getElem? (i := 24) rfl))) Via.refl e6 F_screenWidthDp_a1 (g := (mkF m 27 #[.val (.ref a1), .val (.ref a2)] [(.ref a1)])) rfl rfl (hb hby d3_27)
      obtain ⟨T10, X10, e10, st10⟩ := getF X9 hx hZ hown (host := "") (Or.inl (hw _ (List.mem_of_getElem? (i := 24) rfl))) Via.refl e9 F_screenWidthDp_a2 (g := (mkF m 31 #[.val (.ref a1), .val (.ref a2)] [(.ref a2), (.int w_screenWidthDp_a1)])) rfl rfl (hb hby d3_31)
      have pre11 : ∀ t, Steps p.tables e below (T10.setTop (mkF m 34 #[.val (.ref a1), .val (.ref a2)] [(.int w_screenWidthDp_a2), (.int w_screenWidthDp_a1)])) t → Steps p.tables e below (s₁.setTop (entryFrame m #[(.ref a1), (.ref a2)] 2)) t := fun t kt => by
        refine pre7 t ?_
        show Steps p.tables e below (T6.setTop (mkF m 23 #[.val (.ref a1), .val (.ref a2)] [(.int w_uiMode_a2), (.int w_uiMode_a1)])) _
        refine XS.icmpNo X6.here hx rfl (hb hby d3_23) rfl (teq hc8).2 ?_
        show Steps p.tables e below (T6.setTop (mkF m 26 #[.val (.ref a1), .val (.ref a2)] [])) _
        refine XS.aloadN X6.here hx rfl (hb hby d3_26) rfl rfl ?_
        show Steps p.tables e below (T6.setTop (mkF m 27 #[.val (.ref a1), .val (.ref a2)] [(.ref a1)])) _
        refine st9 _ ?_
        show Steps p.tables e below (T9.setTop (mkF m 30 #[.val (.ref a1), .val (.ref a2)] [(.int w_screenWidthDp_a1)])) _
        refine XS.aloadN X9.here hx rfl (hb hby d3_30) rfl rfl ?_
        show Steps p.tables e below (T9.setTop (mkF m 31 #[.val (.ref a1), .val (.ref a2)] [(.ref a2), (.int w_screenWidthDp_a1)])) _
        refine st10 _ ?_
        exact kt
      by_cases hc12 : w_screenWidthDp_a1 = w_screenWidthDp_a2
      · obtain ⟨T13, X13, e13, st13⟩ := getF X10 hx hZ hown (host := "") (Or.inl (hw _ (List.mem_of_getElem? (i := 25) rfl))) Via.refl e10 F_screenHeightDp_a1 (g := (mkF m 38 #[.val (.ref a1), .val (.ref a2)] [(.ref a1)])) rfl rfl (hb hby d3_38)
        obtain ⟨T14, X14, e14, st14⟩ := getF X13 hx hZ hown (host := "") (Or.inl (hw _ (List.mem_of_getElem? (i := 25) rfl))) Via.refl e13 F_screenHeightDp_a2 (g := (mkF m 42 #[.val (.ref a1), .val (.ref a2)] [(.ref a2), (.int w_screenHeightDp_a1)])) rfl rfl (hb hby d3_42)
        have pre15 : ∀ t, Steps p.tables e below (T14.setTop (mkF m 45 #[.val (.ref a1), .val (.ref a2)] [(.int w_screenHeightDp_a2), (.int w_screenHeightDp_a1)])) t → Steps p.tables e below (s₁.setTop (entryFrame m #[(.ref a1), (.ref a2)] 2)) t := fun t kt => by
          refine pre11 t ?_
          show Steps p.tables e below (T10.setTop (mkF m 34 #[.val (.ref a1), .val (.ref a2)] [(.int w_screenWidthDp_a2), (.int w_screenWidthDp_a1)])) _
          refine XS.icmpNo X10.here hx rfl (hb hby d3_34) rfl (teq hc12).2 ?_
          show Steps p.tables e below (T10.setTop (mkF m 37 #[.val (.ref a1), .val (.ref a2)] [])) _
          refine XS.aloadN X10.here hx rfl (hb hby d3_37) rfl rfl ?_
          show Steps p.tables e below (T10.setTop (mkF m 38 #[.val (.ref a1), .val (.ref a2)] [(.ref a1)])) _
          refine st13 _ ?_
          show Steps p.tables e below (T13.setTop (mkF m 41 #[.val (.ref a1), .val (.ref a2)] [(.int w_screenHeightDp_a1)])) _
          refine XS.aloadN X13.here hx rfl (hb hby d3_41) rfl rfl ?_
          show Steps p.tables e below (T13.setTop (mkF m 42 #[.val (.ref a1), .val (.ref a2)] [(.ref a2), (.int w_screenHeightDp_a1)])) _
          refine st14 _ ?_
          exact kt
        by_cases hc16 : w_screenHeightDp_a1 = w_screenHeightDp_a2
        · obtain ⟨fs, hr, hrun, hended, hW, hsame⟩ := X14.leave (v := some (.int (1 : Int32))) (fun h => by rw [Bd.returns] at h; cases h)
          refine ⟨_, _, pre15 _ ?_, hrun, hended, _, _, rfl, ?_, ⟨_, rfl⟩, hW, hsame.mono (by decide) (by decide)⟩
          · show Steps p.tables e below (T14.setTop (mkF m 45 #[.val (.ref a1), .val (.ref a2)] [(.int w_screenHeightDp_a2), (.int w_screenHeightDp_a1)])) _
            refine XS.icmpNo X14.here hx rfl (hb hby d3_45) rfl (teq hc16).2 ?_
            show Steps p.tables e below (T14.setTop (mkF m 48 #[.val (.ref a1), .val (.ref a2)] [])) _
            refine XS.iconst X14.here hx rfl (hb hby d3_48) ?_
            show Steps p.tables e below (T14.setTop (mkF m 49 #[.val (.ref a1), .val (.ref a2)] [(.int (1 : Int32))])) _
            refine XS.goto X14.here hx rfl (pc0 := 49) (pc' := 53) rfl (hb hby d3_49) (by decide) (by decide) ?_
            show Steps p.tables e below (T14.setTop (mkF m 53 #[.val (.ref a1), .val (.ref a2)] [(.int (1 : Int32))])) _
            exact retN X14 hx (t := .boolean) Bd.returns (by simp) (hb hby d3_53) hr
          · show Q3 Z a1 a2 w_orientation_a1 w_orientation_a2 w_uiMode_a1 w_uiMode_a2 w_screenWidthDp_a1 w_screenWidthDp_a2 w_screenHeightDp_a1 w_screenHeightDp_a2 h0 n0 _ T14.heap _
            rw [e14]
            refine ⟨?_, N0, rfl⟩
            show (some (.int (1 : Int32)) : Option Value) = some (.int (F3 w_orientation_a1 w_orientation_a2 w_uiMode_a1 w_uiMode_a2 w_screenWidthDp_a1 w_screenWidthDp_a2 w_screenHeightDp_a1 w_screenHeightDp_a2))
            rw [F3, if_pos hc4, if_pos hc8, if_pos hc12, if_pos hc16]
        · obtain ⟨fs, hr, hrun, hended, hW, hsame⟩ := X14.leave (v := some (.int (0 : Int32))) (fun h => by rw [Bd.returns] at h; cases h)
          refine ⟨_, _, pre15 _ ?_, hrun, hended, _, _, rfl, ?_, ⟨_, rfl⟩, hW, hsame.mono (by decide) (by decide)⟩
          · show Steps p.tables e below (T14.setTop (mkF m 45 #[.val (.ref a1), .val (.ref a2)] [(.int w_screenHeightDp_a2), (.int w_screenHeightDp_a1)])) _
            refine XS.icmpYes X14.here hx rfl (pc0 := 45) (pc' := 52) rfl (hb hby d3_45) rfl (feq hc16).2 (by decide) (by decide) ?_
            show Steps p.tables e below (T14.setTop (mkF m 52 #[.val (.ref a1), .val (.ref a2)] [])) _
            refine XS.iconst X14.here hx rfl (hb hby d3_52) ?_
            show Steps p.tables e below (T14.setTop (mkF m 53 #[.val (.ref a1), .val (.ref a2)] [(.int (0 : Int32))])) _
            exact retN X14 hx (t := .boolean) Bd.returns (by simp) (hb hby d3_53) hr
          · show Q3 Z a1 a2 w_orientation_a1 w_orientation_a2 w_uiMode_a1 w_uiMode_a2 w_screenWidthDp_a1 w_screenWidthDp_a2 w_screenHeightDp_a1 w_screenHeightDp_a2 h0 n0 _ T14.heap _
            rw [e14]
            refine ⟨?_, N0, rfl⟩
            show (some (.int (0 : Int32)) : Option Value) = some (.int (F3 w_orientation_a1 w_orientation_a2 w_uiMode_a1 w_uiMode_a2 w_screenWidthDp_a1 w_screenWidthDp_a2 w_screenHeightDp_a1 w_screenHeightDp_a2))
            rw [F3, if_pos hc4, if_pos hc8, if_pos hc12, if_neg hc16]
      · obtain ⟨fs, hr, hrun, hended, hW, hsame⟩ := X10.leave (v := some (.int (0 : Int32))) (fun h => by rw [Bd.returns] at h; cases h)
        refine ⟨_, _, pre11 _ ?_, hrun, hended, _, _, rfl, ?_, ⟨_, rfl⟩, hW, hsame.mono (by decide) (by decide)⟩
        · show Steps p.tables e below (T10.setTop (mkF m 34 #[.val (.ref a1), .val (.ref a2)] [(.int w_screenWidthDp_a2), (.int w_screenWidthDp_a1)])) _
          refine XS.icmpYes X10.here hx rfl (pc0 := 34) (pc' := 52) rfl (hb hby d3_34) rfl (feq hc12).2 (by decide) (by decide) ?_
          show Steps p.tables e below (T10.setTop (mkF m 52 #[.val (.ref a1), .val (.ref a2)] [])) _
          refine XS.iconst X10.here hx rfl (hb hby d3_52) ?_
          show Steps p.tables e below (T10.setTop (mkF m 53 #[.val (.ref a1), .val (.ref a2)] [(.int (0 : Int32))])) _
          exact retN X10 hx (t := .boolean) Bd.returns (by simp) (hb hby d3_53) hr
        · show Q3 Z a1 a2 w_orientation_a1 w_orientation_a2 w_uiMode_a1 w_uiMode_a2 w_screenWidthDp_a1 w_screenWidthDp_a2 w_screenHeightDp_a1 w_screenHeightDp_a2 h0 n0 _ T10.heap _
          rw [e10]
          refine ⟨?_, N0, rfl⟩
          show (some (.int (0 : Int32)) : Option Value) = some (.int (F3 w_orientation_a1 w_orientation_a2 w_uiMode_a1 w_uiMode_a2 w_screenWidthDp_a1 w_screenWidthDp_a2 w_screenHeightDp_a1 w_screenHeightDp_a2))
          rw [F3, if_pos hc4, if_pos hc8, if_neg hc12]
    · obtain ⟨fs, hr, hrun, hended, hW, hsame⟩ := X6.leave (v := some (.int (0 : Int32))) (fun h => by rw [Bd.returns] at h; cases h)
      refine ⟨_, _, pre7 _ ?_, hrun, hended, _, _, rfl, ?_, ⟨_, rfl⟩, hW, hsame.mono (by decide) (by decide)⟩
      · show Steps p.tables e below (T6.setTop (mkF m 23 #[.val (.ref a1), .val (.ref a2)] [(.int w_uiMode_a2), (.int w_uiMode_a1)])) _
        refine XS.icmpYes X6.here hx rfl (pc0 := 23) (pc' := 52) rfl (hb hby d3_23) rfl (feq hc8).2 (by decide) (by decide) ?_
        show Steps p.tables e below (T6.setTop (mkF m 52 #[.val (.ref a1), .val (.ref a2)] [])) _
        refine XS.iconst X6.here hx rfl (hb hby d3_52) ?_
        show Steps p.tables e below (T6.setTop (mkF m 53 #[.val (.ref a1), .val (.ref a2)] [(.int (0 : Int32))])) _
        exact retN X6 hx (t := .boolean) Bd.returns (by simp) (hb hby d3_53) hr
      · show Q3 Z a1 a2 w_orientation_a1 w_orientation_a2 w_uiMode_a1 w_uiMode_a2 w_screenWidthDp_a1 w_screenWidthDp_a2 w_screenHeightDp_a1 w_screenHeightDp_a2 h0 n0 _ T6.heap _
        rw [e6]
        refine ⟨?_, N0, rfl⟩
        show (some (.int (0 : Int32)) : Option Value) = some (.int (F3 w_orientation_a1 w_orientation_a2 w_uiMode_a1 w_uiMode_a2 w_screenWidthDp_a1 w_screenWidthDp_a2 w_screenHeightDp_a1 w_screenHeightDp_a2))
        rw [F3, if_pos hc4, if_neg hc8]
  · obtain ⟨fs, hr, hrun, hended, hW, hsame⟩ := X2.leave (v := some (.int (0 : Int32))) (fun h => by rw [Bd.returns] at h; cases h)
    refine ⟨_, _, pre3 _ ?_, hrun, hended, _, _, rfl, ?_, ⟨_, rfl⟩, hW, hsame.mono (by decide) (by decide)⟩
    · show Steps p.tables e below (T2.setTop (mkF m 12 #[.val (.ref a1), .val (.ref a2)] [(.int w_orientation_a2), (.int w_orientation_a1)])) _
      refine XS.icmpYes X2.here hx rfl (pc0 := 12) (pc' := 52) rfl (hb hby d3_12) rfl (feq hc4).2 (by decide) (by decide) ?_
      show Steps p.tables e below (T2.setTop (mkF m 52 #[.val (.ref a1), .val (.ref a2)] [])) _
      refine XS.iconst X2.here hx rfl (hb hby d3_52) ?_
      show Steps p.tables e below (T2.setTop (mkF m 53 #[.val (.ref a1), .val (.ref a2)] [(.int (0 : Int32))])) _
      exact retN X2 hx (t := .boolean) Bd.returns (by simp) (hb hby d3_53) hr
    · show Q3 Z a1 a2 w_orientation_a1 w_orientation_a2 w_uiMode_a1 w_uiMode_a2 w_screenWidthDp_a1 w_screenWidthDp_a2 w_screenHeightDp_a1 w_screenHeightDp_a2 h0 n0 _ T2.heap _
      rw [e2]
      refine ⟨?_, N0, rfl⟩
      show (some (.int (0 : Int32)) : Option Value) = some (.int (F3 w_orientation_a1 w_orientation_a2 w_uiMode_a1 w_uiMode_a2 w_screenWidthDp_a1 w_screenWidthDp_a2 w_screenHeightDp_a1 w_screenHeightDp_a2))
      rw [F3, if_neg hc4]
theorem own_eq (p5 d o u w h : Int32) (hd : ¬ d = 0) :
    F3 o (if p5 &&& 1 = 0 then o else o + d) u (if p5 &&& 2 = 0 then u else u + d) w (if p5 &&& 4 = 0 then w else w + d) h (if p5 &&& 8 = 0 then h else h + d) = (if p5 &&& 15 = 0 then 1 else 0) ∧
    F3 (if p5 &&& 1 = 0 then o else o + d) o (if p5 &&& 2 = 0 then u else u + d) u (if p5 &&& 4 = 0 then w else w + d) w (if p5 &&& 8 = 0 then h else h + d) h = (if p5 &&& 15 = 0 then 1 else 0) := by
  have a1 := own_add o d hd
  have a2 := own_add u d hd
  have a3 := own_add w d hd
  have a4 := own_add h d hd
  have b1 := own_add' o d hd
  have b2 := own_add' u d hd
  have b3 := own_add' w d hd
  have b4 := own_add' h d hd
  have k := own_15 p5
  by_cases h1 : p5 &&& 1 = 0 <;> by_cases h2 : p5 &&& 2 = 0 <;> by_cases h3 : p5 &&& 4 = 0 <;> by_cases h4 : p5 &&& 8 = 0 <;> simp only [h1, h2, h3, h4, k, F3, if_true, if_false, a1, a2, a3, a4, b1, b2, b3, b4, and_true, and_false, true_and, false_and, and_self]
theorem own_d (k v : Int32) (hv : v = if k = 0 then 1 else k) : ¬ v = 0 := by
  subst hv; split
  · decide
  · assumption

theorem d1003_0 : decode prog_13_method_7_code 0 = .ok (.aload_n 1, 1) := by decide +kernel
theorem d1003_1 : decode prog_13_method_7_code 1 = .ok (.ifnull 51, 3) := by decide +kernel
theorem d1003_52 : decode prog_13_method_7_code 52 = .ok (.iconst 0, 1) := by decide +kernel
theorem d1003_53 : decode prog_13_method_7_code 53 = .ok (.ireturn, 1) := by decide +kernel
theorem pn_1003 : plainName "android/content/res/Configuration" = true := by first | (simp [plainName, overriddenIn]; done) | decide +kernel
theorem ef_1003 (m : MethodId) (a1 : Addr) : entryFrame m #[(.ref a1), .null] 2 = mkF m 0 #[.val (.ref a1), .val .null] [] := by first | (simp [entryFrame, mkF, argsToLocals, Value.category]; done) | rfl
def F1003  : Int32 := (0 : Int32)
def Q1003 (Z : State) (a1 : Addr) (h0 : Heap) (n0 : Nat) (v : Option Value) (h : Heap) (L : List Loc) : Prop := v = some (.int (F1003 )) ∧ Fr n0 L ∧ h = h0
set_option maxRecDepth 65536 in
set_option maxHeartbeats 40000000 in
theorem rm1003 (l : Launch) (Z : State) (a0 : Array Value) (hw : ∀ d ∈ tables_1, d.before a0 Z = true) (ws : List Jvm.Cond) (a1 : Addr) (h0 : Heap) (n0 : Nat) (Z0 : n0 ≤ h0.size) :
    MetFree l (⟨"android/content/res/Configuration", "equals", "(Landroid/content/res/Configuration;)Z"⟩ : MethodName) (head1 (Jvm.Cond.code (⟨"android/content/res/Configuration", "equals", "(Landroid/content/res/Configuration;)Z"⟩ : MethodName) prog_13_method_7_code 2 (some .boolean) :: ws) ({ frames := 0, cells := 0, slots := 0, locals := 0 } : Room)) (fun a U => a = #[(.ref a1), .null] ∧ Z.Warmed39 U.vm ∧ U.heap = h0) (fun _ _ _ _ _ => True) (fun _ U o U' => ∃ v L, o = .returned v ∧ Q1003 Z a1 h0 n0 v U'.heap L ∧ FrameEnd U o U' L ({ frames := 0, cells := 0, slots := 0, locals := 0 } : Room).cells ({ frames := 0, cells := 0, slots := 0, locals := 0 } : Room).slots) := by
  refine MetFree.of_bodySF (plainFor_of_name pn_1003) hisR ?_
  intro p e s m args below meth c s₁ Bd hml0 hP hK
  obtain ⟨rfl, hZ, hh⟩ := hP
  have hx := Bd.exec
  have hby := Bd.bytes
  have hml : c.maxLocals = 2 := hml0
  have hown : s.vm.findClass "android/content/res/Configuration" = some m.cls := findClass_of_methodNamed Bd.named
  have hnm := (name_of_methodNamed Bd.named Bd.method).1
  have X0 : Stand p l e ({ frames := 0, cells := 0, slots := 0, locals := 0 } : Room) s m #[(.ref a1), .null] below meth c s₁ [] 0 0 := Stand.of_body Bd
  have e0 : s₁.heap = h0 := by rw [← hh, Bd.state]; rfl
  have N0 := Fr.nil n0
  have pre0 : ∀ t, Steps p.tables e below (s₁.setTop (mkF m 0 #[.val (.ref a1), .val .null] [])) t → Steps p.tables e below (s₁.setTop (entryFrame m #[(.ref a1), .null] 2)) t := fun t k => castTop (ef_1003 m a1) k
  obtain ⟨fs, hr, hrun, hended, hW, hsame⟩ := X0.leave (v := some (.int (0 : Int32))) (fun h => by rw [Bd.returns] at h; cases h)
  refine ⟨_, _, pre0 _ ?_, hrun, hended, _, _, rfl, ?_, ⟨_, rfl⟩, hW, hsame.mono (by decide) (by decide)⟩
  · show Steps p.tables e below (s₁.setTop (mkF m 0 #[.val (.ref a1), .val .null] [])) _
    refine XS.aloadN X0.here hx rfl (hb hby d1003_0) rfl rfl ?_
    show Steps p.tables e below (s₁.setTop (mkF m 1 #[.val (.ref a1), .val .null] [.null])) _
    refine XS.ifnullYes X0.here hx rfl (pc0 := 1) (pc' := 52) rfl (hb hby d1003_1) rfl (by decide) (by decide) ?_
    show Steps p.tables e below (s₁.setTop (mkF m 52 #[.val (.ref a1), .val .null] [])) _
    refine XS.iconst X0.here hx rfl (hb hby d1003_52) ?_
    show Steps p.tables e below (s₁.setTop (mkF m 53 #[.val (.ref a1), .val .null] [(.int (0 : Int32))])) _
    exact retN X0 hx (t := .boolean) Bd.returns (by simp) (hb hby d1003_53) hr
  · show Q1003 Z a1 h0 n0 _ s₁.heap _
    rw [e0]
    refine ⟨?_, N0, rfl⟩
    show (some (.int (0 : Int32)) : Option Value) = some (.int (F1003 ))
    rw [F1003]
theorem pn_0 : plainName "android/content/res/ConfigurationEqualsPinLaw" = true := by first | (simp [plainName, overriddenIn]; done) | decide +kernel
theorem pd_0_0 : parseMethodDescriptor "()V" = some ⟨[], none⟩ := by decide +kernel
theorem pd_0_1 : parseMethodDescriptor "(Landroid/content/res/Configuration;)Z" = some ⟨[(.object "android/content/res/Configuration")], some .boolean⟩ := by decide +kernel
theorem ef_0 (m : MethodId) (p1 : Int32) (p2 : Int32) (p3 : Int32) (p4 : Int32) (p5 : Int32) (p6 : Int32) : entryFrame m #[(.int p1), (.int p2), (.int p3), (.int p4), (.int p5), (.int p6)] maxLocals = mkF m 0 #[.val (.int p1), .val (.int p2), .val (.int p3), .val (.int p4), .val (.int p5), .val (.int p6), .unset, .unset, .unset, .unset] [] := by first | (simp [entryFrame, mkF, argsToLocals, Value.category, maxLocals]; done) | rfl
set_option maxRecDepth 65536 in
set_option maxHeartbeats 40000000 in
theorem leaf_0_2 (p1 : Int32) (p2 : Int32) (p3 : Int32) (p4 : Int32) (p5 : Int32) (p6 : Int32) (v4 : Int32) (hv4 : v4 = (if p6 = (0 : Int32) then (1 : Int32) else p6)) (v26 : Int32) (hv26 : v26 = (if (p5 &&& (1 : Int32)) = (0 : Int32) then p1 else (p1 + v4))) (v31 : Int32) (hv31 : v31 = (if (p5 &&& (2 : Int32)) = (0 : Int32) then p2 else (p2 + v4))) (v38 : Int32) (hv38 : v38 = (if (p5 &&& (4 : Int32)) = (0 : Int32) then p3 else (p3 + v4))) (v45 : Int32) (hv45 : v45 = (if (p5 &&& (8 : Int32)) = (0 : Int32) then p4 else (p4 + v4))) (hc50 : (p5 &&& (16 : Int32)) = (0 : Int32)) (v54 : Int32) (hv54 : v54 = (if (p5 &&& (15 : Int32)) = (0 : Int32) then (1 : Int32) else (0 : Int32))) (hc66 : (F3 p1 v26 p2 v31 p3 v38 p4 v45) = v54) (hc70 : ¬ ((F3 v26 p1 v31 p2 v38 p3 v45 p4) = v54)) : False := by
  have := own_d p6 v4 hv4
  refine hc70 ?_
  rw [hv54, hv26, hv31, hv38, hv45]
  exact (own_eq p5 v4 p1 p2 p3 p4 this).2
set_option maxRecDepth 65536 in
set_option maxHeartbeats 40000000 in
theorem leaf_0_3 (p1 : Int32) (p2 : Int32) (p3 : Int32) (p4 : Int32) (p5 : Int32) (p6 : Int32) (v4 : Int32) (hv4 : v4 = (if p6 = (0 : Int32) then (1 : Int32) else p6)) (v26 : Int32) (hv26 : v26 = (if (p5 &&& (1 : Int32)) = (0 : Int32) then p1 else (p1 + v4))) (v31 : Int32) (hv31 : v31 = (if (p5 &&& (2 : Int32)) = (0 : Int32) then p2 else (p2 + v4))) (v38 : Int32) (hv38 : v38 = (if (p5 &&& (4 : Int32)) = (0 : Int32) then p3 else (p3 + v4))) (v45 : Int32) (hv45 : v45 = (if (p5 &&& (8 : Int32)) = (0 : Int32) then p4 else (p4 + v4))) (hc50 : (p5 &&& (16 : Int32)) = (0 : Int32)) (v54 : Int32) (hv54 : v54 = (if (p5 &&& (15 : Int32)) = (0 : Int32) then (1 : Int32) else (0 : Int32))) (hc66 : ¬ ((F3 p1 v26 p2 v31 p3 v38 p4 v45) = v54)) : False := by
  have := own_d p6 v4 hv4
  refine hc66 ?_
  rw [hv54, hv26, hv31, hv38, hv45]
  exact (own_eq p5 v4 p1 p2 p3 p4 this).1
set_option maxRecDepth 65536 in
set_option maxHeartbeats 40000000 in
theorem leaf_0_4 (p1 : Int32) (p2 : Int32) (p3 : Int32) (p4 : Int32) (p5 : Int32) (p6 : Int32) (v4 : Int32) (hv4 : v4 = (if p6 = (0 : Int32) then (1 : Int32) else p6)) (v26 : Int32) (hv26 : v26 = (if (p5 &&& (1 : Int32)) = (0 : Int32) then p1 else (p1 + v4))) (v31 : Int32) (hv31 : v31 = (if (p5 &&& (2 : Int32)) = (0 : Int32) then p2 else (p2 + v4))) (v38 : Int32) (hv38 : v38 = (if (p5 &&& (4 : Int32)) = (0 : Int32) then p3 else (p3 + v4))) (v45 : Int32) (hv45 : v45 = (if (p5 &&& (8 : Int32)) = (0 : Int32) then p4 else (p4 + v4))) (hc50 : ¬ ((p5 &&& (16 : Int32)) = (0 : Int32))) (hc75 : (F1003 ) = (0 : Int32)) (hc82 : (F3 p1 p1 p2 p2 p3 p3 p4 p4) = (0 : Int32)) : False := by
  simp [F3] at hc82
set_option maxRecDepth 65536 in
set_option maxHeartbeats 40000000 in
theorem leaf_0_6 (p1 : Int32) (p2 : Int32) (p3 : Int32) (p4 : Int32) (p5 : Int32) (p6 : Int32) (v4 : Int32) (hv4 : v4 = (if p6 = (0 : Int32) then (1 : Int32) else p6)) (v26 : Int32) (hv26 : v26 = (if (p5 &&& (1 : Int32)) = (0 : Int32) then p1 else (p1 + v4))) (v31 : Int32) (hv31 : v31 = (if (p5 &&& (2 : Int32)) = (0 : Int32) then p2 else (p2 + v4))) (v38 : Int32) (hv38 : v38 = (if (p5 &&& (4 : Int32)) = (0 : Int32) then p3 else (p3 + v4))) (v45 : Int32) (hv45 : v45 = (if (p5 &&& (8 : Int32)) = (0 : Int32) then p4 else (p4 + v4))) (hc50 : ¬ ((p5 &&& (16 : Int32)) = (0 : Int32))) (hc75 : ¬ ((F1003 ) = (0 : Int32))) : False := by
  simp [F1003] at hc75
def Q0 (Z : State) (p1 : Int32) (p2 : Int32) (p3 : Int32) (p4 : Int32) (p5 : Int32) (p6 : Int32) (h0 : Heap) (n0 : Nat) (v : Option Value) (h : Heap) (L : List Loc) : Prop := v = some (.int (1 : Int32)) ∧ Fr n0 L
set_option maxRecDepth 65536 in
set_option maxHeartbeats 40000000 in
theorem rm0 (l : Launch) (Z : State) (a0 : Array Value) (hw : ∀ d ∈ tables_1, d.before a0 Z = true) (ws : List Jvm.Cond) (p1 : Int32) (p2 : Int32) (p3 : Int32) (p4 : Int32) (p5 : Int32) (p6 : Int32) (h0 : Heap) (n0 : Nat) (Z0 : n0 ≤ h0.size) :
    MetFree l x (head1 (Jvm.Cond.code x code maxLocals ret :: ws) room_1) (fun a U => a = #[(.int p1), (.int p2), (.int p3), (.int p4), (.int p5), (.int p6)] ∧ Z.Warmed39 U.vm ∧ U.heap = h0) (fun _ _ _ _ _ => True) (fun _ U o U' => ∃ v L, o = .returned v ∧ Q0 Z p1 p2 p3 p4 p5 p6 h0 n0 v U'.heap L ∧ FrameEnd U o U' L room_1.cells room_1.slots) := by
  refine MetFree.of_bodySF (plainFor_of_name pn_0) hisR ?_
  intro p e s m args below meth c s₁ Bd hml0 hP hK
  obtain ⟨rfl, hZ, hh⟩ := hP
  have hx := Bd.exec
  have hby := Bd.bytes
  have hml : c.maxLocals = 10 := hml0
  have hown : s.vm.findClass "android/content/res/ConfigurationEqualsPinLaw" = some m.cls := findClass_of_methodNamed Bd.named
  have hnm := (name_of_methodNamed Bd.named Bd.method).1
  have X0 : Stand p l e room_1 s m #[(.int p1), (.int p2), (.int p3), (.int p4), (.int p5), (.int p6)] below meth c s₁ [] 0 0 := Stand.of_body Bd
  have e0 : s₁.heap = h0 := by rw [← hh, Bd.state]; rfl
  have N0 := Fr.nil n0
  have pre0 : ∀ t, Steps p.tables e below (s₁.setTop (mkF m 0 #[.val (.int p1), .val (.int p2), .val (.int p3), .val (.int p4), .val (.int p5), .val (.int p6), .unset, .unset, .unset, .unset] [])) t → Steps p.tables e below (s₁.setTop (entryFrame m #[(.int p1), (.int p2), (.int p3), (.int p4), (.int p5), (.int p6)] maxLocals)) t := fun t k => castTop (ef_0 m p1 p2 p3 p4 p5 p6) k
  have pre1 : ∀ t, Steps p.tables e below (s₁.setTop (mkF m 2 #[.val (.int p1), .val (.int p2), .val (.int p3), .val (.int p4), .val (.int p5), .val (.int p6), .unset, .unset, .unset, .unset] [(.int p6)])) t → Steps p.tables e below (s₁.setTop (entryFrame m #[(.int p1), (.int p2), (.int p3), (.int p4), (.int p5), (.int p6)] maxLocals)) t := fun t kt => by
    refine pre0 t ?_
    show Steps p.tables e below (s₁.setTop (mkF m 0 #[.val (.int p1), .val (.int p2), .val (.int p3), .val (.int p4), .val (.int p5), .val (.int p6), .unset, .unset, .unset, .unset] [])) _
    refine XS.iload X0.here hx rfl (hb hby at_0) rfl ?_
    exact kt
  have pre3 : ∀ t, Steps p.tables e below (s₁.setTop (mkF m 11 #[.val (.int p1), .val (.int p2), .val (.int p3), .val (.int p4), .val (.int p5), .val (.int p6), .unset, .unset, .unset, .unset] [(.int (if p6 = (0 : Int32) then (1 : Int32) else p6))])) t → Steps p.tables e below (s₁.setTop (entryFrame m #[(.int p1), (.int p2), (.int p3), (.int p4), (.int p5), (.int p6)] maxLocals)) t := by
    by_cases hc2 : p6 = (0 : Int32)
    · refine fun t kt => pre1 t ?_
      try rw [if_pos hc2] at kt
      show Steps p.tables e below (s₁.setTop (mkF m 2 #[.val (.int p1), .val (.int p2), .val (.int p3), .val (.int p4), .val (.int p5), .val (.int p6), .unset, .unset, .unset, .unset] [(.int p6)])) _
      refine XS.ifNo X0.here hx rfl (hb hby at_2) rfl ((if0 _ _).trans (teq hc2).2) ?_
      show Steps p.tables e below (s₁.setTop (mkF m 5 #[.val (.int p1), .val (.int p2), .val (.int p3), .val (.int p4), .val (.int p5), .val (.int p6), .unset, .unset, .unset, .unset] [])) _
      refine XS.iconst X0.here hx rfl (hb hby at_5) ?_
      show Steps p.tables e below (s₁.setTop (mkF m 6 #[.val (.int p1), .val (.int p2), .val (.int p3), .val (.int p4), .val (.int p5), .val (.int p6), .unset, .unset, .unset, .unset] [(.int (1 : Int32))])) _
      refine XS.goto X0.here hx rfl (pc0 := 6) (pc' := 11) rfl (hb hby at_6) (by decide) (by decide) ?_
      exact kt
    · refine fun t kt => pre1 t ?_
      try rw [if_neg hc2] at kt
      show Steps p.tables e below (s₁.setTop (mkF m 2 #[.val (.int p1), .val (.int p2), .val (.int p3), .val (.int p4), .val (.int p5), .val (.int p6), .unset, .unset, .unset, .unset] [(.int p6)])) _
      refine XS.ifYes X0.here hx rfl (pc0 := 2) (pc' := 9) rfl (hb hby at_2) rfl ((if0 _ _).trans (feq hc2).2) (by decide) (by decide) ?_
      show Steps p.tables e below (s₁.setTop (mkF m 9 #[.val (.int p1), .val (.int p2), .val (.int p3), .val (.int p4), .val (.int p5), .val (.int p6), .unset, .unset, .unset, .unset] [])) _
      refine XS.iload X0.here hx rfl (hb hby at_9) rfl ?_
      exact kt
  obtain ⟨v4, hv4⟩ : ∃ z : Int32, z = (if p6 = (0 : Int32) then (1 : Int32) else p6) := ⟨_, rfl⟩
  rw [← hv4] at pre3
  obtain ⟨b5, g5⟩ : ∃ z, z = h0.size := ⟨_, rfl⟩
  obtain ⟨T5, h5, X5, e5, E5, A5, D5, -, st5⟩ := newO X0 hx hZ hown (hw _ (List.mem_of_getElem? (i := 0) rfl)) (hw _ (List.mem_of_getElem? (i := 1) rfl)) (hw _ (List.mem_of_getElem? (i := 2) rfl)) e0 (g := (mkF m 13 #[.val (.int p1), .val (.int p2), .val (.int p3), .val (.int p4), .val (.int p5), .val (.int p6), .val (.int v4), .unset, .unset, .unset] [])) rfl (hb hby at_13) (by decide) (by decide)
  rw [← g5] at A5 D5 st5
  have g_b5 : n0 ≤ b5 := Nat.le_trans Z0 (Nat.le_of_eq g5.symm)
  have F_orientation_b5 : Fld Z h5 b5 "android/content/res/Configuration" "orientation" "I" (.int (0 : Int32)) := D5 (Or.inl (hw _ (List.mem_of_getElem? (i := 10) rfl))) (ty := .int) (by decide)
  have F_uiMode_b5 : Fld Z h5 b5 "android/content/res/Configuration" "uiMode" "I" (.int (0 : Int32)) := D5 (Or.inl (hw _ (List.mem_of_getElem? (i := 12) rfl))) (ty := .int) (by decide)
  have F_screenWidthDp_b5 : Fld Z h5 b5 "android/content/res/Configuration" "screenWidthDp" "I" (.int (0 : Int32)) := D5 (Or.inl (hw _ (List.mem_of_getElem? (i := 14) rfl))) (ty := .int) (by decide)
  have F_screenHeightDp_b5 : Fld Z h5 b5 "android/content/res/Configuration" "screenHeightDp" "I" (.int (0 : Int32)) := D5 (Or.inl (hw _ (List.mem_of_getElem? (i := 16) rfl))) (ty := .int) (by decide)
  have z7 : n0 ≤ h5.size := (Nat.le_trans Z0 E5.1)
  obtain ⟨_, _, ⟨T6, L6, k6, n6⟩, -, X6, ⟨Lc6, hQ6, l6, y6, z6⟩, st6⟩ := X5.specialBack hx (y := (⟨"android/content/res/Configuration", "<init>", "()V"⟩ : MethodName)) rfl hown (mvT hZ (hw _ (List.mem_of_getElem? (i := 3) rfl))) (mvT hZ (hw _ (List.mem_of_getElem? (i := 4) rfl))) (mvT hZ (hw _ (List.mem_of_getElem? (i := 5) rfl))) (by decide) (backOf (W := 1) (rm1 l Z a0 hw [] b5 h5 n0 z7) hZ (hw _ (List.mem_of_getElem? (i := 5) rfl)) (hw _ (List.mem_of_getElem? (i := 2) rfl)) (by decide) (by decide)) (g := (mkF m 17 #[.val (.int p1), .val (.int p2), .val (.int p3), .val (.int p4), .val (.int p5), .val (.int p6), .val (.int v4), .unset, .unset, .unset] [(.ref b5), (.ref b5)])) rfl (by rw [hml]; rfl) (Steps.refl _) (a := b5) (argsL := []) (rest := [(.ref b5)]) (lenOf pd_0_0 rfl) rfl (by show 2 * 0 + _ ≤ _; exact Nat.le_of_eq rfl) (hb hby at_17) (fun _ _ => ⟨rfl, e5, (by decide : 1 + 0 ≤ _), (by decide : 4 + 0 ≤ _)⟩)
  dsimp only [Pt.U, Pt.locs, Pt.cells, Pt.slots] at X6 l6 y6 z6 st6 hQ6
  subst l6 y6 z6
  obtain ⟨rfl, N6q, e6⟩ := hQ6
  have N6 := Fr.app N0 N6q
  obtain ⟨T8, h8, X8, e8, W8, st8⟩ := putF X6 hx hZ hown (host := "") (Or.inl (hw _ (List.mem_of_getElem? (i := 9) rfl))) Via.refl e6 F_orientation_b5 A5 (Or.inl (hw _ (List.mem_of_getElem? (i := 10) rfl))) (hw _ (List.mem_of_getElem? (i := 1) rfl)) (ty := .int) (by decide) rfl rfl (g := (mkF m 25 #[.val (.int p1), .val (.int p2), .val (.int p3), .val (.int p4), .val (.int p5), .val (.int p6), .val (.int v4), .val (.ref b5), .unset, .unset] [(.int p1), (.ref b5)])) rfl rfl (hb hby at_25)
  have Fw8 := Fld.same W8 F_orientation_b5
  have N8 := Fr.snoc X8 N6 g_b5
  have q9 := (Exa.wr W8 A5)
  have q10 := (Fld.other W8 F_uiMode_b5 (Or.inr (slot_ne (Or.inl (hw _ (List.mem_of_getElem? (i := 12) rfl))) (Or.inl (hw _ (List.mem_of_getElem? (i := 10) rfl))) (by decide) (t := .int) (t' := .int) (by decide) (by decide))))
  obtain ⟨T11, h11, X11, e11, W11, st11⟩ := putF X8 hx hZ hown (host := "") (Or.inl (hw _ (List.mem_of_getElem? (i := 11) rfl))) Via.refl e8 q10 q9 (Or.inl (hw _ (List.mem_of_getElem? (i := 12) rfl))) (hw _ (List.mem_of_getElem? (i := 1) rfl)) (ty := .int) (by decide) rfl rfl (g := (mkF m 31 #[.val (.int p1), .val (.int p2), .val (.int p3), .val (.int p4), .val (.int p5), .val (.int p6), .val (.int v4), .val (.ref b5), .unset, .unset] [(.int p2), (.ref b5)])) rfl rfl (hb hby at_31)
  have Fw11 := Fld.same W11 q10
  have N11 := Fr.snoc X11 N8 g_b5
  have q12 := (Exa.wr W11 q9)
  have q13 := (Fld.other W11 (Fld.other W8 F_screenWidthDp_b5 (Or.inr (slot_ne (Or.inl (hw _ (List.mem_of_getElem? (i := 14) rfl))) (Or.inl (hw _ (List.mem_of_getElem? (i := 10) rfl))) (by decide) (t := .int) (t' := .int) (by decide) (by decide)))) (Or.inr (slot_ne (Or.inl (hw _ (List.mem_of_getElem? (i := 14) rfl))) (Or.inl (hw _ (List.mem_of_getElem? (i := 12) rfl))) (by decide) (t := .int) (t' := .int) (by decide) (by decide))))
  obtain ⟨T14, h14, X14, e14, W14, st14⟩ := putF X11 hx hZ hown (host := "") (Or.inl (hw _ (List.mem_of_getElem? (i := 13) rfl))) Via.refl e11 q13 q12 (Or.inl (hw _ (List.mem_of_getElem? (i := 14) rfl))) (hw _ (List.mem_of_getElem? (i := 1) rfl)) (ty := .int) (by decide) rfl rfl (g := (mkF m 37 #[.val (.int p1), .val (.int p2), .val (.int p3), .val (.int p4), .val (.int p5), .val (.int p6), .val (.int v4), .val (.ref b5), .unset, .unset] [(.int p3), (.ref b5)])) rfl rfl (hb hby at_37)
  have Fw14 := Fld.same W14 q13
  have N14 := Fr.snoc X14 N11 g_b5
  have q15 := (Exa.wr W14 q12)
  have q16 := (Fld.other W14 (Fld.other W11 (Fld.other W8 F_screenHeightDp_b5 (Or.inr (slot_ne (Or.inl (hw _ (List.mem_of_getElem? (i := 16) rfl))) (Or.inl (hw _ (List.mem_of_getElem? (i := 10) rfl))) (by decide) (t := .int) (t' := .int) (by decide) (by decide)))) (Or.inr (slot_ne (Or.inl (hw _ (List.mem_of_getElem? (i := 16) rfl))) (Or.inl (hw _ (List.mem_of_getElem? (i := 12) rfl))) (by decide) (t := .int) (t' := .int) (by decide) (by decide)))) (Or.inr (slot_ne (Or.inl (hw _ (List.mem_of_getElem? (i := 16) rfl))) (Or.inl (hw _ (List.mem_of_getElem? (i := 14) rfl))) (by decide) (t := .int) (t' := .int) (by decide) (by decide))))
  obtain ⟨T17, h17, X17, e17, W17, st17⟩ := putF X14 hx hZ hown (host := "") (Or.inl (hw _ (List.mem_of_getElem? (i := 15) rfl))) Via.refl e14 q16 q15 (Or.inl (hw _ (List.mem_of_getElem? (i := 16) rfl))) (hw _ (List.mem_of_getElem? (i := 1) rfl)) (ty := .int) (by decide) rfl rfl (g := (mkF m 43 #[.val (.int p1), .val (.int p2), .val (.int p3), .val (.int p4), .val (.int p5), .val (.int p6), .val (.int v4), .val (.ref b5), .unset, .unset] [(.int p4), (.ref b5)])) rfl rfl (hb hby at_43)
  have Fw17 := Fld.same W17 q16
  have N17 := Fr.snoc X17 N14 g_b5
  have q19 := (Exa.wr W17 q15)
  have z20 : n0 ≤ h17.size := (Nat.le_trans (Nat.le_trans (Nat.le_trans (Nat.le_trans z7 (Keep.of_wr W8).1) (Keep.of_wr W11).1) (Keep.of_wr W14).1) (Keep.of_wr W17).1)
  obtain ⟨b18, g18⟩ : ∃ z, z = h17.size := ⟨_, rfl⟩
  obtain ⟨T18, h18, X18, e18, E18, A18, D18, -, st18⟩ := newO X17 hx hZ hown (hw _ (List.mem_of_getElem? (i := 0) rfl)) (hw _ (List.mem_of_getElem? (i := 1) rfl)) (hw _ (List.mem_of_getElem? (i := 2) rfl)) e17 (g := (mkF m 46 #[.val (.int p1), .val (.int p2), .val (.int p3), .val (.int p4), .val (.int p5), .val (.int p6), .val (.int v4), .val (.ref b5), .unset, .unset] [])) rfl (hb hby at_46) (by decide) (by decide)
  rw [← g18] at A18 D18 st18
  have g_b18 : n0 ≤ b18 := Nat.le_trans z20 (Nat.le_of_eq g18.symm)
  have ne_b5_b18 : b5 ≠ b18 := Nat.ne_of_lt (Nat.lt_of_lt_of_le q19.lt (Nat.le_of_eq g18.symm))
  have F_orientation_b18 : Fld Z h18 b18 "android/content/res/Configuration" "orientation" "I" (.int (0 : Int32)) := D18 (Or.inl (hw _ (List.mem_of_getElem? (i := 10) rfl))) (ty := .int) (by decide)
  have F_uiMode_b18 : Fld Z h18 b18 "android/content/res/Configuration" "uiMode" "I" (.int (0 : Int32)) := D18 (Or.inl (hw _ (List.mem_of_getElem? (i := 12) rfl))) (ty := .int) (by decide)
  have F_screenWidthDp_b18 : Fld Z h18 b18 "android/content/res/Configuration" "screenWidthDp" "I" (.int (0 : Int32)) := D18 (Or.inl (hw _ (List.mem_of_getElem? (i := 14) rfl))) (ty := .int) (by decide)
  have F_screenHeightDp_b18 : Fld Z h18 b18 "android/content/res/Configuration" "screenHeightDp" "I" (.int (0 : Int32)) := D18 (Or.inl (hw _ (List.mem_of_getElem? (i := 16) rfl))) (ty := .int) (by decide)
  have z22 : n0 ≤ h18.size := (Nat.le_trans z20 E18.1)
  obtain ⟨_, _, ⟨T21, L21, k21, n21⟩, -, X21, ⟨Lc21, hQ21, l21, y21, z21⟩, st21⟩ := X18.specialBack hx (y := (⟨"android/content/res/Configuration", "<init>", "()V"⟩ : MethodName)) rfl hown (mvT hZ (hw _ (List.mem_of_getElem? (i := 3) rfl))) (mvT hZ (hw _ (List.mem_of_getElem? (i := 4) rfl))) (mvT hZ (hw _ (List.mem_of_getElem? (i := 5) rfl))) (by decide) (backOf (W := 1) (rm1 l Z a0 hw [] b18 h18 n0 z22) hZ (hw _ (List.mem_of_getElem? (i := 5) rfl)) (hw _ (List.mem_of_getElem? (i := 2) rfl)) (by decide) (by decide)) (g := (mkF m 50 #[.val (.int p1), .val (.int p2), .val (.int p3), .val (.int p4), .val (.int p5), .val (.int p6), .val (.int v4), .val (.ref b5), .unset, .unset] [(.ref b18), (.ref b18)])) rfl (by rw [hml]; rfl) (Steps.refl _) (a := b18) (argsL := []) (rest := [(.ref b18)]) (lenOf pd_0_0 rfl) rfl (by show 2 * 0 + _ ≤ _; exact Nat.le_of_eq rfl) (hb hby at_50) (fun _ _ => ⟨rfl, e18, (by decide : 2 + 0 ≤ _), (by decide : 8 + 0 ≤ _)⟩)
  dsimp only [Pt.U, Pt.locs, Pt.cells, Pt.slots] at X21 l21 y21 z21 st21 hQ21
  subst l21 y21 z21
  obtain ⟨rfl, N21q, e21⟩ := hQ21
  have N21 := Fr.app N17 N21q
  have pre23 : ∀ t, Steps p.tables e below (T21.setTop (mkF m 61 #[.val (.int p1), .val (.int p2), .val (.int p3), .val (.int p4), .val (.int p5), .val (.int p6), .val (.int v4), .val (.ref b5), .val (.ref b18), .unset] [(.int (p5 &&& (1 : Int32))), (.ref b18)])) t → Steps p.tables e below (s₁.setTop (entryFrame m #[(.int p1), (.int p2), (.int p3), (.int p4), (.int p5), (.int p6)] maxLocals)) t := fun t kt => by
    refine pre3 t ?_
    show Steps p.tables e below (s₁.setTop (mkF m 11 #[.val (.int p1), .val (.int p2), .val (.int p3), .val (.int p4), .val (.int p5), .val (.int p6), .unset, .unset, .unset, .unset] [(.int v4)])) _
    refine XS.istore X0.here hx rfl (hb hby at_11) rfl (l' := #[.val (.int p1), .val (.int p2), .val (.int p3), .val (.int p4), .val (.int p5), .val (.int p6), .val (.int v4), .unset, .unset, .unset]) rfl ?_
    show Steps p.tables e below (s₁.setTop (mkF m 13 #[.val (.int p1), .val (.int p2), .val (.int p3), .val (.int p4), .val (.int p5), .val (.int p6), .val (.int v4), .unset, .unset, .unset] [])) _
    refine st5 _ ?_
    show Steps p.tables e below (T5.setTop (mkF m 16 #[.val (.int p1), .val (.int p2), .val (.int p3), .val (.int p4), .val (.int p5), .val (.int p6), .val (.int v4), .unset, .unset, .unset] [(.ref b5)])) _
    refine XS.dup X5.here hx rfl (hb hby at_16) rfl rfl ?_
    show Steps p.tables e below (T5.setTop (mkF m 17 #[.val (.int p1), .val (.int p2), .val (.int p3), .val (.int p4), .val (.int p5), .val (.int p6), .val (.int v4), .unset, .unset, .unset] [(.ref b5), (.ref b5)])) _
    refine st6.trans ?_
    show Steps p.tables e below (T6.setTop (mkF m 20 #[.val (.int p1), .val (.int p2), .val (.int p3), .val (.int p4), .val (.int p5), .val (.int p6), .val (.int v4), .unset, .unset, .unset] [(.ref b5)])) _
    refine XS.astore X6.here hx rfl (hb hby at_20) rfl rfl (l' := #[.val (.int p1), .val (.int p2), .val (.int p3), .val (.int p4), .val (.int p5), .val (.int p6), .val (.int v4), .val (.ref b5), .unset, .unset]) rfl ?_
    show Steps p.tables e below (T6.setTop (mkF m 22 #[.val (.int p1), .val (.int p2), .val (.int p3), .val (.int p4), .val (.int p5), .val (.int p6), .val (.int v4), .val (.ref b5), .unset, .unset] [])) _
    refine XS.aload X6.here hx rfl (hb hby at_22) rfl rfl ?_
    show Steps p.tables e below (T6.setTop (mkF m 24 #[.val (.int p1), .val (.int p2), .val (.int p3), .val (.int p4), .val (.int p5), .val (.int p6), .val (.int v4), .val (.ref b5), .unset, .unset] [(.ref b5)])) _
    refine XS.iloadN X6.here hx rfl (hb hby at_24) rfl ?_
    show Steps p.tables e below (T6.setTop (mkF m 25 #[.val (.int p1), .val (.int p2), .val (.int p3), .val (.int p4), .val (.int p5), .val (.int p6), .val (.int v4), .val (.ref b5), .unset, .unset] [(.int p1), (.ref b5)])) _
    refine st8 _ ?_
    show Steps p.tables e below (T8.setTop (mkF m 28 #[.val (.int p1), .val (.int p2), .val (.int p3), .val (.int p4), .val (.int p5), .val (.int p6), .val (.int v4), .val (.ref b5), .unset, .unset] [])) _
    refine XS.aload X8.here hx rfl (hb hby at_28) rfl rfl ?_
    show Steps p.tables e below (T8.setTop (mkF m 30 #[.val (.int p1), .val (.int p2), .val (.int p3), .val (.int p4), .val (.int p5), .val (.int p6), .val (.int v4), .val (.ref b5), .unset, .unset] [(.ref b5)])) _
    refine XS.iloadN X8.here hx rfl (hb hby at_30) rfl ?_
    show Steps p.tables e below (T8.setTop (mkF m 31 #[.val (.int p1), .val (.int p2), .val (.int p3), .val (.int p4), .val (.int p5), .val (.int p6), .val (.int v4), .val (.ref b5), .unset, .unset] [(.int p2), (.ref b5)])) _
    refine st11 _ ?_
    show Steps p.tables e below (T11.setTop (mkF m 34 #[.val (.int p1), .val (.int p2), .val (.int p3), .val (.int p4), .val (.int p5), .val (.int p6), .val (.int v4), .val (.ref b5), .unset, .unset] [])) _
    refine XS.aload X11.here hx rfl (hb hby at_34) rfl rfl ?_
    show Steps p.tables e below (T11.setTop (mkF m 36 #[.val (.int p1), .val (.int p2), .val (.int p3), .val (.int p4), .val (.int p5), .val (.int p6), .val (.int v4), .val (.ref b5), .unset, .unset] [(.ref b5)])) _
    refine XS.iloadN X11.here hx rfl (hb hby at_36) rfl ?_
    show Steps p.tables e below (T11.setTop (mkF m 37 #[.val (.int p1), .val (.int p2), .val (.int p3), .val (.int p4), .val (.int p5), .val (.int p6), .val (.int v4), .val (.ref b5), .unset, .unset] [(.int p3), (.ref b5)])) _
    refine st14 _ ?_
    show Steps p.tables e below (T14.setTop (mkF m 40 #[.val (.int p1), .val (.int p2), .val (.int p3), .val (.int p4), .val (.int p5), .val (.int p6), .val (.int v4), .val (.ref b5), .unset, .unset] [])) _
    refine XS.aload X14.here hx rfl (hb hby at_40) rfl rfl ?_
    show Steps p.tables e below (T14.setTop (mkF m 42 #[.val (.int p1), .val (.int p2), .val (.int p3), .val (.int p4), .val (.int p5), .val (.int p6), .val (.int v4), .val (.ref b5), .unset, .unset] [(.ref b5)])) _
    refine XS.iloadN X14.here hx rfl (hb hby at_42) rfl ?_
    show Steps p.tables e below (T14.setTop (mkF m 43 #[.val (.int p1), .val (.int p2), .val (.int p3), .val (.int p4), .val (.int p5), .val (.int p6), .val (.int v4), .val (.ref b5), .unset, .unset] [(.int p4), (.ref b5)])) _
    refine st17 _ ?_
    show Steps p.tables e below (T17.setTop (mkF m 46 #[.val (.int p1), .val (.int p2), .val (.int p3), .val (.int p4), .val (.int p5), .val (.int p6), .val (.int v4), .val (.ref b5), .unset, .unset] [])) _
    refine st18 _ ?_
    show Steps p.tables e below (T18.setTop (mkF m 49 #[.val (.int p1), .val (.int p2), .val (.int p3), .val (.int p4), .val (.int p5), .val (.int p6), .val (.int v4), .val (.ref b5), .unset, .unset] [(.ref b18)])) _
    refine XS.dup X18.here hx rfl (hb hby at_49) rfl rfl ?_
    show Steps p.tables e below (T18.setTop (mkF m 50 #[.val (.int p1), .val (.int p2), .val (.int p3), .val (.int p4), .val (.int p5), .val (.int p6), .val (.int v4), .val (.ref b5), .unset, .unset] [(.ref b18), (.ref b18)])) _
    refine st21.trans ?_
    show Steps p.tables e below (T21.setTop (mkF m 53 #[.val (.int p1), .val (.int p2), .val (.int p3), .val (.int p4), .val (.int p5), .val (.int p6), .val (.int v4), .val (.ref b5), .unset, .unset] [(.ref b18)])) _
    refine XS.astore X21.here hx rfl (hb hby at_53) rfl rfl (l' := #[.val (.int p1), .val (.int p2), .val (.int p3), .val (.int p4), .val (.int p5), .val (.int p6), .val (.int v4), .val (.ref b5), .val (.ref b18), .unset]) rfl ?_
    show Steps p.tables e below (T21.setTop (mkF m 55 #[.val (.int p1), .val (.int p2), .val (.int p3), .val (.int p4), .val (.int p5), .val (.int p6), .val (.int v4), .val (.ref b5), .val (.ref b18), .unset] [])) _
    refine XS.aload X21.here hx rfl (hb hby at_55) rfl rfl ?_
    show Steps p.tables e below (T21.setTop (mkF m 57 #[.val (.int p1), .val (.int p2), .val (.int p3), .val (.int p4), .val (.int p5), .val (.int p6), .val (.int v4), .val (.ref b5), .val (.ref b18), .unset] [(.ref b18)])) _
    refine XS.iload X21.here hx rfl (hb hby at_57) rfl ?_
    show Steps p.tables e below (T21.setTop (mkF m 59 #[.val (.int p1), .val (.int p2), .val (.int p3), .val (.int p4), .val (.int p5), .val (.int p6), .val (.int v4), .val (.ref b5), .val (.ref b18), .unset] [(.int p5), (.ref b18)])) _
    refine XS.iconst X21.here hx rfl (hb hby at_59) ?_
    show Steps p.tables e below (T21.setTop (mkF m 60 #[.val (.int p1), .val (.int p2), .val (.int p3), .val (.int p4), .val (.int p5), .val (.int p6), .val (.int v4), .val (.ref b5), .val (.ref b18), .unset] [(.int (1 : Int32)), (.int p5), (.ref b18)])) _
    refine XS.iand X21.here hx rfl (hb hby at_60) rfl ?_
    exact kt
  have pre25 : ∀ t, Steps p.tables e below (T21.setTop (mkF m 72 #[.val (.int p1), .val (.int p2), .val (.int p3), .val (.int p4), .val (.int p5), .val (.int p6), .val (.int v4), .val (.ref b5), .val (.ref b18), .unset] [(.int (if (p5 &&& (1 : Int32)) = (0 : Int32) then p1 else (p1 + v4))), (.ref b18)])) t → Steps p.tables e below (s₁.setTop (entryFrame m #[(.int p1), (.int p2), (.int p3), (.int p4), (.int p5), (.int p6)] maxLocals)) t := by
    by_cases hc24 : (p5 &&& (1 : Int32)) = (0 : Int32)
    · refine fun t kt => pre23 t ?_
      try rw [if_pos hc24] at kt
      show Steps p.tables e below (T21.setTop (mkF m 61 #[.val (.int p1), .val (.int p2), .val (.int p3), .val (.int p4), .val (.int p5), .val (.int p6), .val (.int v4), .val (.ref b5), .val (.ref b18), .unset] [(.int (p5 &&& (1 : Int32))), (.ref b18)])) _
      refine XS.ifYes X21.here hx rfl (pc0 := 61) (pc' := 71) rfl (hb hby at_61) rfl ((if0 _ _).trans (teq hc24).1) (by decide) (by decide) ?_
      show Steps p.tables e below (T21.setTop (mkF m 71 #[.val (.int p1), .val (.int p2), .val (.int p3), .val (.int p4), .val (.int p5), .val (.int p6), .val (.int v4), .val (.ref b5), .val (.ref b18), .unset] [(.ref b18)])) _
      refine XS.iloadN X21.here hx rfl (hb hby at_71) rfl ?_
      exact kt
    · refine fun t kt => pre23 t ?_
      try rw [if_neg hc24] at kt
      show Steps p.tables e below (T21.setTop (mkF m 61 #[.val (.int p1), .val (.int p2), .val (.int p3), .val (.int p4), .val (.int p5), .val (.int p6), .val (.int v4), .val (.ref b5), .val (.ref b18), .unset] [(.int (p5 &&& (1 : Int32))), (.ref b18)])) _
      refine XS.ifNo X21.here hx rfl (hb hby at_61) rfl ((if0 _ _).trans (feq hc24).1) ?_
      show Steps p.tables e below (T21.setTop (mkF m 64 #[.val (.int p1), .val (.int p2), .val (.int p3), .val (.int p4), .val (.int p5), .val (.int p6), .val (.int v4), .val (.ref b5), .val (.ref b18), .unset] [(.ref b18)])) _
      refine XS.iloadN X21.here hx rfl (hb hby at_64) rfl ?_
      show Steps p.tables e below (T21.setTop (mkF m 65 #[.val (.int p1), .val (.int p2), .val (.int p3), .val (.int p4), .val (.int p5), .val (.int p6), .val (.int v4), .val (.ref b5), .val (.ref b18), .unset] [(.int p1), (.ref b18)])) _
      refine XS.iload X21.here hx rfl (hb hby at_65) rfl ?_
      show Steps p.tables e below (T21.setTop (mkF m 67 #[.val (.int p1), .val (.int p2), .val (.int p3), .val (.int p4), .val (.int p5), .val (.int p6), .val (.int v4), .val (.ref b5), .val (.ref b18), .unset] [(.int v4), (.int p1), (.ref b18)])) _
      refine XS.iadd X21.here hx rfl (hb hby at_67) rfl ?_
      show Steps p.tables e below (T21.setTop (mkF m 68 #[.val (.int p1), .val (.int p2), .val (.int p3), .val (.int p4), .val (.int p5), .val (.int p6), .val (.int v4), .val (.ref b5), .val (.ref b18), .unset] [(.int (p1 + v4)), (.ref b18)])) _
      refine XS.goto X21.here hx rfl (pc0 := 68) (pc' := 72) rfl (hb hby at_68) (by decide) (by decide) ?_
      exact kt
  obtain ⟨v26, hv26⟩ : ∃ z : Int32, z = (if (p5 &&& (1 : Int32)) = (0 : Int32) then p1 else (p1 + v4)) := ⟨_, rfl⟩
  rw [← hv26] at pre25
  obtain ⟨T27, h27, X27, e27, W27, st27⟩ := putF X21 hx hZ hown (host := "") (Or.inl (hw _ (List.mem_of_getElem? (i := 9) rfl))) Via.refl e21 F_orientation_b18 A18 (Or.inl (hw _ (List.mem_of_getElem? (i := 10) rfl))) (hw _ (List.mem_of_getElem? (i := 1) rfl)) (ty := .int) (by decide) rfl rfl (g := (mkF m 72 #[.val (.int p1), .val (.int p2), .val (.int p3), .val (.int p4), .val (.int p5), .val (.int p6), .val (.int v4), .val (.ref b5), .val (.ref b18), .unset] [(.int v26), (.ref b18)])) rfl rfl (hb hby at_72)
  have Fw27 := Fld.same W27 F_orientation_b18
  have N27 := Fr.snoc X27 N21 g_b18
  have pre28 : ∀ t, Steps p.tables e below (T27.setTop (mkF m 81 #[.val (.int p1), .val (.int p2), .val (.int p3), .val (.int p4), .val (.int p5), .val (.int p6), .val (.int v4), .val (.ref b5), .val (.ref b18), .unset] [(.int (p5 &&& (2 : Int32))), (.ref b18)])) t → Steps p.tables e below (s₁.setTop (entryFrame m #[(.int p1), (.int p2), (.int p3), (.int p4), (.int p5), (.int p6)] maxLocals)) t := fun t kt => by
    refine pre25 t ?_
    show Steps p.tables e below (T21.setTop (mkF m 72 #[.val (.int p1), .val (.int p2), .val (.int p3), .val (.int p4), .val (.int p5), .val (.int p6), .val (.int v4), .val (.ref b5), .val (.ref b18), .unset] [(.int v26), (.ref b18)])) _
    refine st27 _ ?_
    show Steps p.tables e below (T27.setTop (mkF m 75 #[.val (.int p1), .val (.int p2), .val (.int p3), .val (.int p4), .val (.int p5), .val (.int p6), .val (.int v4), .val (.ref b5), .val (.ref b18), .unset] [])) _
    refine XS.aload X27.here hx rfl (hb hby at_75) rfl rfl ?_
    show Steps p.tables e below (T27.setTop (mkF m 77 #[.val (.int p1), .val (.int p2), .val (.int p3), .val (.int p4), .val (.int p5), .val (.int p6), .val (.int v4), .val (.ref b5), .val (.ref b18), .unset] [(.ref b18)])) _
    refine XS.iload X27.here hx rfl (hb hby at_77) rfl ?_
    show Steps p.tables e below (T27.setTop (mkF m 79 #[.val (.int p1), .val (.int p2), .val (.int p3), .val (.int p4), .val (.int p5), .val (.int p6), .val (.int v4), .val (.ref b5), .val (.ref b18), .unset] [(.int p5), (.ref b18)])) _
    refine XS.iconst X27.here hx rfl (hb hby at_79) ?_
    show Steps p.tables e below (T27.setTop (mkF m 80 #[.val (.int p1), .val (.int p2), .val (.int p3), .val (.int p4), .val (.int p5), .val (.int p6), .val (.int v4), .val (.ref b5), .val (.ref b18), .unset] [(.int (2 : Int32)), (.int p5), (.ref b18)])) _
    refine XS.iand X27.here hx rfl (hb hby at_80) rfl ?_
    exact kt
  have pre30 : ∀ t, Steps p.tables e below (T27.setTop (mkF m 92 #[.val (.int p1), .val (.int p2), .val (.int p3), .val (.int p4), .val (.int p5), .val (.int p6), .val (.int v4), .val (.ref b5), .val (.ref b18), .unset] [(.int (if (p5 &&& (2 : Int32)) = (0 : Int32) then p2 else (p2 + v4))), (.ref b18)])) t → Steps p.tables e below (s₁.setTop (entryFrame m #[(.int p1), (.int p2), (.int p3), (.int p4), (.int p5), (.int p6)] maxLocals)) t := by
    by_cases hc29 : (p5 &&& (2 : Int32)) = (0 : Int32)
    · refine fun t kt => pre28 t ?_
      try rw [if_pos hc29] at kt
      show Steps p.tables e below (T27.setTop (mkF m 81 #[.val (.int p1), .val (.int p2), .val (.int p3), .val (.int p4), .val (.int p5), .val (.int p6), .val (.int v4), .val (.ref b5), .val (.ref b18), .unset] [(.int (p5 &&& (2 : Int32))), (.ref b18)])) _
      refine XS.ifYes X27.here hx rfl (pc0 := 81) (pc' := 91) rfl (hb hby at_81) rfl ((if0 _ _).trans (teq hc29).1) (by decide) (by decide) ?_
      show Steps p.tables e below (T27.setTop (mkF m 91 #[.val (.int p1), .val (.int p2), .val (.int p3), .val (.int p4), .val (.int p5), .val (.int p6), .val (.int v4), .val (.ref b5), .val (.ref b18), .unset] [(.ref b18)])) _
      refine XS.iloadN X27.here hx rfl (hb hby at_91) rfl ?_
      exact kt
    · refine fun t kt => pre28 t ?_
      try rw [if_neg hc29] at kt
      show Steps p.tables e below (T27.setTop (mkF m 81 #[.val (.int p1), .val (.int p2), .val (.int p3), .val (.int p4), .val (.int p5), .val (.int p6), .val (.int v4), .val (.ref b5), .val (.ref b18), .unset] [(.int (p5 &&& (2 : Int32))), (.ref b18)])) _
      refine XS.ifNo X27.here hx rfl (hb hby at_81) rfl ((if0 _ _).trans (feq hc29).1) ?_
      show Steps p.tables e below (T27.setTop (mkF m 84 #[.val (.int p1), .val (.int p2), .val (.int p3), .val (.int p4), .val (.int p5), .val (.int p6), .val (.int v4), .val (.ref b5), .val (.ref b18), .unset] [(.ref b18)])) _
      refine XS.iloadN X27.here hx rfl (hb hby at_84) rfl ?_
      show Steps p.tables e below (T27.setTop (mkF m 85 #[.val (.int p1), .val (.int p2), .val (.int p3), .val (.int p4), .val (.int p5), .val (.int p6), .val (.int v4), .val (.ref b5), .val (.ref b18), .unset] [(.int p2), (.ref b18)])) _
      refine XS.iload X27.here hx rfl (hb hby at_85) rfl ?_
      show Steps p.tables e below (T27.setTop (mkF m 87 #[.val (.int p1), .val (.int p2), .val (.int p3), .val (.int p4), .val (.int p5), .val (.int p6), .val (.int v4), .val (.ref b5), .val (.ref b18), .unset] [(.int v4), (.int p2), (.ref b18)])) _
      refine XS.iadd X27.here hx rfl (hb hby at_87) rfl ?_
      show Steps p.tables e below (T27.setTop (mkF m 88 #[.val (.int p1), .val (.int p2), .val (.int p3), .val (.int p4), .val (.int p5), .val (.int p6), .val (.int v4), .val (.ref b5), .val (.ref b18), .unset] [(.int (p2 + v4)), (.ref b18)])) _
      refine XS.goto X27.here hx rfl (pc0 := 88) (pc' := 92) rfl (hb hby at_88) (by decide) (by decide) ?_
      exact kt
  obtain ⟨v31, hv31⟩ : ∃ z : Int32, z = (if (p5 &&& (2 : Int32)) = (0 : Int32) then p2 else (p2 + v4)) := ⟨_, rfl⟩
  rw [← hv31] at pre30
  have q32 := (Exa.wr W27 A18)
  have q33 := (Fld.other W27 F_uiMode_b18 (Or.inr (slot_ne (Or.inl (hw _ (List.mem_of_getElem? (i := 12) rfl))) (Or.inl (hw _ (List.mem_of_getElem? (i := 10) rfl))) (by decide) (t := .int) (t' := .int) (by decide) (by decide))))
  obtain ⟨T34, h34, X34, e34, W34, st34⟩ := putF X27 hx hZ hown (host := "") (Or.inl (hw _ (List.mem_of_getElem? (i := 11) rfl))) Via.refl e27 q33 q32 (Or.inl (hw _ (List.mem_of_getElem? (i := 12) rfl))) (hw _ (List.mem_of_getElem? (i := 1) rfl)) (ty := .int) (by decide) rfl rfl (g := (mkF m 92 #[.val (.int p1), .val (.int p2), .val (.int p3), .val (.int p4), .val (.int p5), .val (.int p6), .val (.int v4), .val (.ref b5), .val (.ref b18), .unset] [(.int v31), (.ref b18)])) rfl rfl (hb hby at_92)
  have Fw34 := Fld.same W34 q33
  have N34 := Fr.snoc X34 N27 g_b18
  have pre35 : ∀ t, Steps p.tables e below (T34.setTop (mkF m 101 #[.val (.int p1), .val (.int p2), .val (.int p3), .val (.int p4), .val (.int p5), .val (.int p6), .val (.int v4), .val (.ref b5), .val (.ref b18), .unset] [(.int (p5 &&& (4 : Int32))), (.ref b18)])) t → Steps p.tables e below (s₁.setTop (entryFrame m #[(.int p1), (.int p2), (.int p3), (.int p4), (.int p5), (.int p6)] maxLocals)) t := fun t kt => by
    refine pre30 t ?_
    show Steps p.tables e below (T27.setTop (mkF m 92 #[.val (.int p1), .val (.int p2), .val (.int p3), .val (.int p4), .val (.int p5), .val (.int p6), .val (.int v4), .val (.ref b5), .val (.ref b18), .unset] [(.int v31), (.ref b18)])) _
    refine st34 _ ?_
    show Steps p.tables e below (T34.setTop (mkF m 95 #[.val (.int p1), .val (.int p2), .val (.int p3), .val (.int p4), .val (.int p5), .val (.int p6), .val (.int v4), .val (.ref b5), .val (.ref b18), .unset] [])) _
    refine XS.aload X34.here hx rfl (hb hby at_95) rfl rfl ?_
    show Steps p.tables e below (T34.setTop (mkF m 97 #[.val (.int p1), .val (.int p2), .val (.int p3), .val (.int p4), .val (.int p5), .val (.int p6), .val (.int v4), .val (.ref b5), .val (.ref b18), .unset] [(.ref b18)])) _
    refine XS.iload X34.here hx rfl (hb hby at_97) rfl ?_
    show Steps p.tables e below (T34.setTop (mkF m 99 #[.val (.int p1), .val (.int p2), .val (.int p3), .val (.int p4), .val (.int p5), .val (.int p6), .val (.int v4), .val (.ref b5), .val (.ref b18), .unset] [(.int p5), (.ref b18)])) _
    refine XS.iconst X34.here hx rfl (hb hby at_99) ?_
    show Steps p.tables e below (T34.setTop (mkF m 100 #[.val (.int p1), .val (.int p2), .val (.int p3), .val (.int p4), .val (.int p5), .val (.int p6), .val (.int v4), .val (.ref b5), .val (.ref b18), .unset] [(.int (4 : Int32)), (.int p5), (.ref b18)])) _
    refine XS.iand X34.here hx rfl (hb hby at_100) rfl ?_
    exact kt
  have pre37 : ∀ t, Steps p.tables e below (T34.setTop (mkF m 112 #[.val (.int p1), .val (.int p2), .val (.int p3), .val (.int p4), .val (.int p5), .val (.int p6), .val (.int v4), .val (.ref b5), .val (.ref b18), .unset] [(.int (if (p5 &&& (4 : Int32)) = (0 : Int32) then p3 else (p3 + v4))), (.ref b18)])) t → Steps p.tables e below (s₁.setTop (entryFrame m #[(.int p1), (.int p2), (.int p3), (.int p4), (.int p5), (.int p6)] maxLocals)) t := by
    by_cases hc36 : (p5 &&& (4 : Int32)) = (0 : Int32)
    · refine fun t kt => pre35 t ?_
      try rw [if_pos hc36] at kt
      show Steps p.tables e below (T34.setTop (mkF m 101 #[.val (.int p1), .val (.int p2), .val (.int p3), .val (.int p4), .val (.int p5), .val (.int p6), .val (.int v4), .val (.ref b5), .val (.ref b18), .unset] [(.int (p5 &&& (4 : Int32))), (.ref b18)])) _
      refine XS.ifYes X34.here hx rfl (pc0 := 101) (pc' := 111) rfl (hb hby at_101) rfl ((if0 _ _).trans (teq hc36).1) (by decide) (by decide) ?_
      show Steps p.tables e below (T34.setTop (mkF m 111 #[.val (.int p1), .val (.int p2), .val (.int p3), .val (.int p4), .val (.int p5), .val (.int p6), .val (.int v4), .val (.ref b5), .val (.ref b18), .unset] [(.ref b18)])) _
      refine XS.iloadN X34.here hx rfl (hb hby at_111) rfl ?_
      exact kt
    · refine fun t kt => pre35 t ?_
      try rw [if_neg hc36] at kt
      show Steps p.tables e below (T34.setTop (mkF m 101 #[.val (.int p1), .val (.int p2), .val (.int p3), .val (.int p4), .val (.int p5), .val (.int p6), .val (.int v4), .val (.ref b5), .val (.ref b18), .unset] [(.int (p5 &&& (4 : Int32))), (.ref b18)])) _
      refine XS.ifNo X34.here hx rfl (hb hby at_101) rfl ((if0 _ _).trans (feq hc36).1) ?_
      show Steps p.tables e below (T34.setTop (mkF m 104 #[.val (.int p1), .val (.int p2), .val (.int p3), .val (.int p4), .val (.int p5), .val (.int p6), .val (.int v4), .val (.ref b5), .val (.ref b18), .unset] [(.ref b18)])) _
      refine XS.iloadN X34.here hx rfl (hb hby at_104) rfl ?_
      show Steps p.tables e below (T34.setTop (mkF m 105 #[.val (.int p1), .val (.int p2), .val (.int p3), .val (.int p4), .val (.int p5), .val (.int p6), .val (.int v4), .val (.ref b5), .val (.ref b18), .unset] [(.int p3), (.ref b18)])) _
      refine XS.iload X34.here hx rfl (hb hby at_105) rfl ?_
      show Steps p.tables e below (T34.setTop (mkF m 107 #[.val (.int p1), .val (.int p2), .val (.int p3), .val (.int p4), .val (.int p5), .val (.int p6), .val (.int v4), .val (.ref b5), .val (.ref b18), .unset] [(.int v4), (.int p3), (.ref b18)])) _
      refine XS.iadd X34.here hx rfl (hb hby at_107) rfl ?_
      show Steps p.tables e below (T34.setTop (mkF m 108 #[.val (.int p1), .val (.int p2), .val (.int p3), .val (.int p4), .val (.int p5), .val (.int p6), .val (.int v4), .val (.ref b5), .val (.ref b18), .unset] [(.int (p3 + v4)), (.ref b18)])) _
      refine XS.goto X34.here hx rfl (pc0 := 108) (pc' := 112) rfl (hb hby at_108) (by decide) (by decide) ?_
      exact kt
  obtain ⟨v38, hv38⟩ : ∃ z : Int32, z = (if (p5 &&& (4 : Int32)) = (0 : Int32) then p3 else (p3 + v4)) := ⟨_, rfl⟩
  rw [← hv38] at pre37
  have q39 := (Exa.wr W34 q32)
  have q40 := (Fld.other W34 (Fld.other W27 F_screenWidthDp_b18 (Or.inr (slot_ne (Or.inl (hw _ (List.mem_of_getElem? (i := 14) rfl))) (Or.inl (hw _ (List.mem_of_getElem? (i := 10) rfl))) (by decide) (t := .int) (t' := .int) (by decide) (by decide)))) (Or.inr (slot_ne (Or.inl (hw _ (List.mem_of_getElem? (i := 14) rfl))) (Or.inl (hw _ (List.mem_of_getElem? (i := 12) rfl))) (by decide) (t := .int) (t' := .int) (by decide) (by decide))))
  obtain ⟨T41, h41, X41, e41, W41, st41⟩ := putF X34 hx hZ hown (host := "") (Or.inl (hw _ (List.mem_of_getElem? (i := 13) rfl))) Via.refl e34 q40 q39 (Or.inl (hw _ (List.mem_of_getElem? (i := 14) rfl))) (hw _ (List.mem_of_getElem? (i := 1) rfl)) (ty := .int) (by decide) rfl rfl (g := (mkF m 112 #[.val (.int p1), .val (.int p2), .val (.int p3), .val (.int p4), .val (.int p5), .val (.int p6), .val (.int v4), .val (.ref b5), .val (.ref b18), .unset] [(.int v38), (.ref b18)])) rfl rfl (hb hby at_112)
  have Fw41 := Fld.same W41 q40
  have N41 := Fr.snoc X41 N34 g_b18
  have pre42 : ∀ t, Steps p.tables e below (T41.setTop (mkF m 122 #[.val (.int p1), .val (.int p2), .val (.int p3), .val (.int p4), .val (.int p5), .val (.int p6), .val (.int v4), .val (.ref b5), .val (.ref b18), .unset] [(.int (p5 &&& (8 : Int32))), (.ref b18)])) t → Steps p.tables e below (s₁.setTop (entryFrame m #[(.int p1), (.int p2), (.int p3), (.int p4), (.int p5), (.int p6)] maxLocals)) t := fun t kt => by
    refine pre37 t ?_
    show Steps p.tables e below (T34.setTop (mkF m 112 #[.val (.int p1), .val (.int p2), .val (.int p3), .val (.int p4), .val (.int p5), .val (.int p6), .val (.int v4), .val (.ref b5), .val (.ref b18), .unset] [(.int v38), (.ref b18)])) _
    refine st41 _ ?_
    show Steps p.tables e below (T41.setTop (mkF m 115 #[.val (.int p1), .val (.int p2), .val (.int p3), .val (.int p4), .val (.int p5), .val (.int p6), .val (.int v4), .val (.ref b5), .val (.ref b18), .unset] [])) _
    refine XS.aload X41.here hx rfl (hb hby at_115) rfl rfl ?_
    show Steps p.tables e below (T41.setTop (mkF m 117 #[.val (.int p1), .val (.int p2), .val (.int p3), .val (.int p4), .val (.int p5), .val (.int p6), .val (.int v4), .val (.ref b5), .val (.ref b18), .unset] [(.ref b18)])) _
    refine XS.iload X41.here hx rfl (hb hby at_117) rfl ?_
    show Steps p.tables e below (T41.setTop (mkF m 119 #[.val (.int p1), .val (.int p2), .val (.int p3), .val (.int p4), .val (.int p5), .val (.int p6), .val (.int v4), .val (.ref b5), .val (.ref b18), .unset] [(.int p5), (.ref b18)])) _
    refine XS.bipush X41.here hx rfl (hb hby at_119) ?_
    show Steps p.tables e below (T41.setTop (mkF m 121 #[.val (.int p1), .val (.int p2), .val (.int p3), .val (.int p4), .val (.int p5), .val (.int p6), .val (.int v4), .val (.ref b5), .val (.ref b18), .unset] [(.int (8 : Int32)), (.int p5), (.ref b18)])) _
    refine XS.iand X41.here hx rfl (hb hby at_121) rfl ?_
    exact kt
  have pre44 : ∀ t, Steps p.tables e below (T41.setTop (mkF m 133 #[.val (.int p1), .val (.int p2), .val (.int p3), .val (.int p4), .val (.int p5), .val (.int p6), .val (.int v4), .val (.ref b5), .val (.ref b18), .unset] [(.int (if (p5 &&& (8 : Int32)) = (0 : Int32) then p4 else (p4 + v4))), (.ref b18)])) t → Steps p.tables e below (s₁.setTop (entryFrame m #[(.int p1), (.int p2), (.int p3), (.int p4), (.int p5), (.int p6)] maxLocals)) t := by
    by_cases hc43 : (p5 &&& (8 : Int32)) = (0 : Int32)
    · refine fun t kt => pre42 t ?_
      try rw [if_pos hc43] at kt
      show Steps p.tables e below (T41.setTop (mkF m 122 #[.val (.int p1), .val (.int p2), .val (.int p3), .val (.int p4), .val (.int p5), .val (.int p6), .val (.int v4), .val (.ref b5), .val (.ref b18), .unset] [(.int (p5 &&& (8 : Int32))), (.ref b18)])) _
      refine XS.ifYes X41.here hx rfl (pc0 := 122) (pc' := 132) rfl (hb hby at_122) rfl ((if0 _ _).trans (teq hc43).1) (by decide) (by decide) ?_
      show Steps p.tables e below (T41.setTop (mkF m 132 #[.val (.int p1), .val (.int p2), .val (.int p3), .val (.int p4), .val (.int p5), .val (.int p6), .val (.int v4), .val (.ref b5), .val (.ref b18), .unset] [(.ref b18)])) _
      refine XS.iloadN X41.here hx rfl (hb hby at_132) rfl ?_
      exact kt
    · refine fun t kt => pre42 t ?_
      try rw [if_neg hc43] at kt
      show Steps p.tables e below (T41.setTop (mkF m 122 #[.val (.int p1), .val (.int p2), .val (.int p3), .val (.int p4), .val (.int p5), .val (.int p6), .val (.int v4), .val (.ref b5), .val (.ref b18), .unset] [(.int (p5 &&& (8 : Int32))), (.ref b18)])) _
      refine XS.ifNo X41.here hx rfl (hb hby at_122) rfl ((if0 _ _).trans (feq hc43).1) ?_
      show Steps p.tables e below (T41.setTop (mkF m 125 #[.val (.int p1), .val (.int p2), .val (.int p3), .val (.int p4), .val (.int p5), .val (.int p6), .val (.int v4), .val (.ref b5), .val (.ref b18), .unset] [(.ref b18)])) _
      refine XS.iloadN X41.here hx rfl (hb hby at_125) rfl ?_
      show Steps p.tables e below (T41.setTop (mkF m 126 #[.val (.int p1), .val (.int p2), .val (.int p3), .val (.int p4), .val (.int p5), .val (.int p6), .val (.int v4), .val (.ref b5), .val (.ref b18), .unset] [(.int p4), (.ref b18)])) _
      refine XS.iload X41.here hx rfl (hb hby at_126) rfl ?_
      show Steps p.tables e below (T41.setTop (mkF m 128 #[.val (.int p1), .val (.int p2), .val (.int p3), .val (.int p4), .val (.int p5), .val (.int p6), .val (.int v4), .val (.ref b5), .val (.ref b18), .unset] [(.int v4), (.int p4), (.ref b18)])) _
      refine XS.iadd X41.here hx rfl (hb hby at_128) rfl ?_
      show Steps p.tables e below (T41.setTop (mkF m 129 #[.val (.int p1), .val (.int p2), .val (.int p3), .val (.int p4), .val (.int p5), .val (.int p6), .val (.int v4), .val (.ref b5), .val (.ref b18), .unset] [(.int (p4 + v4)), (.ref b18)])) _
      refine XS.goto X41.here hx rfl (pc0 := 129) (pc' := 133) rfl (hb hby at_129) (by decide) (by decide) ?_
      exact kt
  obtain ⟨v45, hv45⟩ : ∃ z : Int32, z = (if (p5 &&& (8 : Int32)) = (0 : Int32) then p4 else (p4 + v4)) := ⟨_, rfl⟩
  rw [← hv45] at pre44
  have q46 := (Exa.wr W41 q39)
  have q47 := (Fld.other W41 (Fld.other W34 (Fld.other W27 F_screenHeightDp_b18 (Or.inr (slot_ne (Or.inl (hw _ (List.mem_of_getElem? (i := 16) rfl))) (Or.inl (hw _ (List.mem_of_getElem? (i := 10) rfl))) (by decide) (t := .int) (t' := .int) (by decide) (by decide)))) (Or.inr (slot_ne (Or.inl (hw _ (List.mem_of_getElem? (i := 16) rfl))) (Or.inl (hw _ (List.mem_of_getElem? (i := 12) rfl))) (by decide) (t := .int) (t' := .int) (by decide) (by decide)))) (Or.inr (slot_ne (Or.inl (hw _ (List.mem_of_getElem? (i := 16) rfl))) (Or.inl (hw _ (List.mem_of_getElem? (i := 14) rfl))) (by decide) (t := .int) (t' := .int) (by decide) (by decide))))
  obtain ⟨T48, h48, X48, e48, W48, st48⟩ := putF X41 hx hZ hown (host := "") (Or.inl (hw _ (List.mem_of_getElem? (i := 15) rfl))) Via.refl e41 q47 q46 (Or.inl (hw _ (List.mem_of_getElem? (i := 16) rfl))) (hw _ (List.mem_of_getElem? (i := 1) rfl)) (ty := .int) (by decide) rfl rfl (g := (mkF m 133 #[.val (.int p1), .val (.int p2), .val (.int p3), .val (.int p4), .val (.int p5), .val (.int p6), .val (.int v4), .val (.ref b5), .val (.ref b18), .unset] [(.int v45), (.ref b18)])) rfl rfl (hb hby at_133)
  have Fw48 := Fld.same W48 q47
  have N48 := Fr.snoc X48 N41 g_b18
  have pre49 : ∀ t, Steps p.tables e below (T48.setTop (mkF m 141 #[.val (.int p1), .val (.int p2), .val (.int p3), .val (.int p4), .val (.int p5), .val (.int p6), .val (.int v4), .val (.ref b5), .val (.ref b18), .unset] [(.int (p5 &&& (16 : Int32)))])) t → Steps p.tables e below (s₁.setTop (entryFrame m #[(.int p1), (.int p2), (.int p3), (.int p4), (.int p5), (.int p6)] maxLocals)) t := fun t kt => by
    refine pre44 t ?_
    show Steps p.tables e below (T41.setTop (mkF m 133 #[.val (.int p1), .val (.int p2), .val (.int p3), .val (.int p4), .val (.int p5), .val (.int p6), .val (.int v4), .val (.ref b5), .val (.ref b18), .unset] [(.int v45), (.ref b18)])) _
    refine st48 _ ?_
    show Steps p.tables e below (T48.setTop (mkF m 136 #[.val (.int p1), .val (.int p2), .val (.int p3), .val (.int p4), .val (.int p5), .val (.int p6), .val (.int v4), .val (.ref b5), .val (.ref b18), .unset] [])) _
    refine XS.iload X48.here hx rfl (hb hby at_136) rfl ?_
    show Steps p.tables e below (T48.setTop (mkF m 138 #[.val (.int p1), .val (.int p2), .val (.int p3), .val (.int p4), .val (.int p5), .val (.int p6), .val (.int v4), .val (.ref b5), .val (.ref b18), .unset] [(.int p5)])) _
    refine XS.bipush X48.here hx rfl (hb hby at_138) ?_
    show Steps p.tables e below (T48.setTop (mkF m 140 #[.val (.int p1), .val (.int p2), .val (.int p3), .val (.int p4), .val (.int p5), .val (.int p6), .val (.int v4), .val (.ref b5), .val (.ref b18), .unset] [(.int (16 : Int32)), (.int p5)])) _
    refine XS.iand X48.here hx rfl (hb hby at_140) rfl ?_
    exact kt
  by_cases hc50 : (p5 &&& (16 : Int32)) = (0 : Int32)
  · have pre51 : ∀ t, Steps p.tables e below (T48.setTop (mkF m 177 #[.val (.int p1), .val (.int p2), .val (.int p3), .val (.int p4), .val (.int p5), .val (.int p6), .val (.int v4), .val (.ref b5), .val (.ref b18), .unset] [(.int (p5 &&& (15 : Int32)))])) t → Steps p.tables e below (s₁.setTop (entryFrame m #[(.int p1), (.int p2), (.int p3), (.int p4), (.int p5), (.int p6)] maxLocals)) t := fun t kt => by
      refine pre49 t ?_
      show Steps p.tables e below (T48.setTop (mkF m 141 #[.val (.int p1), .val (.int p2), .val (.int p3), .val (.int p4), .val (.int p5), .val (.int p6), .val (.int v4), .val (.ref b5), .val (.ref b18), .unset] [(.int (p5 &&& (16 : Int32)))])) _
      refine XS.ifYes X48.here hx rfl (pc0 := 141) (pc' := 172) rfl (hb hby at_141) rfl ((if0 _ _).trans (teq hc50).1) (by decide) (by decide) ?_
      show Steps p.tables e below (T48.setTop (mkF m 172 #[.val (.int p1), .val (.int p2), .val (.int p3), .val (.int p4), .val (.int p5), .val (.int p6), .val (.int v4), .val (.ref b5), .val (.ref b18), .unset] [])) _
      refine XS.iload X48.here hx rfl (hb hby at_172) rfl ?_
      show Steps p.tables e below (T48.setTop (mkF m 174 #[.val (.int p1), .val (.int p2), .val (.int p3), .val (.int p4), .val (.int p5), .val (.int p6), .val (.int v4), .val (.ref b5), .val (.ref b18), .unset] [(.int p5)])) _
      refine XS.bipush X48.here hx rfl (hb hby at_174) ?_
      show Steps p.tables e below (T48.setTop (mkF m 176 #[.val (.int p1), .val (.int p2), .val (.int p3), .val (.int p4), .val (.int p5), .val (.int p6), .val (.int v4), .val (.ref b5), .val (.ref b18), .unset] [(.int (15 : Int32)), (.int p5)])) _
      refine XS.iand X48.here hx rfl (hb hby at_176) rfl ?_
      exact kt
    have pre53 : ∀ t, Steps p.tables e below (T48.setTop (mkF m 185 #[.val (.int p1), .val (.int p2), .val (.int p3), .val (.int p4), .val (.int p5), .val (.int p6), .val (.int v4), .val (.ref b5), .val (.ref b18), .unset] [(.int (if (p5 &&& (15 : Int32)) = (0 : Int32) then (1 : Int32) else (0 : Int32)))])) t → Steps p.tables e below (s₁.setTop (entryFrame m #[(.int p1), (.int p2), (.int p3), (.int p4), (.int p5), (.int p6)] maxLocals)) t := by
      by_cases hc52 : (p5 &&& (15 : Int32)) = (0 : Int32)
      · refine fun t kt => pre51 t ?_
        try rw [if_pos hc52] at kt
        show Steps p.tables e below (T48.setTop (mkF m 177 #[.val (.int p1), .val (.int p2), .val (.int p3), .val (.int p4), .val (.int p5), .val (.int p6), .val (.int v4), .val (.ref b5), .val (.ref b18), .unset] [(.int (p5 &&& (15 : Int32)))])) _
        refine XS.ifNo X48.here hx rfl (hb hby at_177) rfl ((if0 _ _).trans (teq hc52).2) ?_
        show Steps p.tables e below (T48.setTop (mkF m 180 #[.val (.int p1), .val (.int p2), .val (.int p3), .val (.int p4), .val (.int p5), .val (.int p6), .val (.int v4), .val (.ref b5), .val (.ref b18), .unset] [])) _
        refine XS.iconst X48.here hx rfl (hb hby at_180) ?_
        show Steps p.tables e below (T48.setTop (mkF m 181 #[.val (.int p1), .val (.int p2), .val (.int p3), .val (.int p4), .val (.int p5), .val (.int p6), .val (.int v4), .val (.ref b5), .val (.ref b18), .unset] [(.int (1 : Int32))])) _
        refine XS.goto X48.here hx rfl (pc0 := 181) (pc' := 185) rfl (hb hby at_181) (by decide) (by decide) ?_
        exact kt
      · refine fun t kt => pre51 t ?_
        try rw [if_neg hc52] at kt
        show Steps p.tables e below (T48.setTop (mkF m 177 #[.val (.int p1), .val (.int p2), .val (.int p3), .val (.int p4), .val (.int p5), .val (.int p6), .val (.int v4), .val (.ref b5), .val (.ref b18), .unset] [(.int (p5 &&& (15 : Int32)))])) _
        refine XS.ifYes X48.here hx rfl (pc0 := 177) (pc' := 184) rfl (hb hby at_177) rfl ((if0 _ _).trans (feq hc52).2) (by decide) (by decide) ?_
        show Steps p.tables e below (T48.setTop (mkF m 184 #[.val (.int p1), .val (.int p2), .val (.int p3), .val (.int p4), .val (.int p5), .val (.int p6), .val (.int v4), .val (.ref b5), .val (.ref b18), .unset] [])) _
        refine XS.iconst X48.here hx rfl (hb hby at_184) ?_
        exact kt
    obtain ⟨v54, hv54⟩ : ∃ z : Int32, z = (if (p5 &&& (15 : Int32)) = (0 : Int32) then (1 : Int32) else (0 : Int32)) := ⟨_, rfl⟩
    rw [← hv54] at pre53
    have q56 := (Fld.other W48 (Fld.other W41 (Fld.other W34 (Fld.other W27 (Fld.ext E18 (Fld.other W17 (Fld.other W14 (Fld.other W11 Fw8 (Or.inr (slot_ne (Or.inl (hw _ (List.mem_of_getElem? (i := 10) rfl))) (Or.inl (hw _ (List.mem_of_getElem? (i := 12) rfl))) (by decide) (t := .int) (t' := .int) (by decide) (by decide)))) (Or.inr (slot_ne (Or.inl (hw _ (List.mem_of_getElem? (i := 10) rfl))) (Or.inl (hw _ (List.mem_of_getElem? (i := 14) rfl))) (by decide) (t := .int) (t' := .int) (by decide) (by decide)))) (Or.inr (slot_ne (Or.inl (hw _ (List.mem_of_getElem? (i := 10) rfl))) (Or.inl (hw _ (List.mem_of_getElem? (i := 16) rfl))) (by decide) (t := .int) (t' := .int) (by decide) (by decide))))) (Or.inl ne_b5_b18)) (Or.inl ne_b5_b18)) (Or.inl ne_b5_b18)) (Or.inl ne_b5_b18))
    have q57 := (Fld.other W48 (Fld.other W41 (Fld.other W34 Fw27 (Or.inr (slot_ne (Or.inl (hw _ (List.mem_of_getElem? (i := 10) rfl))) (Or.inl (hw _ (List.mem_of_getElem? (i := 12) rfl))) (by decide) (t := .int) (t' := .int) (by decide) (by decide)))) (Or.inr (slot_ne (Or.inl (hw _ (List.mem_of_getElem? (i := 10) rfl))) (Or.inl (hw _ (List.mem_of_getElem? (i := 14) rfl))) (by decide) (t := .int) (t' := .int) (by decide) (by decide)))) (Or.inr (slot_ne (Or.inl (hw _ (List.mem_of_getElem? (i := 10) rfl))) (Or.inl (hw _ (List.mem_of_getElem? (i := 16) rfl))) (by decide) (t := .int) (t' := .int) (by decide) (by decide))))
    have q58 := (Fld.other W48 (Fld.other W41 (Fld.other W34 (Fld.other W27 (Fld.ext E18 (Fld.other W17 (Fld.other W14 Fw11 (Or.inr (slot_ne (Or.inl (hw _ (List.mem_of_getElem? (i := 12) rfl))) (Or.inl (hw _ (List.mem_of_getElem? (i := 14) rfl))) (by decide) (t := .int) (t' := .int) (by decide) (by decide)))) (Or.inr (slot_ne (Or.inl (hw _ (List.mem_of_getElem? (i := 12) rfl))) (Or.inl (hw _ (List.mem_of_getElem? (i := 16) rfl))) (by decide) (t := .int) (t' := .int) (by decide) (by decide))))) (Or.inl ne_b5_b18)) (Or.inl ne_b5_b18)) (Or.inl ne_b5_b18)) (Or.inl ne_b5_b18))
    have q59 := (Fld.other W48 (Fld.other W41 Fw34 (Or.inr (slot_ne (Or.inl (hw _ (List.mem_of_getElem? (i := 12) rfl))) (Or.inl (hw _ (List.mem_of_getElem? (i := 14) rfl))) (by decide) (t := .int) (t' := .int) (by decide) (by decide)))) (Or.inr (slot_ne (Or.inl (hw _ (List.mem_of_getElem? (i := 12) rfl))) (Or.inl (hw _ (List.mem_of_getElem? (i := 16) rfl))) (by decide) (t := .int) (t' := .int) (by decide) (by decide))))
    have q60 := (Fld.other W48 (Fld.other W41 (Fld.other W34 (Fld.other W27 (Fld.ext E18 (Fld.other W17 Fw14 (Or.inr (slot_ne (Or.inl (hw _ (List.mem_of_getElem? (i := 14) rfl))) (Or.inl (hw _ (List.mem_of_getElem? (i := 16) rfl))) (by decide) (t := .int) (t' := .int) (by decide) (by decide))))) (Or.inl ne_b5_b18)) (Or.inl ne_b5_b18)) (Or.inl ne_b5_b18)) (Or.inl ne_b5_b18))
    have q61 := (Fld.other W48 Fw41 (Or.inr (slot_ne (Or.inl (hw _ (List.mem_of_getElem? (i := 14) rfl))) (Or.inl (hw _ (List.mem_of_getElem? (i := 16) rfl))) (by decide) (t := .int) (t' := .int) (by decide) (by decide))))
    have q62 := (Fld.other W48 (Fld.other W41 (Fld.other W34 (Fld.other W27 (Fld.ext E18 Fw17) (Or.inl ne_b5_b18)) (Or.inl ne_b5_b18)) (Or.inl ne_b5_b18)) (Or.inl ne_b5_b18))
    have z63 : n0 ≤ h48.size := (Nat.le_trans (Nat.le_trans (Nat.le_trans (Nat.le_trans z22 (Keep.of_wr W27).1) (Keep.of_wr W34).1) (Keep.of_wr W41).1) (Keep.of_wr W48).1)
    have q64 := (Exa.wr W48 (Exa.wr W41 (Exa.wr W34 (Exa.wr W27 (Exa.ext E18 q19)))))
    obtain ⟨cq55, kq55, q55a, q55b, q55c⟩ := isOf hZ e48 q64
    obtain ⟨_, _, ⟨T55, L55, k55, n55⟩, -, X55, ⟨Lc55, hQ55, l55, y55, z55⟩, st55⟩ := X48.virtualBack hx (y := (⟨"android/content/res/Configuration", "equals", "(Landroid/content/res/Configuration;)Z"⟩ : MethodName)) (z := (⟨"android/content/res/Configuration", "equals", "(Landroid/content/res/Configuration;)Z"⟩ : MethodName)) hown (mvT hZ (hw _ (List.mem_of_getElem? (i := 17) rfl))) (mvT hZ (hw _ (List.mem_of_getElem? (i := 18) rfl))) (notFace_of_selects (args := #[]) (mvT hZ (hw _ (List.mem_of_getElem? (i := 20) rfl)))) (mvT hZ (hw _ (List.mem_of_getElem? (i := 20) rfl))) (mvT hZ (hw _ (List.mem_of_getElem? (i := 19) rfl))) (by decide) (backOf (W := 0) (rm3 l Z a0 hw [] b5 b18 p1 v26 p2 v31 p3 v38 p4 v45 h48 n0 z63 q56 q57 q58 q59 q60 q61 q62 Fw48) hZ (hw _ (List.mem_of_getElem? (i := 21) rfl)) (hw _ (List.mem_of_getElem? (i := 2) rfl)) (by decide) (by decide)) q55a q55c (g := (mkF m 191 #[.val (.int p1), .val (.int p2), .val (.int p3), .val (.int p4), .val (.int p5), .val (.int p6), .val (.int v4), .val (.ref b5), .val (.ref b18), .val (.int v54)] [(.ref b18), (.ref b5)])) rfl (by rw [hml]; rfl) (Steps.refl _) (argsL := [(.ref b18)]) (rest := []) (lenOf pd_0_1 rfl) rfl (by show 2 * 0 + _ ≤ _; exact Nat.le_of_eq rfl) (hb hby at_191) (fun _ _ => ⟨rfl, e48, (by decide : 2 + 0 ≤ _), (by decide : 8 + 0 ≤ _)⟩)
    dsimp only [Pt.U, Pt.locs, Pt.cells, Pt.slots] at X55 l55 y55 z55 st55 hQ55
    subst l55 y55 z55
    obtain ⟨rfl, N55q, e55⟩ := hQ55
    have N55 := Fr.app N48 N55q
    have pre65 : ∀ t, Steps p.tables e below (T55.setTop (mkF m 196 #[.val (.int p1), .val (.int p2), .val (.int p3), .val (.int p4), .val (.int p5), .val (.int p6), .val (.int v4), .val (.ref b5), .val (.ref b18), .val (.int v54)] [(.int v54), (.int (F3 p1 v26 p2 v31 p3 v38 p4 v45))])) t → Steps p.tables e below (s₁.setTop (entryFrame m #[(.int p1), (.int p2), (.int p3), (.int p4), (.int p5), (.int p6)] maxLocals)) t := fun t kt => by
      refine pre53 t ?_
      show Steps p.tables e below (T48.setTop (mkF m 185 #[.val (.int p1), .val (.int p2), .val (.int p3), .val (.int p4), .val (.int p5), .val (.int p6), .val (.int v4), .val (.ref b5), .val (.ref b18), .unset] [(.int v54)])) _
      refine XS.istore X48.here hx rfl (hb hby at_185) rfl (l' := #[.val (.int p1), .val (.int p2), .val (.int p3), .val (.int p4), .val (.int p5), .val (.int p6), .val (.int v4), .val (.ref b5), .val (.ref b18), .val (.int v54)]) rfl ?_
      show Steps p.tables e below (T48.setTop (mkF m 187 #[.val (.int p1), .val (.int p2), .val (.int p3), .val (.int p4), .val (.int p5), .val (.int p6), .val (.int v4), .val (.ref b5), .val (.ref b18), .val (.int v54)] [])) _
      refine XS.aload X48.here hx rfl (hb hby at_187) rfl rfl ?_
      show Steps p.tables e below (T48.setTop (mkF m 189 #[.val (.int p1), .val (.int p2), .val (.int p3), .val (.int p4), .val (.int p5), .val (.int p6), .val (.int v4), .val (.ref b5), .val (.ref b18), .val (.int v54)] [(.ref b5)])) _
      refine XS.aload X48.here hx rfl (hb hby at_189) rfl rfl ?_
      show Steps p.tables e below (T48.setTop (mkF m 191 #[.val (.int p1), .val (.int p2), .val (.int p3), .val (.int p4), .val (.int p5), .val (.int p6), .val (.int v4), .val (.ref b5), .val (.ref b18), .val (.int v54)] [(.ref b18), (.ref b5)])) _
      refine st55.trans ?_
      show Steps p.tables e below (T55.setTop (mkF m 194 #[.val (.int p1), .val (.int p2), .val (.int p3), .val (.int p4), .val (.int p5), .val (.int p6), .val (.int v4), .val (.ref b5), .val (.ref b18), .val (.int v54)] [(.int (F3 p1 v26 p2 v31 p3 v38 p4 v45))])) _
      refine XS.iload X55.here hx rfl (hb hby at_194) rfl ?_
      exact kt
    by_cases hc66 : (F3 p1 v26 p2 v31 p3 v38 p4 v45) = v54
    · have q68 := (Exa.wr W48 q46)
      obtain ⟨cq67, kq67, q67a, q67b, q67c⟩ := isOf hZ e55 q68
      obtain ⟨_, _, ⟨T67, L67, k67, n67⟩, -, X67, ⟨Lc67, hQ67, l67, y67, z67⟩, st67⟩ := X55.virtualBack hx (y := (⟨"android/content/res/Configuration", "equals", "(Landroid/content/res/Configuration;)Z"⟩ : MethodName)) (z := (⟨"android/content/res/Configuration", "equals", "(Landroid/content/res/Configuration;)Z"⟩ : MethodName)) hown (mvT hZ (hw _ (List.mem_of_getElem? (i := 17) rfl))) (mvT hZ (hw _ (List.mem_of_getElem? (i := 18) rfl))) (notFace_of_selects (args := #[]) (mvT hZ (hw _ (List.mem_of_getElem? (i := 20) rfl)))) (mvT hZ (hw _ (List.mem_of_getElem? (i := 20) rfl))) (mvT hZ (hw _ (List.mem_of_getElem? (i := 19) rfl))) (by decide) (backOf (W := 0) (rm3 l Z a0 hw [] b18 b5 v26 p1 v31 p2 v38 p3 v45 p4 h48 n0 z63 q57 q56 q59 q58 q61 q60 Fw48 q62) hZ (hw _ (List.mem_of_getElem? (i := 21) rfl)) (hw _ (List.mem_of_getElem? (i := 2) rfl)) (by decide) (by decide)) q67a q67c (g := (mkF m 203 #[.val (.int p1), .val (.int p2), .val (.int p3), .val (.int p4), .val (.int p5), .val (.int p6), .val (.int v4), .val (.ref b5), .val (.ref b18), .val (.int v54)] [(.ref b5), (.ref b18)])) rfl (by rw [hml]; rfl) (Steps.refl _) (argsL := [(.ref b5)]) (rest := []) (lenOf pd_0_1 rfl) rfl (by show 2 * 0 + _ ≤ _; exact Nat.le_of_eq rfl) (hb hby at_203) (fun _ _ => ⟨rfl, e55, (by decide : 2 + 0 ≤ _), (by decide : 8 + 0 ≤ _)⟩)
      dsimp only [Pt.U, Pt.locs, Pt.cells, Pt.slots] at X67 l67 y67 z67 st67 hQ67
      subst l67 y67 z67
      obtain ⟨rfl, N67q, e67⟩ := hQ67
      have N67 := Fr.app N55 N67q
      have pre69 : ∀ t, Steps p.tables e below (T67.setTop (mkF m 208 #[.val (.int p1), .val (.int p2), .val (.int p3), .val (.int p4), .val (.int p5), .val (.int p6), .val (.int v4), .val (.ref b5), .val (.ref b18), .val (.int v54)] [(.int v54), (.int (F3 v26 p1 v31 p2 v38 p3 v45 p4))])) t → Steps p.tables e below (s₁.setTop (entryFrame m #[(.int p1), (.int p2), (.int p3), (.int p4), (.int p5), (.int p6)] maxLocals)) t := fun t kt => by
        refine pre65 t ?_
        show Steps p.tables e below (T55.setTop (mkF m 196 #[.val (.int p1), .val (.int p2), .val (.int p3), .val (.int p4), .val (.int p5), .val (.int p6), .val (.int v4), .val (.ref b5), .val (.ref b18), .val (.int v54)] [(.int v54), (.int (F3 p1 v26 p2 v31 p3 v38 p4 v45))])) _
        refine XS.icmpNo X55.here hx rfl (hb hby at_196) rfl (teq hc66).2 ?_
        show Steps p.tables e below (T55.setTop (mkF m 199 #[.val (.int p1), .val (.int p2), .val (.int p3), .val (.int p4), .val (.int p5), .val (.int p6), .val (.int v4), .val (.ref b5), .val (.ref b18), .val (.int v54)] [])) _
        refine XS.aload X55.here hx rfl (hb hby at_199) rfl rfl ?_
        show Steps p.tables e below (T55.setTop (mkF m 201 #[.val (.int p1), .val (.int p2), .val (.int p3), .val (.int p4), .val (.int p5), .val (.int p6), .val (.int v4), .val (.ref b5), .val (.ref b18), .val (.int v54)] [(.ref b18)])) _
        refine XS.aload X55.here hx rfl (hb hby at_201) rfl rfl ?_
        show Steps p.tables e below (T55.setTop (mkF m 203 #[.val (.int p1), .val (.int p2), .val (.int p3), .val (.int p4), .val (.int p5), .val (.int p6), .val (.int v4), .val (.ref b5), .val (.ref b18), .val (.int v54)] [(.ref b5), (.ref b18)])) _
        refine st67.trans ?_
        show Steps p.tables e below (T67.setTop (mkF m 206 #[.val (.int p1), .val (.int p2), .val (.int p3), .val (.int p4), .val (.int p5), .val (.int p6), .val (.int v4), .val (.ref b5), .val (.ref b18), .val (.int v54)] [(.int (F3 v26 p1 v31 p2 v38 p3 v45 p4))])) _
        refine XS.iload X67.here hx rfl (hb hby at_206) rfl ?_
        exact kt
      by_cases hc70 : (F3 v26 p1 v31 p2 v38 p3 v45 p4) = v54
      · obtain ⟨fs, hr, hrun, hended, hW, hsame⟩ := X67.leave (v := some (.int (1 : Int32))) (fun h => by rw [Bd.returns] at h; cases h)
        refine ⟨_, _, pre69 _ ?_, hrun, hended, _, _, rfl, ?_, ⟨_, rfl⟩, hW, hsame.mono (by decide) (by decide)⟩
        · show Steps p.tables e below (T67.setTop (mkF m 208 #[.val (.int p1), .val (.int p2), .val (.int p3), .val (.int p4), .val (.int p5), .val (.int p6), .val (.int v4), .val (.ref b5), .val (.ref b18), .val (.int v54)] [(.int v54), (.int (F3 v26 p1 v31 p2 v38 p3 v45 p4))])) _
          refine XS.icmpNo X67.here hx rfl (hb hby at_208) rfl (teq hc70).2 ?_
          show Steps p.tables e below (T67.setTop (mkF m 211 #[.val (.int p1), .val (.int p2), .val (.int p3), .val (.int p4), .val (.int p5), .val (.int p6), .val (.int v4), .val (.ref b5), .val (.ref b18), .val (.int v54)] [])) _
          refine XS.iconst X67.here hx rfl (hb hby at_211) ?_
          show Steps p.tables e below (T67.setTop (mkF m 212 #[.val (.int p1), .val (.int p2), .val (.int p3), .val (.int p4), .val (.int p5), .val (.int p6), .val (.int v4), .val (.ref b5), .val (.ref b18), .val (.int v54)] [(.int (1 : Int32))])) _
          refine XS.goto X67.here hx rfl (pc0 := 212) (pc' := 216) rfl (hb hby at_212) (by decide) (by decide) ?_
          show Steps p.tables e below (T67.setTop (mkF m 216 #[.val (.int p1), .val (.int p2), .val (.int p3), .val (.int p4), .val (.int p5), .val (.int p6), .val (.int v4), .val (.ref b5), .val (.ref b18), .val (.int v54)] [(.int (1 : Int32))])) _
          exact retN X67 hx (t := .boolean) Bd.returns (by simp) (hb hby at_216) hr
        · show Q0 Z p1 p2 p3 p4 p5 p6 h0 n0 _ T67.heap _
          rw [e67]
          exact ⟨rfl, N67⟩
      · exact (leaf_0_2 p1 p2 p3 p4 p5 p6 v4 hv4 v26 hv26 v31 hv31 v38 hv38 v45 hv45 hc50 v54 hv54 hc66 hc70).elim
    · exact (leaf_0_3 p1 p2 p3 p4 p5 p6 v4 hv4 v26 hv26 v31 hv31 v38 hv38 v45 hv45 hc50 v54 hv54 hc66).elim
  · have z72 : n0 ≤ h48.size := (Nat.le_trans (Nat.le_trans (Nat.le_trans (Nat.le_trans z22 (Keep.of_wr W27).1) (Keep.of_wr W34).1) (Keep.of_wr W41).1) (Keep.of_wr W48).1)
    have q73 := (Exa.wr W48 (Exa.wr W41 (Exa.wr W34 (Exa.wr W27 (Exa.ext E18 q19)))))
    obtain ⟨cq71, kq71, q71a, q71b, q71c⟩ := isOf hZ e48 q73
    obtain ⟨_, _, ⟨T71, L71, k71, n71⟩, -, X71, ⟨Lc71, hQ71, l71, y71, z71⟩, st71⟩ := X48.virtualBack hx (y := (⟨"android/content/res/Configuration", "equals", "(Landroid/content/res/Configuration;)Z"⟩ : MethodName)) (z := (⟨"android/content/res/Configuration", "equals", "(Landroid/content/res/Configuration;)Z"⟩ : MethodName)) hown (mvT hZ (hw _ (List.mem_of_getElem? (i := 17) rfl))) (mvT hZ (hw _ (List.mem_of_getElem? (i := 18) rfl))) (notFace_of_selects (args := #[]) (mvT hZ (hw _ (List.mem_of_getElem? (i := 20) rfl)))) (mvT hZ (hw _ (List.mem_of_getElem? (i := 20) rfl))) (mvT hZ (hw _ (List.mem_of_getElem? (i := 19) rfl))) (by decide) (backOf (W := 0) (rm1003 l Z a0 hw [] b5 h48 n0 z72) hZ (hw _ (List.mem_of_getElem? (i := 21) rfl)) (hw _ (List.mem_of_getElem? (i := 2) rfl)) (by decide) (by decide)) q71a q71c (g := (mkF m 150 #[.val (.int p1), .val (.int p2), .val (.int p3), .val (.int p4), .val (.int p5), .val (.int p6), .val (.int v4), .val (.ref b5), .val (.ref b18), .unset] [.null, (.ref b5)])) rfl (by rw [hml]; rfl) (Steps.refl _) (argsL := [.null]) (rest := []) (lenOf pd_0_1 rfl) rfl (by show 2 * 0 + _ ≤ _; exact Nat.le_of_eq rfl) (hb hby at_150) (fun _ _ => ⟨rfl, e48, (by decide : 2 + 0 ≤ _), (by decide : 8 + 0 ≤ _)⟩)
    dsimp only [Pt.U, Pt.locs, Pt.cells, Pt.slots] at X71 l71 y71 z71 st71 hQ71
    subst l71 y71 z71
    obtain ⟨rfl, N71q, e71⟩ := hQ71
    have N71 := Fr.app N48 N71q
    have pre74 : ∀ t, Steps p.tables e below (T71.setTop (mkF m 153 #[.val (.int p1), .val (.int p2), .val (.int p3), .val (.int p4), .val (.int p5), .val (.int p6), .val (.int v4), .val (.ref b5), .val (.ref b18), .unset] [(.int (F1003 ))])) t → Steps p.tables e below (s₁.setTop (entryFrame m #[(.int p1), (.int p2), (.int p3), (.int p4), (.int p5), (.int p6)] maxLocals)) t := fun t kt => by
      refine pre49 t ?_
      show Steps p.tables e below (T48.setTop (mkF m 141 #[.val (.int p1), .val (.int p2), .val (.int p3), .val (.int p4), .val (.int p5), .val (.int p6), .val (.int v4), .val (.ref b5), .val (.ref b18), .unset] [(.int (p5 &&& (16 : Int32)))])) _
      refine XS.ifNo X48.here hx rfl (hb hby at_141) rfl ((if0 _ _).trans (feq hc50).1) ?_
      show Steps p.tables e below (T48.setTop (mkF m 144 #[.val (.int p1), .val (.int p2), .val (.int p3), .val (.int p4), .val (.int p5), .val (.int p6), .val (.int v4), .val (.ref b5), .val (.ref b18), .unset] [])) _
      refine XS.aload X48.here hx rfl (hb hby at_144) rfl rfl ?_
      show Steps p.tables e below (T48.setTop (mkF m 146 #[.val (.int p1), .val (.int p2), .val (.int p3), .val (.int p4), .val (.int p5), .val (.int p6), .val (.int v4), .val (.ref b5), .val (.ref b18), .unset] [(.ref b5)])) _
      refine XS.aconstNull X48.here hx rfl (hb hby at_146) ?_
      show Steps p.tables e below (T48.setTop (mkF m 147 #[.val (.int p1), .val (.int p2), .val (.int p3), .val (.int p4), .val (.int p5), .val (.int p6), .val (.int v4), .val (.ref b5), .val (.ref b18), .unset] [.null, (.ref b5)])) _
      refine X48.checkcastNull hx (g := (mkF m 147 #[.val (.int p1), .val (.int p2), .val (.int p3), .val (.int p4), .val (.int p5), .val (.int p6), .val (.int v4), .val (.ref b5), .val (.ref b18), .unset] [.null, (.ref b5)])) rfl rfl (hb hby at_147) _ ?_
      show Steps p.tables e below (T48.setTop (mkF m 150 #[.val (.int p1), .val (.int p2), .val (.int p3), .val (.int p4), .val (.int p5), .val (.int p6), .val (.int v4), .val (.ref b5), .val (.ref b18), .unset] [.null, (.ref b5)])) _
      refine st71.trans ?_
      exact kt
    by_cases hc75 : (F1003 ) = (0 : Int32)
    · have q77 := (Fld.other W48 (Fld.other W41 (Fld.other W34 (Fld.other W27 (Fld.ext E18 (Fld.other W17 (Fld.other W14 (Fld.other W11 Fw8 (Or.inr (slot_ne (Or.inl (hw _ (List.mem_of_getElem? (i := 10) rfl))) (Or.inl (hw _ (List.mem_of_getElem? (i := 12) rfl))) (by decide) (t := .int) (t' := .int) (by decide) (by decide)))) (Or.inr (slot_ne (Or.inl (hw _ (List.mem_of_getElem? (i := 10) rfl))) (Or.inl (hw _ (List.mem_of_getElem? (i := 14) rfl))) (by decide) (t := .int) (t' := .int) (by decide) (by decide)))) (Or.inr (slot_ne (Or.inl (hw _ (List.mem_of_getElem? (i := 10) rfl))) (Or.inl (hw _ (List.mem_of_getElem? (i := 16) rfl))) (by decide) (t := .int) (t' := .int) (by decide) (by decide))))) (Or.inl ne_b5_b18)) (Or.inl ne_b5_b18)) (Or.inl ne_b5_b18)) (Or.inl ne_b5_b18))
      have q78 := (Fld.other W48 (Fld.other W41 (Fld.other W34 (Fld.other W27 (Fld.ext E18 (Fld.other W17 (Fld.other W14 Fw11 (Or.inr (slot_ne (Or.inl (hw _ (List.mem_of_getElem? (i := 12) rfl))) (Or.inl (hw _ (List.mem_of_getElem? (i := 14) rfl))) (by decide) (t := .int) (t' := .int) (by decide) (by decide)))) (Or.inr (slot_ne (Or.inl (hw _ (List.mem_of_getElem? (i := 12) rfl))) (Or.inl (hw _ (List.mem_of_getElem? (i := 16) rfl))) (by decide) (t := .int) (t' := .int) (by decide) (by decide))))) (Or.inl ne_b5_b18)) (Or.inl ne_b5_b18)) (Or.inl ne_b5_b18)) (Or.inl ne_b5_b18))
      have q79 := (Fld.other W48 (Fld.other W41 (Fld.other W34 (Fld.other W27 (Fld.ext E18 (Fld.other W17 Fw14 (Or.inr (slot_ne (Or.inl (hw _ (List.mem_of_getElem? (i := 14) rfl))) (Or.inl (hw _ (List.mem_of_getElem? (i := 16) rfl))) (by decide) (t := .int) (t' := .int) (by decide) (by decide))))) (Or.inl ne_b5_b18)) (Or.inl ne_b5_b18)) (Or.inl ne_b5_b18)) (Or.inl ne_b5_b18))
      have q80 := (Fld.other W48 (Fld.other W41 (Fld.other W34 (Fld.other W27 (Fld.ext E18 Fw17) (Or.inl ne_b5_b18)) (Or.inl ne_b5_b18)) (Or.inl ne_b5_b18)) (Or.inl ne_b5_b18))
      obtain ⟨cq76, kq76, q76a, q76b, q76c⟩ := isOf hZ e71 q73
      obtain ⟨_, _, ⟨T76, L76, k76, n76⟩, -, X76, ⟨Lc76, hQ76, l76, y76, z76⟩, st76⟩ := X71.virtualBack hx (y := (⟨"android/content/res/Configuration", "equals", "(Landroid/content/res/Configuration;)Z"⟩ : MethodName)) (z := (⟨"android/content/res/Configuration", "equals", "(Landroid/content/res/Configuration;)Z"⟩ : MethodName)) hown (mvT hZ (hw _ (List.mem_of_getElem? (i := 17) rfl))) (mvT hZ (hw _ (List.mem_of_getElem? (i := 18) rfl))) (notFace_of_selects (args := #[]) (mvT hZ (hw _ (List.mem_of_getElem? (i := 20) rfl)))) (mvT hZ (hw _ (List.mem_of_getElem? (i := 20) rfl))) (mvT hZ (hw _ (List.mem_of_getElem? (i := 19) rfl))) (by decide) (backOf (W := 0) (rm3 l Z a0 hw [] b5 b5 p1 p1 p2 p2 p3 p3 p4 p4 h48 n0 z72 q77 q77 q78 q78 q79 q79 q80 q80) hZ (hw _ (List.mem_of_getElem? (i := 21) rfl)) (hw _ (List.mem_of_getElem? (i := 2) rfl)) (by decide) (by decide)) q76a q76c (g := (mkF m 160 #[.val (.int p1), .val (.int p2), .val (.int p3), .val (.int p4), .val (.int p5), .val (.int p6), .val (.int v4), .val (.ref b5), .val (.ref b18), .unset] [(.ref b5), (.ref b5)])) rfl (by rw [hml]; rfl) (Steps.refl _) (argsL := [(.ref b5)]) (rest := []) (lenOf pd_0_1 rfl) rfl (by show 2 * 0 + _ ≤ _; exact Nat.le_of_eq rfl) (hb hby at_160) (fun _ _ => ⟨rfl, e71, (by decide : 2 + 0 ≤ _), (by decide : 8 + 0 ≤ _)⟩)
      dsimp only [Pt.U, Pt.locs, Pt.cells, Pt.slots] at X76 l76 y76 z76 st76 hQ76
      subst l76 y76 z76
      obtain ⟨rfl, N76q, e76⟩ := hQ76
      have N76 := Fr.app N71 N76q
      have pre81 : ∀ t, Steps p.tables e below (T76.setTop (mkF m 163 #[.val (.int p1), .val (.int p2), .val (.int p3), .val (.int p4), .val (.int p5), .val (.int p6), .val (.int v4), .val (.ref b5), .val (.ref b18), .unset] [(.int (F3 p1 p1 p2 p2 p3 p3 p4 p4))])) t → Steps p.tables e below (s₁.setTop (entryFrame m #[(.int p1), (.int p2), (.int p3), (.int p4), (.int p5), (.int p6)] maxLocals)) t := fun t kt => by
        refine pre74 t ?_
        show Steps p.tables e below (T71.setTop (mkF m 153 #[.val (.int p1), .val (.int p2), .val (.int p3), .val (.int p4), .val (.int p5), .val (.int p6), .val (.int v4), .val (.ref b5), .val (.ref b18), .unset] [(.int (F1003 ))])) _
        refine XS.ifNo X71.here hx rfl (hb hby at_153) rfl ((if0 _ _).trans (teq hc75).2) ?_
        show Steps p.tables e below (T71.setTop (mkF m 156 #[.val (.int p1), .val (.int p2), .val (.int p3), .val (.int p4), .val (.int p5), .val (.int p6), .val (.int v4), .val (.ref b5), .val (.ref b18), .unset] [])) _
        refine XS.aload X71.here hx rfl (hb hby at_156) rfl rfl ?_
        show Steps p.tables e below (T71.setTop (mkF m 158 #[.val (.int p1), .val (.int p2), .val (.int p3), .val (.int p4), .val (.int p5), .val (.int p6), .val (.int v4), .val (.ref b5), .val (.ref b18), .unset] [(.ref b5)])) _
        refine XS.aload X71.here hx rfl (hb hby at_158) rfl rfl ?_
        show Steps p.tables e below (T71.setTop (mkF m 160 #[.val (.int p1), .val (.int p2), .val (.int p3), .val (.int p4), .val (.int p5), .val (.int p6), .val (.int v4), .val (.ref b5), .val (.ref b18), .unset] [(.ref b5), (.ref b5)])) _
        refine st76.trans ?_
        exact kt
      by_cases hc82 : (F3 p1 p1 p2 p2 p3 p3 p4 p4) = (0 : Int32)
      · exact (leaf_0_4 p1 p2 p3 p4 p5 p6 v4 hv4 v26 hv26 v31 hv31 v38 hv38 v45 hv45 hc50 hc75 hc82).elim
      · obtain ⟨fs, hr, hrun, hended, hW, hsame⟩ := X76.leave (v := some (.int (1 : Int32))) (fun h => by rw [Bd.returns] at h; cases h)
        refine ⟨_, _, pre81 _ ?_, hrun, hended, _, _, rfl, ?_, ⟨_, rfl⟩, hW, hsame.mono (by decide) (by decide)⟩
        · show Steps p.tables e below (T76.setTop (mkF m 163 #[.val (.int p1), .val (.int p2), .val (.int p3), .val (.int p4), .val (.int p5), .val (.int p6), .val (.int v4), .val (.ref b5), .val (.ref b18), .unset] [(.int (F3 p1 p1 p2 p2 p3 p3 p4 p4))])) _
          refine XS.ifNo X76.here hx rfl (hb hby at_163) rfl ((if0 _ _).trans (feq hc82).1) ?_
          show Steps p.tables e below (T76.setTop (mkF m 166 #[.val (.int p1), .val (.int p2), .val (.int p3), .val (.int p4), .val (.int p5), .val (.int p6), .val (.int v4), .val (.ref b5), .val (.ref b18), .unset] [])) _
          refine XS.iconst X76.here hx rfl (hb hby at_166) ?_
          show Steps p.tables e below (T76.setTop (mkF m 167 #[.val (.int p1), .val (.int p2), .val (.int p3), .val (.int p4), .val (.int p5), .val (.int p6), .val (.int v4), .val (.ref b5), .val (.ref b18), .unset] [(.int (1 : Int32))])) _
          refine XS.goto X76.here hx rfl (pc0 := 167) (pc' := 171) rfl (hb hby at_167) (by decide) (by decide) ?_
          show Steps p.tables e below (T76.setTop (mkF m 171 #[.val (.int p1), .val (.int p2), .val (.int p3), .val (.int p4), .val (.int p5), .val (.int p6), .val (.int v4), .val (.ref b5), .val (.ref b18), .unset] [(.int (1 : Int32))])) _
          exact retN X76 hx (t := .boolean) Bd.returns (by simp) (hb hby at_171) hr
        · show Q0 Z p1 p2 p3 p4 p5 p6 h0 n0 _ T76.heap _
          rw [e76]
          exact ⟨rfl, N76⟩
    · exact (leaf_0_6 p1 p2 p3 p4 p5 p6 v4 hv4 v26 hv26 v31 hv31 v38 hv38 v45 hv45 hc50 hc75).elim
set_option maxRecDepth 65536 in
set_option maxHeartbeats 40000000 in
theorem comes_1 {Post : Tables → Env → Array Value → State → Outcome → State → Prop} (hpost : ∀ tb e args s v u, (limb_1_1.after args s (.returned v) u = true ∧ limb_1_2.after args s (.returned v) u = true ∧ True) → FrameEnd s (.returned v) u (Jvm.fieldLocs frame_1_writes args s ++ Jvm.arrayLocs frame_1_arrays args s ++ Jvm.staticLocs frame_1_statics s) 16 128 → Post tb e args s (.returned v) u) :
    ArmFor flags0 classFile x code maxLocals ret World_1 tables_1 room_1 Calls_1 rest_1 Pre_1 Post := by
  intro l hfl _ _ p e ha hc hk s m args below hf hA hF happ hP
  obtain ⟨hcalls, hrest, hpre⟩ := hP
  obtain ⟨-, -, -, hnamed, -, -, -, hat⟩ := (Spec.applies_iff hf).mp happ
  obtain ⟨hg, hn⟩ := and_e (Cond.before_iff.mp (show (Jvm.Cond.and given_1 narrow_1).before args s = true from hpre))
  obtain ⟨g1, g2⟩ := and_e hg
  obtain ⟨g3, g4⟩ := and_e g2
  obtain ⟨g5, g6⟩ := and_e g4
  obtain ⟨g7, g8⟩ := and_e g6
  obtain ⟨g9, g10⟩ := and_e g8
  obtain ⟨g11, g12⟩ := and_e g10
  obtain ⟨w0, w1, w2, w3, w4, w5, rfl⟩ : ∃ w0 w1 w2 w3 w4 w5 : Value, args = #[w0, w1, w2, w3, w4, w5] := by
    have hs : args.size = 6 := by simpa [Cond.value, given_1] using g1
    obtain ⟨L⟩ := args
    match L, hs with
    | [w0, w1, w2, w3, w4, w5], _ => exact ⟨w0, w1, w2, w3, w4, w5, rfl⟩
  have hw := fun d (hd : d ∈ tables_1) => atoms_spec (ws := Jvm.Cond.code x code maxLocals ret :: tables_1) hat d (List.mem_cons_of_mem _ hd)
  have hfit : Fit s := fun {y c} hc i hi => by
    obtain ⟨ha, rfl⟩ := Array.getElem?_eq_some_iff.mp hc
    have q := List.all_eq_true.mp ((Array.all_eq_true_iff_forall_mem.mp hF) _ (Array.getElem_mem ha)) i (List.mem_range.mpr hi)
    simpa [Array.getElem?_eq_getElem hi] using q
  obtain ⟨i0, ei0⟩ := is_v g3
  obtain rfl : w0 = (.int i0) := Option.some.inj ei0
  obtain ⟨i1, ei1⟩ := is_v g5
  obtain rfl : w1 = (.int i1) := Option.some.inj ei1
  obtain ⟨i2, ei2⟩ := is_v g7
  obtain rfl : w2 = (.int i2) := Option.some.inj ei2
  obtain ⟨i3, ei3⟩ := is_v g9
  obtain rfl : w3 = (.int i3) := Option.some.inj ei3
  obtain ⟨i4, ei4⟩ := is_v g11
  obtain rfl : w4 = (.int i4) := Option.some.inj ei4
  obtain ⟨i5, ei5⟩ := is_v g12
  obtain rfl : w5 = (.int i5) := Option.some.inj ei5
  obtain ⟨n, o, h1, h2, h3, _, L, rfl, ⟨rfl, N⟩, hq⟩ := rm0 l s _ hw tables_1 i0 i1 i2 i3 i4 i5 s.heap s.heap.size (Nat.le_refl _) p e ha hc hk s m _ below hf ((Spec.applies_iff_loose hf).mp happ).1 ⟨rfl, State.Warmed39.refl s, rfl⟩ trivial
  refine ⟨n, _, h1, h2, h3, hpost _ _ _ _ _ _ ⟨Cond.after_iff.mpr rfl, Cond.after_iff.mpr (eq_i res_at (Term.int_eval (1)) rfl), trivial⟩ ⟨hq.1, hq.2.1, (hq.2.2.sift fun y hy => Or.inr (N y hy)).mono (by decide) (by decide)⟩⟩
theorem main_1_1 : Claimed_1_1 := comes_1 fun _ _ _ _ _ _ h hF => ⟨h.1, hF⟩
theorem main_1_2 : Claimed_1_2 := comes_1 fun _ _ _ _ _ _ h hF => ⟨h.2.1, hF⟩
end Jvm.Pilot.@@N@@
namespace Jvm.Pilot.@@N@@
open Jvm Jvm.ClassFile Sem Op Lib Jvm.Free Jvm.Stand Jvm.Pilot.@@N@@.Jvm.D
/-! MADE BY PROGRAM (witnessworld.py) out of the Statement's table words and the real class files: 9 classes; the members and pool entries that the words name. The judged class is class 1, her method 1. -/
namespace start1
open Jvm.ClassFile
def u (s : String) : CpInfo := .utf8 (stringToUtf16 s)
/-- a pool by its gaps: so many unusable entries, then the entry; so many at the end -/
def gap : Nat → List CpInfo → List CpInfo
  | 0, r => r
  | n + 1, r => .unusable :: gap n r
def poolList (es : List (Nat × CpInfo)) (last : Nat) : List CpInfo := es.foldr (fun e r => gap e.1 (e.2 :: r)) (gap last [])
def pool (es : List (Nat × CpInfo)) (last : Nat) : Array CpInfo := ⟨poolList es last⟩
def fileOf (pool : Array CpInfo) (this : Nat) (attrs : Array Attribute := #[]) (ms : Array MethodInfo := #[]) (fl : Nat := 33) (sup : Nat := 0) (ifs : Array Nat := #[]) (fds : Array FieldInfo := #[]) : ClassFile where
  minorVersion := 0
  majorVersion := 65
  constantPool := pool
  accessFlags := fl
  thisClass := this
  superClass := sup
  interfaces := ifs
  fields := fds
  methods := ms
  attributes := attrs
def plain (name : String) (sup : Option ClassId) : Class where
  name := name
  kind := .ordinary
  loader := none
  accessFlags := 33
  super := sup
  interfaces := #[]
  cf := none
  fields := #[]
  methods := #[]
  instanceTypes := #[]
  staticTypes := #[]
  resolved := #[]
  callSites := []
  init := .initialized
  statics := none
  mirror := none

def pool0 : Array CpInfo := pool [(5, u "<init>"), (0, u "()V"), (1, .class_ 10), (1, u "java/lang/Object")] 113

def k0c0 : Code := { maxStack := 0, maxLocals := 1, code := object_method_1_code, exceptionTable := #[], attributes := #[] }
def k0m0 : Method := { name := "<init>", desc := "()V", sig := { parameters := [], returnType := none }, accessFlags := 1, code := some k0c0 }
/-- java/lang/Object -/
def k0 : Class := { plain "java/lang/Object" none with
  accessFlags := 33
  interfaces := #[]
  cf := some (fileOf pool0 8 #[] #[{ accessFlags := 1, nameIndex := 5, descriptorIndex := 6, attributes := #[] }] 33 0 #[] #[])
  fields := #[]
  methods := #[k0m0]
  instanceTypes := #[]
  staticTypes := #[]
  resolved := Array.replicate 124 none
  statics := none }

def pool1 : Array CpInfo := pool [(2, .class_ 4), (0, .nameAndType 5 6), (0, u "java/lang/Object"), (0, u "<init>"), (0, u "()V"), (0, .class_ 8), (0, u "android/content/res/Configuration"), (0, .methodref 7 3), (0, .fieldref 7 11), (0, .nameAndType 12 13), (0, u "orientation"), (0, u "I"), (0, .fieldref 7 15), (0, .nameAndType 16 13), (0, u "uiMode"), (0, .fieldref 7 18), (0, .nameAndType 19 13), (0, u "screenWidthDp"), (0, .fieldref 7 21), (0, .nameAndType 22 13), (0, u "screenHeightDp"), (0, .methodref 7 24), (0, .nameAndType 25 26), (0, u "equals"), (0, u "(Landroid/content/res/Configuration;)Z"), (0, .class_ 28), (0, u "android/content/res/ConfigurationEqualsPinLaw"), (2, u "law"), (0, u "(IIIIII)Z")] 3

def k1m0 : Method := { name := "<init>", desc := "()V", sig := { parameters := [], returnType := none }, accessFlags := 1, code := none }
def k1c1 : Code := { maxStack := 3, maxLocals := 10, code := code, exceptionTable := #[], attributes := #[] }
def k1m1 : Method := { name := "law", desc := "(IIIIII)Z", sig := { parameters := [.int, .int, .int, .int, .int, .int], returnType := some .boolean }, accessFlags := 9, code := some k1c1 }
/-- android/content/res/ConfigurationEqualsPinLaw -/
def k1 : Class := { plain "android/content/res/ConfigurationEqualsPinLaw" (some 0) with
  accessFlags := 49
  interfaces := #[]
  cf := some (fileOf pool1 27 #[] #[{ accessFlags := 1, nameIndex := 5, descriptorIndex := 6, attributes := #[] }, { accessFlags := 9, nameIndex := 31, descriptorIndex := 32, attributes := #[] }] 49 2 #[] #[])
  fields := #[]
  methods := #[k1m0, k1m1]
  instanceTypes := #[]
  staticTypes := #[]
  resolved := Array.replicate 36 none
  statics := none }

def pool2 : Array CpInfo := pool [(1, .methodref 2 3), (0, .class_ 4), (0, .nameAndType 5 6), (0, u "java/lang/Object"), (0, u "<init>"), (0, u "()V"), (1, .class_ 10), (1, u "android/content/res/Configuration"), (2, .fieldref 8 14), (0, .nameAndType 15 16), (0, u "orientation"), (0, u "I"), (0, .fieldref 8 18), (0, .nameAndType 19 16), (0, u "uiMode"), (0, .fieldref 8 21), (0, .nameAndType 22 16), (0, u "screenWidthDp"), (0, .fieldref 8 24), (0, .nameAndType 25 16), (0, u "screenHeightDp"), (9, u "equals"), (0, u "(Landroid/content/res/Configuration;)Z"), (20, u "ORIENTATION_UNDEFINED"), (2, u "ORIENTATION_PORTRAIT"), (1, u "ORIENTATION_LANDSCAPE"), (1, u "UI_MODE_TYPE_MASK"), (1, u "UI_MODE_TYPE_UNDEFINED"), (0, u "UI_MODE_TYPE_NORMAL"), (0, u "UI_MODE_TYPE_DESK"), (0, u "UI_MODE_TYPE_CAR"), (1, u "UI_MODE_TYPE_TELEVISION"), (1, u "UI_MODE_TYPE_APPLIANCE"), (1, u "UI_MODE_TYPE_WATCH"), (1, u "UI_MODE_TYPE_VR_HEADSET"), (1, u "UI_MODE_NIGHT_MASK"), (1, u "UI_MODE_NIGHT_UNDEFINED"), (0, u "UI_MODE_NIGHT_NO"), (1, u "UI_MODE_NIGHT_YES"), (1, u "SCREEN_WIDTH_DP_UNDEFINED"), (0, u "SCREEN_HEIGHT_DP_UNDEFINED")] 30

def k2c0 : Code := { maxStack := 1, maxLocals := 1, code := prog_13_method_1_code, exceptionTable := #[], attributes := #[] }
def k2m0 : Method := { name := "<init>", desc := "()V", sig := { parameters := [], returnType := none }, accessFlags := 1, code := some k2c0 }
def k2c1 : Code := { maxStack := 2, maxLocals := 2, code := prog_13_method_7_code, exceptionTable := #[], attributes := #[] }
def k2m1 : Method := { name := "equals", desc := "(Landroid/content/res/Configuration;)Z", sig := { parameters := [(.object "android/content/res/Configuration")], returnType := some .boolean }, accessFlags := 1, code := some k2c1 }
/-- android/content/res/Configuration -/
def k2 : Class := { plain "android/content/res/Configuration" (some 0) with
  accessFlags := 33
  interfaces := #[]
  cf := some (fileOf pool2 8 #[] #[{ accessFlags := 1, nameIndex := 5, descriptorIndex := 6, attributes := #[] }, { accessFlags := 1, nameIndex := 35, descriptorIndex := 36, attributes := #[] }] 33 2 #[] #[{ accessFlags := 25, nameIndex := 57, descriptorIndex := 16, attributes := #[] }, { accessFlags := 25, nameIndex := 60, descriptorIndex := 16, attributes := #[] }, { accessFlags := 25, nameIndex := 62, descriptorIndex := 16, attributes := #[] }, { accessFlags := 25, nameIndex := 64, descriptorIndex := 16, attributes := #[] }, { accessFlags := 25, nameIndex := 66, descriptorIndex := 16, attributes := #[] }, { accessFlags := 25, nameIndex := 67, descriptorIndex := 16, attributes := #[] }, { accessFlags := 25, nameIndex := 68, descriptorIndex := 16, attributes := #[] }, { accessFlags := 25, nameIndex := 69, descriptorIndex := 16, attributes := #[] }, { accessFlags := 25, nameIndex := 71, descriptorIndex := 16, attributes := #[] }, { accessFlags := 25, nameIndex := 73, descriptorIndex := 16, attributes := #[] }, { accessFlags := 25, nameIndex := 75, descriptorIndex := 16, attributes := #[] }, { accessFlags := 25, nameIndex := 77, descriptorIndex := 16, attributes := #[] }, { accessFlags := 25, nameIndex := 79, descriptorIndex := 16, attributes := #[] }, { accessFlags := 25, nameIndex := 81, descriptorIndex := 16, attributes := #[] }, { accessFlags := 25, nameIndex := 82, descriptorIndex := 16, attributes := #[] }, { accessFlags := 25, nameIndex := 84, descriptorIndex := 16, attributes := #[] }, { accessFlags := 25, nameIndex := 86, descriptorIndex := 16, attributes := #[] }, { accessFlags := 25, nameIndex := 87, descriptorIndex := 16, attributes := #[] }, { accessFlags := 1, nameIndex := 15, descriptorIndex := 16, attributes := #[] }, { accessFlags := 1, nameIndex := 19, descriptorIndex := 16, attributes := #[] }, { accessFlags := 1, nameIndex := 22, descriptorIndex := 16, attributes := #[] }, { accessFlags := 1, nameIndex := 25, descriptorIndex := 16, attributes := #[] }])
  fields := #[{ name := "ORIENTATION_UNDEFINED", type := .int, accessFlags := 25, slot := 0, constantValue := 0 }, { name := "ORIENTATION_PORTRAIT", type := .int, accessFlags := 25, slot := 1, constantValue := 0 }, { name := "ORIENTATION_LANDSCAPE", type := .int, accessFlags := 25, slot := 2, constantValue := 0 }, { name := "UI_MODE_TYPE_MASK", type := .int, accessFlags := 25, slot := 3, constantValue := 0 }, { name := "UI_MODE_TYPE_UNDEFINED", type := .int, accessFlags := 25, slot := 4, constantValue := 0 }, { name := "UI_MODE_TYPE_NORMAL", type := .int, accessFlags := 25, slot := 5, constantValue := 0 }, { name := "UI_MODE_TYPE_DESK", type := .int, accessFlags := 25, slot := 6, constantValue := 0 }, { name := "UI_MODE_TYPE_CAR", type := .int, accessFlags := 25, slot := 7, constantValue := 0 }, { name := "UI_MODE_TYPE_TELEVISION", type := .int, accessFlags := 25, slot := 8, constantValue := 0 }, { name := "UI_MODE_TYPE_APPLIANCE", type := .int, accessFlags := 25, slot := 9, constantValue := 0 }, { name := "UI_MODE_TYPE_WATCH", type := .int, accessFlags := 25, slot := 10, constantValue := 0 }, { name := "UI_MODE_TYPE_VR_HEADSET", type := .int, accessFlags := 25, slot := 11, constantValue := 0 }, { name := "UI_MODE_NIGHT_MASK", type := .int, accessFlags := 25, slot := 12, constantValue := 0 }, { name := "UI_MODE_NIGHT_UNDEFINED", type := .int, accessFlags := 25, slot := 13, constantValue := 0 }, { name := "UI_MODE_NIGHT_NO", type := .int, accessFlags := 25, slot := 14, constantValue := 0 }, { name := "UI_MODE_NIGHT_YES", type := .int, accessFlags := 25, slot := 15, constantValue := 0 }, { name := "SCREEN_WIDTH_DP_UNDEFINED", type := .int, accessFlags := 25, slot := 16, constantValue := 0 }, { name := "SCREEN_HEIGHT_DP_UNDEFINED", type := .int, accessFlags := 25, slot := 17, constantValue := 0 }, { name := "orientation", type := .int, accessFlags := 1, slot := 0, constantValue := 0 }, { name := "uiMode", type := .int, accessFlags := 1, slot := 1, constantValue := 0 }, { name := "screenWidthDp", type := .int, accessFlags := 1, slot := 2, constantValue := 0 }, { name := "screenHeightDp", type := .int, accessFlags := 1, slot := 3, constantValue := 0 }]
  methods := #[k2m0, k2m1]
  instanceTypes := #[.int, .int, .int, .int]
  staticTypes := #[.int, .int, .int, .int, .int, .int, .int, .int, .int, .int, .int, .int, .int, .int, .int, .int, .int, .int]
  resolved := Array.replicate 118 none
  statics := none }

def pool3 : Array CpInfo := pool [(1, u "java/lang/Cloneable"), (0, .class_ 1), (0, u "java/lang/Object"), (0, .class_ 3)] 3

/-- java/lang/Cloneable -/
def k3 : Class := { plain "java/lang/Cloneable" (some 0) with
  accessFlags := 1537
  interfaces := #[]
  cf := some (fileOf pool3 2 #[] #[] 1537 4 #[] #[])
  fields := #[]
  methods := #[]
  instanceTypes := #[]
  staticTypes := #[]
  resolved := Array.replicate 8 none
  statics := none }

def pool4 : Array CpInfo := pool [(1, u "java/io/Serializable"), (0, .class_ 1), (0, u "java/lang/Object"), (0, .class_ 3)] 3

/-- java/io/Serializable -/
def k4 : Class := { plain "java/io/Serializable" (some 0) with
  accessFlags := 1537
  interfaces := #[]
  cf := some (fileOf pool4 2 #[] #[] 1537 4 #[] #[])
  fields := #[]
  methods := #[]
  instanceTypes := #[]
  staticTypes := #[]
  resolved := Array.replicate 8 none
  statics := none }

/-- the primitive byte -/
def k5 : Class := { plain "byte" none with kind := .primitive 'B', accessFlags := 0x411 }
/-- [B -/
def k6 : Class := { plain "[B" (some 0) with kind := .array 5 .byte, interfaces := #[3, 4], accessFlags := 1041 }

/-- the primitive int -/
def k7 : Class := { plain "int" none with kind := .primitive 'I', accessFlags := 0x411 }
/-- [I -/
def k8 : Class := { plain "[I" (some 0) with kind := .array 7 .int, interfaces := #[3, 4], accessFlags := 1041 }

def heap : Heap := #[]
def classes : Array Class := #[k0, k1, k2, k3, k4, k5, k6, k7, k8]
def interned : List (Array UInt16 × Addr) := []
def slotsUsed : Nat := 0
def theMethod : MethodId := ⟨1, 1⟩
def args0 : Array Value := #[.int 5, .int 7, .int 5, .int 7, .int 5, .int 3]
def aboutOver (below : List Frame) : State where
  vm := { classes := classes, interned := interned.toArray }
  heap := heap
  slotsUsed := slotsUsed
  threads := #[{ frames := .invoking theMethod args0 :: below }]
def below0 : List Frame := [.native { method := ⟨0, 0⟩, args := #[] }]
def about1 : State := aboutOver below0
def p0 : Program := .bare "" "" ""
def e0 : Env := launch0.env 0 0 0
theorem w_frames : about1.frames = Frame.invoking theMethod args0 :: below0 := rfl
set_option maxRecDepth 65536 in
theorem w_args : argsFit about1.vm theMethod args0 = true := by decide +kernel
set_option maxRecDepth 65536 in
theorem w_heap : heapFits about1 = true := by decide +kernel
set_option maxRecDepth 65536 in
theorem w_runnable : about1.curStatus? = some .runnable := by decide +kernel
set_option maxRecDepth 65536 in
theorem w_alone : about1.alone = true := by decide +kernel
set_option maxRecDepth 65536 in
theorem w_named : about1.methodNamed? x = some theMethod := by decide +kernel
set_option maxRecDepth 65536 in
theorem w_hears : about1.hears theMethod below0 = true := by decide +kernel
set_option maxRecDepth 65536 in
theorem w_ripe : about1.ripe theMethod args0 below0 = true := by decide +kernel
theorem w_running : about1.status = .running := rfl
set_option maxRecDepth 65536 in
theorem w_room : about1.hasRoom e0.platform room_1 = true :=
  launch0.hasRoom_least _ room_1 (by decide +kernel) (by decide +kernel) (by decide +kernel) (by decide +kernel) (by decide +kernel) (by decide +kernel)
theorem allAtoms_all (ts : List Jvm.Cond) (a : Array Jvm.Value) (st : Jvm.State) : (allAtoms ts).before a st = ts.all (fun c => c.before a st) := by
  induction ts with
  | nil => rfl
  | cons c t ih =>
    show (Jvm.Cond.and c (allAtoms t)).before a st = _
    rw [Jvm.Cond.before_and, ih, List.all_cons]
def words1 : List Jvm.Cond := Jvm.Cond.code x code maxLocals ret :: tables_1
/-- a 'code' word, met by the world's own term for the bytes: nothing is compared byte by byte -/
theorem code_word {y : MethodName} {bytes : ByteArray} {mx : Nat} {rt : Option FieldType} {a : Array Value} {s : State} {m : MethodId} {meth : Method} {c : Code} (h1 : s.methodNamed? y = some m) (h2 : s.vm.method? m = some meth) (h3 : meth.code = some c) (h4 : c.code = bytes)
    (h5 : (c.maxLocals == mx && c.exceptionTable.isEmpty && decide (c.maxStack ≤ mostOperands) && decide (meth.sig.returnType = rt) && !meth.locks && decide (parseMethodDescriptor y.desc = some meth.sig)) = true) : (Jvm.Cond.code y bytes mx rt).before a s = true := by
  simp only [Bool.and_eq_true, beq_iff_eq, Bool.not_eq_true', decide_eq_true_eq] at h5
  obtain ⟨⟨⟨⟨⟨g1, g2⟩, g3⟩, g4⟩, g5⟩, g6⟩ := h5
  simp [Cond.before, Cond.holds, Cond.value, h1, h2, h3, h4, g1, g2, g3, g4, g5, g6]
def isCode : Jvm.Cond → Bool
  | .code _ _ _ _ => true
  | _ => false
theorem all_split {L : List Jvm.Cond} {P : Jvm.Cond → Bool} (h1 : L.all (fun c => isCode c || P c) = true) (h2 : ∀ c ∈ L.filter isCode, P c = true) : L.all P = true := by
  refine List.all_eq_true.mpr fun c hc => ?_
  have h := List.all_eq_true.mp h1 c hc
  rcases Bool.eq_false_or_eq_true (isCode c) with hi | hi
  · exact h2 c (List.mem_filter.mpr ⟨hc, hi⟩)
  · simpa [hi] using h
set_option maxRecDepth 65536 in
theorem w_c0 : (Jvm.Cond.code x code maxLocals ret).before args0 about1 = true := code_word (m := ⟨1, 1⟩) (meth := k1m1) (c := k1c1) (by decide +kernel) rfl rfl rfl (by decide +kernel)
set_option maxRecDepth 65536 in
theorem w_c1 : (Jvm.Cond.code ({ cls := "android/content/res/Configuration", name := "<init>", desc := "()V" } : Jvm.MethodName) prog_13_method_1_code (1 : Nat) (Option.none : Option Jvm.ClassFile.FieldType)).before args0 about1 = true := code_word (m := ⟨2, 0⟩) (meth := k2m0) (c := k2c0) (by decide +kernel) rfl rfl rfl (by decide +kernel)
set_option maxRecDepth 65536 in
theorem w_c2 : (Jvm.Cond.code ({ cls := "java/lang/Object", name := "<init>", desc := "()V" } : Jvm.MethodName) object_method_1_code (1 : Nat) (Option.none : Option Jvm.ClassFile.FieldType)).before args0 about1 = true := code_word (m := ⟨0, 0⟩) (meth := k0m0) (c := k0c0) (by decide +kernel) rfl rfl rfl (by decide +kernel)
set_option maxRecDepth 65536 in
theorem w_c3 : (Jvm.Cond.code ({ cls := "android/content/res/Configuration", name := "equals", desc := "(Landroid/content/res/Configuration;)Z" } : Jvm.MethodName) prog_13_method_7_code (2 : Nat) (Option.some Jvm.ClassFile.FieldType.boolean)).before args0 about1 = true := code_word (m := ⟨2, 1⟩) (meth := k2m1) (c := k2c1) (by decide +kernel) rfl rfl rfl (by decide +kernel)
def codes1 : List Jvm.Cond := [Jvm.Cond.code x code maxLocals ret, Jvm.Cond.code ({ cls := "android/content/res/Configuration", name := "<init>", desc := "()V" } : Jvm.MethodName) prog_13_method_1_code (1 : Nat) (Option.none : Option Jvm.ClassFile.FieldType), Jvm.Cond.code ({ cls := "java/lang/Object", name := "<init>", desc := "()V" } : Jvm.MethodName) object_method_1_code (1 : Nat) (Option.none : Option Jvm.ClassFile.FieldType), Jvm.Cond.code ({ cls := "android/content/res/Configuration", name := "equals", desc := "(Landroid/content/res/Configuration;)Z" } : Jvm.MethodName) prog_13_method_7_code (2 : Nat) (Option.some Jvm.ClassFile.FieldType.boolean)]
set_option maxRecDepth 65536 in
theorem codes_eq : words1.filter isCode = codes1 := rfl
theorem w_codes : ∀ c ∈ words1.filter isCode, c.before args0 about1 = true := by
  rw [codes_eq]
  intro c hc
  simp only [codes1, List.mem_cons, List.not_mem_nil, or_false] at hc
  rcases hc with rfl | rfl | rfl | rfl
  · exact w_c0
  · exact w_c1
  · exact w_c2
  · exact w_c3
set_option maxRecDepth 65536 in
theorem w_t1 : (words1.take 24).all (fun c => isCode c || c.before args0 about1) = true := by decide +kernel
set_option maxRecDepth 65536 in
theorem w_t2 : (words1.drop 24).all (fun c => isCode c || c.before args0 about1) = true := by decide +kernel
theorem w_tables : (allAtoms (Jvm.Cond.code x code maxLocals ret :: tables_1)).before args0 about1 = true := by
  rw [allAtoms_all]
  show words1.all (fun c => c.before args0 about1) = true
  refine all_split ?_ w_codes
  rw [← List.take_append_drop 24 words1, List.all_append, w_t1, w_t2]
  rfl
set_option maxRecDepth 65536 in
theorem w_case : (Jvm.Cond.and given_1 narrow_1).before args0 about1 = true := by decide +kernel
theorem w_applies : (headSpec (Jvm.Cond.code x code maxLocals ret :: tables_1) room_1).applies x e0.platform about1 = true :=
  (Spec.applies_iff w_frames).mpr ⟨w_running, w_runnable, w_alone, w_named, w_hears, w_ripe, w_room, w_tables⟩
theorem atStart : AtStart classFile x code maxLocals ret World_1 tables_1 room_1 Calls_1 rest_1 Pre_1 launch0 p0 e0 about1 theMethod args0 below0 :=
  ⟨lists_1, trivial, launch0.admits_env _ _ _, launch0.least_env, fairChoices_fair.cas, fairChoices_fair.clock, w_frames, w_args, w_heap, w_applies, trivial, trivial, w_case⟩
end start1
theorem witness_1 : WitnessClaimed_1 := ⟨start1.p0, start1.e0, start1.about1, start1.theMethod, start1.args0, start1.below0, start1.atStart⟩
end Jvm.Pilot.@@N@@
