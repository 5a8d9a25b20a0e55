import JvmDerived
import JvmDerived.Pilot.@@N@@Statement
import JvmDerived.Pilot.@@N@@Code
set_option linter.unusedVariables false
set_option linter.unusedSimpArgs false
namespace Jvm.RoadKit
open Sem ClassFile Op Lib Jvm.Stand Jvm.Free Jvm.LawKit
section New
variable {p : Program} {l : Launch} {e : Env} {R : Room} {s : State} {m : MethodId} {args : Array Value} {below : List Frame} {meth : Method} {c : Code} {T : State} {locs : List Loc} {cells slots : Nat}
theorem retI (X : Stand p l e R s m args below meth c T locs cells slots) (hx : p.tables.exec = Jvm.exec) {pc : Nat} {Ls : Array Slot} {z : Int32} {rest : List Value} (hret : meth.sig.returnType = some .int) (hd : decode c.code pc = .ok (.ireturn, 1)) {fs : List Frame}
    (hl : ∀ (f : JFrame) (acts : List Action), f.method = m → f.locked = none → f.entered = [] → (doReturn e (T.setTop f) acts (some (.int z))).1 = T.setFrames fs) : Steps p.tables e below (T.setTop (mkF m pc Ls (.int z :: rest))) (T.setFrames fs) := by
  have hm' : T.vm.method? m = some meth := X.method'
  have hn : narrow .int (.int z) = .int z := rfl
  show Steps p.tables e below (T.setTop { method := m, pc := pc, locals := Ls, stack := _ :: rest, locked := none }) _
  jvm_step X.here [X.here.top, hx, hd, hm', hret, hn]
  first | (intro acts; rw [hl _ acts rfl rfl rfl]) | rw [hl _ _ rfl rfl rfl]
  exact Steps.refl _
end New
end Jvm.RoadKit

@@BLOCK:NumsL.lean.txt@@

namespace Jvm.Pilot.@@N@@
open Jvm Jvm.ClassFile Sem Op Lib Jvm.Free Jvm.Stand Jvm.LawKit Jvm.RoadKit Bundle Jvm.Pilot.@@N@@.Jvm.D
def own_at (L : List Int32) (j : Int32) : Int32 := L.getD j.toNatClampNeg 0
theorem own_getD (L : List Int32) (i : Nat) : (L.map Value.int).getD i (.int (0 : Int32)) = .int (L.getD i 0) := by
  induction L generalizing i with
  | nil => rfl
  | cons a t ih => cases i with
    | zero => rfl
    | succ i => exact ih i

theorem own_eqI {a b : Int32} : a = b ↔ a.toInt = b.toInt := Int32.toInt_inj.symm
theorem own_ltI {a b : Int32} : a < b ↔ a.toInt < b.toInt := Int32.lt_iff_toInt_lt
theorem own_bd (a : Int32) : -2147483648 ≤ a.toInt ∧ a.toInt < 2147483648 := ⟨Int32.le_toInt a, Int32.toInt_lt a⟩

theorem own_lor (a b : Int32) (ha : 0 ≤ a.toInt ∧ a.toInt < 65536) (hb : 0 ≤ b.toInt ∧ b.toInt < 65536) : ((a.toInt64) <<< ((16 : Int32) &&& 0x3f).toInt64) ||| (b.toInt64) = a.toInt64 * (65536 : Int64) + b.toInt64 := by
  have h : ((16 : Int32) &&& 0x3f).toInt64 = 16 := by decide
  rw [h]
  have ea : a.toInt64.toBitVec.toNat = a.toInt.toNat := by
    have e : a.toInt64.toInt = a.toInt := Int32.toInt_toInt64 a
    have : a.toInt64.toBitVec.toInt = a.toInt := e
    rw [BitVec.toInt_eq_toNat_cond] at this
    split at this <;> omega
  have eb : b.toInt64.toBitVec.toNat = b.toInt.toNat := by
    have e : b.toInt64.toInt = b.toInt := Int32.toInt_toInt64 b
    have : b.toInt64.toBitVec.toInt = b.toInt := e
    rw [BitVec.toInt_eq_toNat_cond] at this
    split at this <;> omega
  apply Int64.toBitVec_inj.mp
  apply BitVec.eq_of_toNat_eq
  rw [Int64.toBitVec_or, Int64.toBitVec_add, Int64.toBitVec_mul, BitVec.toNat_or, BitVec.toNat_add, BitVec.toNat_mul]
  have es : (a.toInt64 <<< (16 : Int64)).toBitVec = a.toInt64.toBitVec <<< 16 := rfl
  rw [es, BitVec.toNat_shiftLeft, ea, eb, show (65536 : Int64).toBitVec.toNat = 65536 from rfl, Nat.shiftLeft_eq, Nat.mod_eq_of_lt (by omega), ← Nat.shiftLeft_eq, ← Nat.shiftLeft_add_eq_or_of_lt (by omega), Nat.shiftLeft_eq, Nat.mod_eq_of_lt (by omega)]
theorem own_lc (q : Int64) : lcmpW q q = 0 := by
  unfold lcmpW
  rw [if_neg (by rw [gt_iff_lt, Int64.lt_iff_toInt_lt]; omega), if_pos rfl]
theorem own_hi (x : Int32) : 0 ≤ ((x.toUInt32 >>> ((16 : Int32) &&& 31).toUInt32).toInt32).toInt ∧ ((x.toUInt32 >>> ((16 : Int32) &&& 31).toUInt32).toInt32).toInt < 65536 := by
  have h : ((16 : Int32) &&& 31).toUInt32 = 16 := by decide
  rw [h]
  have e : ((x.toUInt32 >>> 16).toInt32).toBitVec = x.toBitVec >>> 16 := rfl
  have l : (x.toBitVec >>> 16).toNat < 65536 := by
    have := x.toBitVec.isLt
    rw [BitVec.toNat_ushiftRight, Nat.shiftRight_eq_div_pow]; omega
  have e2 : ((x.toUInt32 >>> 16).toInt32).toInt = ((x.toUInt32 >>> 16).toInt32).toBitVec.toInt := rfl
  rw [e2, e, BitVec.toInt_eq_toNat_of_lt (by omega)]
  omega

theorem d1_0 : decode prog_47_method_8_code 0 = .ok (.iconst 0, 1) := by decide +kernel
theorem d1_1 : decode prog_47_method_8_code 1 = .ok (.istore_n 1, 1) := by decide +kernel
theorem d1_2 : decode prog_47_method_8_code 2 = .ok (.iload_n 1, 1) := by decide +kernel
theorem d1_3 : decode prog_47_method_8_code 3 = .ok (.iconst 5, 1) := by decide +kernel
theorem d1_4 : decode prog_47_method_8_code 4 = .ok (.if_icmp .ge 19, 3) := by decide +kernel
theorem d1_7 : decode prog_47_method_8_code 7 = .ok (.aload_n 0, 1) := by decide +kernel
theorem d1_8 : decode prog_47_method_8_code 8 = .ok (.iload_n 1, 1) := by decide +kernel
theorem d1_9 : decode prog_47_method_8_code 9 = .ok (.iaload, 1) := by decide +kernel
theorem d1_10 : decode prog_47_method_8_code 10 = .ok (.ifCond .eq 7, 3) := by decide +kernel
theorem d1_13 : decode prog_47_method_8_code 13 = .ok (.ldc2_w 37, 3) := by decide +kernel
theorem d1_16 : decode prog_47_method_8_code 16 = .ok (.lreturn, 1) := by decide +kernel
theorem d1_17 : decode prog_47_method_8_code 17 = .ok (.iinc 1 1, 3) := by decide +kernel
theorem d1_20 : decode prog_47_method_8_code 20 = .ok (.goto (-18), 3) := by decide +kernel
theorem d1_23 : decode prog_47_method_8_code 23 = .ok (.aload_n 0, 1) := by decide +kernel
theorem d1_24 : decode prog_47_method_8_code 24 = .ok (.iconst 5, 1) := by decide +kernel
theorem d1_25 : decode prog_47_method_8_code 25 = .ok (.iaload, 1) := by decide +kernel
theorem d1_26 : decode prog_47_method_8_code 26 = .ok (.ldc 97, 2) := by decide +kernel
theorem d1_28 : decode prog_47_method_8_code 28 = .ok (.if_icmp .ne 20, 3) := by decide +kernel
theorem d1_31 : decode prog_47_method_8_code 31 = .ok (.aload_n 0, 1) := by decide +kernel
theorem d1_32 : decode prog_47_method_8_code 32 = .ok (.bipush 6, 2) := by decide +kernel
theorem d1_34 : decode prog_47_method_8_code 34 = .ok (.iaload, 1) := by decide +kernel
theorem d1_35 : decode prog_47_method_8_code 35 = .ok (.i2l, 1) := by decide +kernel
theorem d1_36 : decode prog_47_method_8_code 36 = .ok (.bipush 16, 2) := by decide +kernel
theorem d1_38 : decode prog_47_method_8_code 38 = .ok (.lshl, 1) := by decide +kernel
theorem d1_39 : decode prog_47_method_8_code 39 = .ok (.aload_n 0, 1) := by decide +kernel
theorem d1_40 : decode prog_47_method_8_code 40 = .ok (.bipush 7, 2) := by decide +kernel
theorem d1_42 : decode prog_47_method_8_code 42 = .ok (.iaload, 1) := by decide +kernel
theorem d1_43 : decode prog_47_method_8_code 43 = .ok (.i2l, 1) := by decide +kernel
theorem d1_44 : decode prog_47_method_8_code 44 = .ok (.lor, 1) := by decide +kernel
theorem d1_45 : decode prog_47_method_8_code 45 = .ok (.goto 6, 3) := by decide +kernel
theorem d1_48 : decode prog_47_method_8_code 48 = .ok (.ldc2_w 37, 3) := by decide +kernel
theorem d1_51 : decode prog_47_method_8_code 51 = .ok (.lreturn, 1) := by decide +kernel
theorem pn_1 : plainName "com/example/fenceline/fenceline/url/IpAddress" = true := by first | (simp [plainName, overriddenIn]; done) | decide +kernel
theorem ef_1 (m : MethodId) (a1 : Addr) : entryFrame m #[(.ref a1)] 2 = mkF m 0 #[.val (.ref a1), .unset] [] := by first | (simp [entryFrame, mkF, argsToLocals, Value.category]; done) | rfl
def F1 (e_a1_0 : Int32) (e_a1_1 : Int32) (e_a1_2 : Int32) (e_a1_3 : Int32) (e_a1_4 : Int32) (e_a1_5 : Int32) (e_a1_6 : Int32) (e_a1_7 : Int32) : Int64 := (if e_a1_0 = (0 : Int32) then (if e_a1_1 = (0 : Int32) then (if e_a1_2 = (0 : Int32) then (if e_a1_3 = (0 : Int32) then (if e_a1_4 = (0 : Int32) then (if e_a1_5 = (65535 : Int32) then (((e_a1_6.toInt64) <<< ((16 : Int32) &&& 0x3f).toInt64) ||| (e_a1_7.toInt64)) else (-1 : Int64)) else (-1 : Int64)) else (-1 : Int64)) else (-1 : Int64)) else (-1 : Int64)) else (-1 : Int64))
def Q1 (Z : State) (a1 : Addr) (k_a1 : ClassId) (e_a1_0 : Int32) (e_a1_1 : Int32) (e_a1_2 : Int32) (e_a1_3 : Int32) (e_a1_4 : Int32) (e_a1_5 : Int32) (e_a1_6 : Int32) (e_a1_7 : Int32) (h0 : Heap) (n0 : Nat) (v : Option Value) (h : Heap) (L : List Loc) : Prop := v = some (.long (F1 e_a1_0 e_a1_1 e_a1_2 e_a1_3 e_a1_4 e_a1_5 e_a1_6 e_a1_7)) ∧ Fr n0 L ∧ h = h0
set_option maxRecDepth 65536 in
set_option maxHeartbeats 40000000 in
theorem rm1 (l : Launch) (Z : State) (a0 : Array Value) (hw : ∀ d ∈ tables_1, d.before a0 Z = true) (ws : List Jvm.Cond) (a1 : Addr) (k_a1 : ClassId) (e_a1_0 : Int32) (e_a1_1 : Int32) (e_a1_2 : Int32) (e_a1_3 : Int32) (e_a1_4 : Int32) (e_a1_5 : Int32) (e_a1_6 : Int32) (e_a1_7 : Int32) (h0 : Heap) (n0 : Nat) (Z0 : n0 ≤ h0.size) (V_a1 : Arv Z h0 a1 k_a1 .int (8 : Int32) [(.int e_a1_0), (.int e_a1_1), (.int e_a1_2), (.int e_a1_3), (.int e_a1_4), (.int e_a1_5), (.int e_a1_6), (.int e_a1_7)] (.int (0 : Int32))) :
    MetFree l (⟨"com/example/fenceline/fenceline/url/IpAddress", "mappedIpv4", "([I)J"⟩ : MethodName) (head1 (Jvm.Cond.code (⟨"com/example/fenceline/fenceline/url/IpAddress", "mappedIpv4", "([I)J"⟩ : MethodName) prog_47_method_8_code 2 (some .long) :: ws) ({ frames := 0, cells := 0, slots := 0, locals := 0 } : Room)) (fun a U => a = #[(.ref a1)] ∧ Z.Warmed39 U.vm ∧ U.heap = h0) (fun _ _ _ _ _ => True) (fun _ U o U' => ∃ v L, o = .returned v ∧ Q1 Z a1 k_a1 e_a1_0 e_a1_1 e_a1_2 e_a1_3 e_a1_4 e_a1_5 e_a1_6 e_a1_7 h0 n0 v U'.heap L ∧ FrameEnd U o U' L ({ frames := 0, cells := 0, slots := 0, locals := 0 } : Room).cells ({ frames := 0, cells := 0, slots := 0, locals := 0 } : Room).slots) := by
  refine MetFree.of_bodySF (plainFor_of_name pn_1) hisR ?_
  intro p e s m args below meth c s₁ Bd hml0 hP hK
  obtain ⟨rfl, hZ, hh⟩ := hP
  have hx := Bd.exec
  have hby := Bd.bytes
  have hml : c.maxLocals = 2 := hml0
  have hown : s.vm.findClass "com/example/fenceline/fenceline/url/IpAddress" = some m.cls := findClass_of_methodNamed Bd.named
  have hnm := (name_of_methodNamed Bd.named Bd.method).1
  have X0 : Stand p l e ({ frames := 0, cells := 0, slots := 0, locals := 0 } : Room) s m #[(.ref a1)] below meth c s₁ [] 0 0 := Stand.of_body Bd
  have e0 : s₁.heap = h0 := by rw [← hh, Bd.state]; rfl
  have N0 := Fr.nil n0
  have pre0 : ∀ t, Steps p.tables e below (s₁.setTop (mkF m 0 #[.val (.ref a1), .unset] [])) t → Steps p.tables e below (s₁.setTop (entryFrame m #[(.ref a1)] 2)) t := fun t k => castTop (ef_1 m a1) k
  obtain ⟨cl1, Ar1, q1, S1, M1, H1, G1⟩ := id V_a1
  have hin1 : ¬ ((0 : Int32) < 0 ∨ cl1.slots.size ≤ ((0 : Int32)).toNatClampNeg) := inb_of S1 ⟨by decide, by decide⟩
  have hat1 : cl1.slots[((0 : Int32)).toNatClampNeg]? = some (.int e_a1_0) := Has.at H1 hin1 rfl
  have pre2 : ∀ t, Steps p.tables e below (s₁.setTop (mkF m 10 #[.val (.ref a1), .val (.int (0 : Int32))] [(.int e_a1_0)])) t → Steps p.tables e below (s₁.setTop (entryFrame m #[(.ref a1)] 2)) t := fun t kt => by
    refine pre0 t ?_
    show Steps p.tables e below (s₁.setTop (mkF m 0 #[.val (.ref a1), .unset] [])) _
    refine XS.iconst X0.here hx rfl (hb hby d1_0) ?_
    show Steps p.tables e below (s₁.setTop (mkF m 1 #[.val (.ref a1), .unset] [(.int (0 : Int32))])) _
    refine XS.istoreN X0.here hx rfl (hb hby d1_1) rfl (l' := #[.val (.ref a1), .val (.int (0 : Int32))]) rfl ?_
    show Steps p.tables e below (s₁.setTop (mkF m 2 #[.val (.ref a1), .val (.int (0 : Int32))] [])) _
    refine XS.iloadN X0.here hx rfl (hb hby d1_2) rfl ?_
    show Steps p.tables e below (s₁.setTop (mkF m 3 #[.val (.ref a1), .val (.int (0 : Int32))] [(.int (0 : Int32))])) _
    refine XS.iconst X0.here hx rfl (hb hby d1_3) ?_
    show Steps p.tables e below (s₁.setTop (mkF m 4 #[.val (.ref a1), .val (.int (0 : Int32))] [(.int (5 : Int32)), (.int (0 : Int32))])) _
    refine XS.icmpNo X0.here hx rfl (hb hby d1_4) rfl (tlt (by decide : (0 : Int32) < (5 : Int32))).2.1 ?_
    show Steps p.tables e below (s₁.setTop (mkF m 7 #[.val (.ref a1), .val (.int (0 : Int32))] [])) _
    refine XS.aloadN X0.here hx rfl (hb hby d1_7) rfl rfl ?_
    show Steps p.tables e below (s₁.setTop (mkF m 8 #[.val (.ref a1), .val (.int (0 : Int32))] [(.ref a1)])) _
    refine XS.iloadN X0.here hx rfl (hb hby d1_8) rfl ?_
    show Steps p.tables e below (s₁.setTop (mkF m 9 #[.val (.ref a1), .val (.int (0 : Int32))] [(.int (0 : Int32)), (.ref a1)])) _
    refine X0.iaload hx (j := (0 : Int32)) (v := (.int e_a1_0)) (by rw [e0]; exact Ar1.1) (State.isArrayOf_alike hZ.alike Ar1.2.1) Ar1.2.2 hin1 hat1 (g := (mkF m 9 #[.val (.ref a1), .val (.int (0 : Int32))] [(.int (0 : Int32)), (.ref a1)])) rfl rfl (hb hby d1_9) _ ?_
    exact kt
  by_cases hc3 : e_a1_0 = (0 : Int32)
  · obtain ⟨cl4, Ar4, q4, S4, M4, H4, G4⟩ := id V_a1
    have hin4 : ¬ ((1 : Int32) < 0 ∨ cl4.slots.size ≤ ((1 : Int32)).toNatClampNeg) := inb_of S4 ⟨by decide, by decide⟩
    have hat4 : cl4.slots[((1 : Int32)).toNatClampNeg]? = some (.int e_a1_1) := Has.at H4 hin4 rfl
    have pre5 : ∀ t, Steps p.tables e below (s₁.setTop (mkF m 10 #[.val (.ref a1), .val (.int (1 : Int32))] [(.int e_a1_1)])) t → Steps p.tables e below (s₁.setTop (entryFrame m #[(.ref a1)] 2)) t := fun t kt => by
      refine pre2 t ?_
      show Steps p.tables e below (s₁.setTop (mkF m 10 #[.val (.ref a1), .val (.int (0 : Int32))] [(.int e_a1_0)])) _
      refine XS.ifYes X0.here hx rfl (pc0 := 10) (pc' := 17) rfl (hb hby d1_10) rfl ((if0 _ _).trans (teq hc3).1) (by decide) (by decide) ?_
      show Steps p.tables e below (s₁.setTop (mkF m 17 #[.val (.ref a1), .val (.int (0 : Int32))] [])) _
      refine XS.iinc X0.here hx rfl (hb hby d1_17) rfl (l' := #[.val (.ref a1), .val (.int (1 : Int32))]) rfl ?_
      show Steps p.tables e below (s₁.setTop (mkF m 20 #[.val (.ref a1), .val (.int (1 : Int32))] [])) _
      refine XS.goto X0.here hx rfl (pc0 := 20) (pc' := 2) rfl (hb hby d1_20) (by decide) (by decide) ?_
      show Steps p.tables e below (s₁.setTop (mkF m 2 #[.val (.ref a1), .val (.int (1 : Int32))] [])) _
      refine XS.iloadN X0.here hx rfl (hb hby d1_2) rfl ?_
      show Steps p.tables e below (s₁.setTop (mkF m 3 #[.val (.ref a1), .val (.int (1 : Int32))] [(.int (1 : Int32))])) _
      refine XS.iconst X0.here hx rfl (hb hby d1_3) ?_
      show Steps p.tables e below (s₁.setTop (mkF m 4 #[.val (.ref a1), .val (.int (1 : Int32))] [(.int (5 : Int32)), (.int (1 : Int32))])) _
      refine XS.icmpNo X0.here hx rfl (hb hby d1_4) rfl (tlt (by decide : (1 : Int32) < (5 : Int32))).2.1 ?_
      show Steps p.tables e below (s₁.setTop (mkF m 7 #[.val (.ref a1), .val (.int (1 : Int32))] [])) _
      refine XS.aloadN X0.here hx rfl (hb hby d1_7) rfl rfl ?_
      show Steps p.tables e below (s₁.setTop (mkF m 8 #[.val (.ref a1), .val (.int (1 : Int32))] [(.ref a1)])) _
      refine XS.iloadN X0.here hx rfl (hb hby d1_8) rfl ?_
      show Steps p.tables e below (s₁.setTop (mkF m 9 #[.val (.ref a1), .val (.int (1 : Int32))] [(.int (1 : Int32)), (.ref a1)])) _
      refine X0.iaload hx (j := (1 : Int32)) (v := (.int e_a1_1)) (by rw [e0]; exact Ar4.1) (State.isArrayOf_alike hZ.alike Ar4.2.1) Ar4.2.2 hin4 hat4 (g := (mkF m 9 #[.val (.ref a1), .val (.int (1 : Int32))] [(.int (1 : Int32)), (.ref a1)])) rfl rfl (hb hby d1_9) _ ?_
      exact kt
    by_cases hc6 : e_a1_1 = (0 : Int32)
    · obtain ⟨cl7, Ar7, q7, S7, M7, H7, G7⟩ := id V_a1
      have hin7 : ¬ ((2 : Int32) < 0 ∨ cl7.slots.size ≤ ((2 : Int32)).toNatClampNeg) := inb_of S7 ⟨by decide, by decide⟩
      have hat7 : cl7.slots[((2 : Int32)).toNatClampNeg]? = some (.int e_a1_2) := Has.at H7 hin7 rfl
      have pre8 : ∀ t, Steps p.tables e below (s₁.setTop (mkF m 10 #[.val (.ref a1), .val (.int (2 : Int32))] [(.int e_a1_2)])) t → Steps p.tables e below (s₁.setTop (entryFrame m #[(.ref a1)] 2)) t := fun t kt => by
        refine pre5 t ?_
        show Steps p.tables e below (s₁.setTop (mkF m 10 #[.val (.ref a1), .val (.int (1 : Int32))] [(.int e_a1_1)])) _
        refine XS.ifYes X0.here hx rfl (pc0 := 10) (pc' := 17) rfl (hb hby d1_10) rfl ((if0 _ _).trans (teq hc6).1) (by decide) (by decide) ?_
        show Steps p.tables e below (s₁.setTop (mkF m 17 #[.val (.ref a1), .val (.int (1 : Int32))] [])) _
        refine XS.iinc X0.here hx rfl (hb hby d1_17) rfl (l' := #[.val (.ref a1), .val (.int (2 : Int32))]) rfl ?_
        show Steps p.tables e below (s₁.setTop (mkF m 20 #[.val (.ref a1), .val (.int (2 : Int32))] [])) _
        refine XS.goto X0.here hx rfl (pc0 := 20) (pc' := 2) rfl (hb hby d1_20) (by decide) (by decide) ?_
        show Steps p.tables e below (s₁.setTop (mkF m 2 #[.val (.ref a1), .val (.int (2 : Int32))] [])) _
        refine XS.iloadN X0.here hx rfl (hb hby d1_2) rfl ?_
        show Steps p.tables e below (s₁.setTop (mkF m 3 #[.val (.ref a1), .val (.int (2 : Int32))] [(.int (2 : Int32))])) _
        refine XS.iconst X0.here hx rfl (hb hby d1_3) ?_
        show Steps p.tables e below (s₁.setTop (mkF m 4 #[.val (.ref a1), .val (.int (2 : Int32))] [(.int (5 : Int32)), (.int (2 : Int32))])) _
        refine XS.icmpNo X0.here hx rfl (hb hby d1_4) rfl (tlt (by decide : (2 : Int32) < (5 : Int32))).2.1 ?_
        show Steps p.tables e below (s₁.setTop (mkF m 7 #[.val (.ref a1), .val (.int (2 : Int32))] [])) _
        refine XS.aloadN X0.here hx rfl (hb hby d1_7) rfl rfl ?_
        show Steps p.tables e below (s₁.setTop (mkF m 8 #[.val (.ref a1), .val (.int (2 : Int32))] [(.ref a1)])) _
        refine XS.iloadN X0.here hx rfl (hb hby d1_8) rfl ?_
        show Steps p.tables e below (s₁.setTop (mkF m 9 #[.val (.ref a1), .val (.int (2 : Int32))] [(.int (2 : Int32)), (.ref a1)])) _
        refine X0.iaload hx (j := (2 : Int32)) (v := (.int e_a1_2)) (by rw [e0]; exact Ar7.1) (State.isArrayOf_alike hZ.alike Ar7.2.1) Ar7.2.2 hin7 hat7 (g := (mkF m 9 #[.val (.ref a1), .val (.int (2 : Int32))] [(.int (2 : Int32)), (.ref a1)])) rfl rfl (hb hby d1_9) _ ?_
        exact kt
      by_cases hc9 : e_a1_2 = (0 : Int32)
      · obtain ⟨cl10, Ar10, q10, S10, M10, H10, G10⟩ := id V_a1
        have hin10 : ¬ ((3 : Int32) < 0 ∨ cl10.slots.size ≤ ((3 : Int32)).toNatClampNeg) := inb_of S10 ⟨by decide, by decide⟩
        have hat10 : cl10.slots[((3 : Int32)).toNatClampNeg]? = some (.int e_a1_3) := Has.at H10 hin10 rfl
        have pre11 : ∀ t, Steps p.tables e below (s₁.setTop (mkF m 10 #[.val (.ref a1), .val (.int (3 : Int32))] [(.int e_a1_3)])) t → Steps p.tables e below (s₁.setTop (entryFrame m #[(.ref a1)] 2)) t := fun t kt => by
          refine pre8 t ?_
          show Steps p.tables e below (s₁.setTop (mkF m 10 #[.val (.ref a1), .val (.int (2 : Int32))] [(.int e_a1_2)])) _
          refine XS.ifYes X0.here hx rfl (pc0 := 10) (pc' := 17) rfl (hb hby d1_10) rfl ((if0 _ _).trans (teq hc9).1) (by decide) (by decide) ?_
          show Steps p.tables e below (s₁.setTop (mkF m 17 #[.val (.ref a1), .val (.int (2 : Int32))] [])) _
          refine XS.iinc X0.here hx rfl (hb hby d1_17) rfl (l' := #[.val (.ref a1), .val (.int (3 : Int32))]) rfl ?_
          show Steps p.tables e below (s₁.setTop (mkF m 20 #[.val (.ref a1), .val (.int (3 : Int32))] [])) _
          refine XS.goto X0.here hx rfl (pc0 := 20) (pc' := 2) rfl (hb hby d1_20) (by decide) (by decide) ?_
          show Steps p.tables e below (s₁.setTop (mkF m 2 #[.val (.ref a1), .val (.int (3 : Int32))] [])) _
          refine XS.iloadN X0.here hx rfl (hb hby d1_2) rfl ?_
          show Steps p.tables e below (s₁.setTop (mkF m 3 #[.val (.ref a1), .val (.int (3 : Int32))] [(.int (3 : Int32))])) _
          refine XS.iconst X0.here hx rfl (hb hby d1_3) ?_
          show Steps p.tables e below (s₁.setTop (mkF m 4 #[.val (.ref a1), .val (.int (3 : Int32))] [(.int (5 : Int32)), (.int (3 : Int32))])) _
          refine XS.icmpNo X0.here hx rfl (hb hby d1_4) rfl (tlt (by decide : (3 : Int32) < (5 : Int32))).2.1 ?_
          show Steps p.tables e below (s₁.setTop (mkF m 7 #[.val (.ref a1), .val (.int (3 : Int32))] [])) _
          refine XS.aloadN X0.here hx rfl (hb hby d1_7) rfl rfl ?_
          show Steps p.tables e below (s₁.setTop (mkF m 8 #[.val (.ref a1), .val (.int (3 : Int32))] [(.ref a1)])) _
          refine XS.iloadN X0.here hx rfl (hb hby d1_8) rfl ?_
          show Steps p.tables e below (s₁.setTop (mkF m 9 #[.val (.ref a1), .val (.int (3 : Int32))] [(.int (3 : Int32)), (.ref a1)])) _
          refine X0.iaload hx (j := (3 : Int32)) (v := (.int e_a1_3)) (by rw [e0]; exact Ar10.1) (State.isArrayOf_alike hZ.alike Ar10.2.1) Ar10.2.2 hin10 hat10 (g := (mkF m 9 #[.val (.ref a1), .val (.int (3 : Int32))] [(.int (3 : Int32)), (.ref a1)])) rfl rfl (hb hby d1_9) _ ?_
          exact kt
        by_cases hc12 : e_a1_3 = (0 : Int32)
        · obtain ⟨cl13, Ar13, q13, S13, M13, H13, G13⟩ := id V_a1
          have hin13 : ¬ ((4 : Int32) < 0 ∨ cl13.slots.size ≤ ((4 : Int32)).toNatClampNeg) := inb_of S13 ⟨by decide, by decide⟩
          have hat13 : cl13.slots[((4 : Int32)).toNatClampNeg]? = some (.int e_a1_4) := Has.at H13 hin13 rfl
          have pre14 : ∀ t, Steps p.tables e below (s₁.setTop (mkF m 10 #[.val (.ref a1), .val (.int (4 : Int32))] [(.int e_a1_4)])) t → Steps p.tables e below (s₁.setTop (entryFrame m #[(.ref a1)] 2)) t := fun t kt => by
            refine pre11 t ?_
            show Steps p.tables e below (s₁.setTop (mkF m 10 #[.val (.ref a1), .val (.int (3 : Int32))] [(.int e_a1_3)])) _
            refine XS.ifYes X0.here hx rfl (pc0 := 10) (pc' := 17) rfl (hb hby d1_10) rfl ((if0 _ _).trans (teq hc12).1) (by decide) (by decide) ?_
            show Steps p.tables e below (s₁.setTop (mkF m 17 #[.val (.ref a1), .val (.int (3 : Int32))] [])) _
            refine XS.iinc X0.here hx rfl (hb hby d1_17) rfl (l' := #[.val (.ref a1), .val (.int (4 : Int32))]) rfl ?_
            show Steps p.tables e below (s₁.setTop (mkF m 20 #[.val (.ref a1), .val (.int (4 : Int32))] [])) _
            refine XS.goto X0.here hx rfl (pc0 := 20) (pc' := 2) rfl (hb hby d1_20) (by decide) (by decide) ?_
            show Steps p.tables e below (s₁.setTop (mkF m 2 #[.val (.ref a1), .val (.int (4 : Int32))] [])) _
            refine XS.iloadN X0.here hx rfl (hb hby d1_2) rfl ?_
            show Steps p.tables e below (s₁.setTop (mkF m 3 #[.val (.ref a1), .val (.int (4 : Int32))] [(.int (4 : Int32))])) _
            refine XS.iconst X0.here hx rfl (hb hby d1_3) ?_
            show Steps p.tables e below (s₁.setTop (mkF m 4 #[.val (.ref a1), .val (.int (4 : Int32))] [(.int (5 : Int32)), (.int (4 : Int32))])) _
            refine XS.icmpNo X0.here hx rfl (hb hby d1_4) rfl (tlt (by decide : (4 : Int32) < (5 : Int32))).2.1 ?_
            show Steps p.tables e below (s₁.setTop (mkF m 7 #[.val (.ref a1), .val (.int (4 : Int32))] [])) _
            refine XS.aloadN X0.here hx rfl (hb hby d1_7) rfl rfl ?_
            show Steps p.tables e below (s₁.setTop (mkF m 8 #[.val (.ref a1), .val (.int (4 : Int32))] [(.ref a1)])) _
            refine XS.iloadN X0.here hx rfl (hb hby d1_8) rfl ?_
            show Steps p.tables e below (s₁.setTop (mkF m 9 #[.val (.ref a1), .val (.int (4 : Int32))] [(.int (4 : Int32)), (.ref a1)])) _
            refine X0.iaload hx (j := (4 : Int32)) (v := (.int e_a1_4)) (by rw [e0]; exact Ar13.1) (State.isArrayOf_alike hZ.alike Ar13.2.1) Ar13.2.2 hin13 hat13 (g := (mkF m 9 #[.val (.ref a1), .val (.int (4 : Int32))] [(.int (4 : Int32)), (.ref a1)])) rfl rfl (hb hby d1_9) _ ?_
            exact kt
          by_cases hc15 : e_a1_4 = (0 : Int32)
          · obtain ⟨cl16, Ar16, q16, S16, M16, H16, G16⟩ := id V_a1
            have hin16 : ¬ ((5 : Int32) < 0 ∨ cl16.slots.size ≤ ((5 : Int32)).toNatClampNeg) := inb_of S16 ⟨by decide, by decide⟩
            have hat16 : cl16.slots[((5 : Int32)).toNatClampNeg]? = some (.int e_a1_5) := Has.at H16 hin16 rfl
            have pre17 : ∀ t, Steps p.tables e below (s₁.setTop (mkF m 28 #[.val (.ref a1), .val (.int (5 : Int32))] [(.int (65535 : Int32)), (.int e_a1_5)])) t → Steps p.tables e below (s₁.setTop (entryFrame m #[(.ref a1)] 2)) t := fun t kt => by
              refine pre14 t ?_
              show Steps p.tables e below (s₁.setTop (mkF m 10 #[.val (.ref a1), .val (.int (4 : Int32))] [(.int e_a1_4)])) _
              refine XS.ifYes X0.here hx rfl (pc0 := 10) (pc' := 17) rfl (hb hby d1_10) rfl ((if0 _ _).trans (teq hc15).1) (by decide) (by decide) ?_
              show Steps p.tables e below (s₁.setTop (mkF m 17 #[.val (.ref a1), .val (.int (4 : Int32))] [])) _
              refine XS.iinc X0.here hx rfl (hb hby d1_17) rfl (l' := #[.val (.ref a1), .val (.int (5 : Int32))]) rfl ?_
              show Steps p.tables e below (s₁.setTop (mkF m 20 #[.val (.ref a1), .val (.int (5 : Int32))] [])) _
              refine XS.goto X0.here hx rfl (pc0 := 20) (pc' := 2) rfl (hb hby d1_20) (by decide) (by decide) ?_
              show Steps p.tables e below (s₁.setTop (mkF m 2 #[.val (.ref a1), .val (.int (5 : Int32))] [])) _
              refine XS.iloadN X0.here hx rfl (hb hby d1_2) rfl ?_
              show Steps p.tables e below (s₁.setTop (mkF m 3 #[.val (.ref a1), .val (.int (5 : Int32))] [(.int (5 : Int32))])) _
              refine XS.iconst X0.here hx rfl (hb hby d1_3) ?_
              show Steps p.tables e below (s₁.setTop (mkF m 4 #[.val (.ref a1), .val (.int (5 : Int32))] [(.int (5 : Int32)), (.int (5 : Int32))])) _
              refine XS.icmpYes X0.here hx rfl (pc0 := 4) (pc' := 23) rfl (hb hby d1_4) rfl (flt (by decide : ¬ ((5 : Int32) < (5 : Int32)))).2.1 (by decide) (by decide) ?_
              show Steps p.tables e below (s₁.setTop (mkF m 23 #[.val (.ref a1), .val (.int (5 : Int32))] [])) _
              refine XS.aloadN X0.here hx rfl (hb hby d1_23) rfl rfl ?_
              show Steps p.tables e below (s₁.setTop (mkF m 24 #[.val (.ref a1), .val (.int (5 : Int32))] [(.ref a1)])) _
              refine XS.iconst X0.here hx rfl (hb hby d1_24) ?_
              show Steps p.tables e below (s₁.setTop (mkF m 25 #[.val (.ref a1), .val (.int (5 : Int32))] [(.int (5 : Int32)), (.ref a1)])) _
              refine X0.iaload hx (j := (5 : Int32)) (v := (.int e_a1_5)) (by rw [e0]; exact Ar16.1) (State.isArrayOf_alike hZ.alike Ar16.2.1) Ar16.2.2 hin16 hat16 (g := (mkF m 25 #[.val (.ref a1), .val (.int (5 : Int32))] [(.int (5 : Int32)), (.ref a1)])) rfl rfl (hb hby d1_25) _ ?_
              show Steps p.tables e below (s₁.setTop (mkF m 26 #[.val (.ref a1), .val (.int (5 : Int32))] [(.int e_a1_5)])) _
              refine X0.ldcInt hx hown (mvT hZ (hw _ (List.mem_of_getElem? (i := 9) rfl))) (g := (mkF m 26 #[.val (.ref a1), .val (.int (5 : Int32))] [(.int e_a1_5)])) rfl (hb hby d1_26) _ ?_
              exact kt
            by_cases hc18 : e_a1_5 = (65535 : Int32)
            · obtain ⟨cl19, Ar19, q19, S19, M19, H19, G19⟩ := id V_a1
              have hin19 : ¬ ((6 : Int32) < 0 ∨ cl19.slots.size ≤ ((6 : Int32)).toNatClampNeg) := inb_of S19 ⟨by decide, by decide⟩
              have hat19 : cl19.slots[((6 : Int32)).toNatClampNeg]? = some (.int e_a1_6) := Has.at H19 hin19 rfl
              obtain ⟨cl20, Ar20, q20, S20, M20, H20, G20⟩ := id V_a1
              have hin20 : ¬ ((7 : Int32) < 0 ∨ cl20.slots.size ≤ ((7 : Int32)).toNatClampNeg) := inb_of S20 ⟨by decide, by decide⟩
              have hat20 : cl20.slots[((7 : Int32)).toNatClampNeg]? = some (.int e_a1_7) := Has.at H20 hin20 rfl
              obtain ⟨fs, hr, hrun, hended, hW, hsame⟩ := X0.leave (v := some (.long (((e_a1_6.toInt64) <<< ((16 : Int32) &&& 0x3f).toInt64) ||| (e_a1_7.toInt64)))) (fun h => by rw [Bd.returns] at h; cases h)
              refine ⟨_, _, pre17 _ ?_, hrun, hended, _, _, rfl, ?_, ⟨_, rfl⟩, hW, hsame.mono (by decide) (by decide)⟩
              · show Steps p.tables e below (s₁.setTop (mkF m 28 #[.val (.ref a1), .val (.int (5 : Int32))] [(.int (65535 : Int32)), (.int e_a1_5)])) _
                refine XS.icmpNo X0.here hx rfl (hb hby d1_28) rfl (teq hc18).2 ?_
                show Steps p.tables e below (s₁.setTop (mkF m 31 #[.val (.ref a1), .val (.int (5 : Int32))] [])) _
                refine XS.aloadN X0.here hx rfl (hb hby d1_31) rfl rfl ?_
                show Steps p.tables e below (s₁.setTop (mkF m 32 #[.val (.ref a1), .val (.int (5 : Int32))] [(.ref a1)])) _
                refine XS.bipush X0.here hx rfl (hb hby d1_32) ?_
                show Steps p.tables e below (s₁.setTop (mkF m 34 #[.val (.ref a1), .val (.int (5 : Int32))] [(.int (6 : Int32)), (.ref a1)])) _
                refine X0.iaload hx (j := (6 : Int32)) (v := (.int e_a1_6)) (by rw [e0]; exact Ar19.1) (State.isArrayOf_alike hZ.alike Ar19.2.1) Ar19.2.2 hin19 hat19 (g := (mkF m 34 #[.val (.ref a1), .val (.int (5 : Int32))] [(.int (6 : Int32)), (.ref a1)])) rfl rfl (hb hby d1_34) _ ?_
                show Steps p.tables e below (s₁.setTop (mkF m 35 #[.val (.ref a1), .val (.int (5 : Int32))] [(.int e_a1_6)])) _
                refine XS.i2l X0.here hx rfl (hb hby d1_35) rfl ?_
                show Steps p.tables e below (s₁.setTop (mkF m 36 #[.val (.ref a1), .val (.int (5 : Int32))] [(.long (e_a1_6.toInt64))])) _
                refine XS.bipush X0.here hx rfl (hb hby d1_36) ?_
                show Steps p.tables e below (s₁.setTop (mkF m 38 #[.val (.ref a1), .val (.int (5 : Int32))] [(.int (16 : Int32)), (.long (e_a1_6.toInt64))])) _
                refine XS.lshl X0.here hx rfl (hb hby d1_38) rfl ?_
                show Steps p.tables e below (s₁.setTop (mkF m 39 #[.val (.ref a1), .val (.int (5 : Int32))] [(.long ((e_a1_6.toInt64) <<< ((16 : Int32) &&& 0x3f).toInt64))])) _
                refine XS.aloadN X0.here hx rfl (hb hby d1_39) rfl rfl ?_
                show Steps p.tables e below (s₁.setTop (mkF m 40 #[.val (.ref a1), .val (.int (5 : Int32))] [(.ref a1), (.long ((e_a1_6.toInt64) <<< ((16 : Int32) &&& 0x3f).toInt64))])) _
                refine XS.bipush X0.here hx rfl (hb hby d1_40) ?_
                show Steps p.tables e below (s₁.setTop (mkF m 42 #[.val (.ref a1), .val (.int (5 : Int32))] [(.int (7 : Int32)), (.ref a1), (.long ((e_a1_6.toInt64) <<< ((16 : Int32) &&& 0x3f).toInt64))])) _
                refine X0.iaload hx (j := (7 : Int32)) (v := (.int e_a1_7)) (by rw [e0]; exact Ar20.1) (State.isArrayOf_alike hZ.alike Ar20.2.1) Ar20.2.2 hin20 hat20 (g := (mkF m 42 #[.val (.ref a1), .val (.int (5 : Int32))] [(.int (7 : Int32)), (.ref a1), (.long ((e_a1_6.toInt64) <<< ((16 : Int32) &&& 0x3f).toInt64))])) rfl rfl (hb hby d1_42) _ ?_
                show Steps p.tables e below (s₁.setTop (mkF m 43 #[.val (.ref a1), .val (.int (5 : Int32))] [(.int e_a1_7), (.long ((e_a1_6.toInt64) <<< ((16 : Int32) &&& 0x3f).toInt64))])) _
                refine XS.i2l X0.here hx rfl (hb hby d1_43) rfl ?_
                show Steps p.tables e below (s₁.setTop (mkF m 44 #[.val (.ref a1), .val (.int (5 : Int32))] [(.long (e_a1_7.toInt64)), (.long ((e_a1_6.toInt64) <<< ((16 : Int32) &&& 0x3f).toInt64))])) _
                refine XS.lor X0.here hx rfl (hb hby d1_44) rfl ?_
                show Steps p.tables e below (s₁.setTop (mkF m 45 #[.val (.ref a1), .val (.int (5 : Int32))] [(.long (((e_a1_6.toInt64) <<< ((16 : Int32) &&& 0x3f).toInt64) ||| (e_a1_7.toInt64)))])) _
                refine XS.goto X0.here hx rfl (pc0 := 45) (pc' := 51) rfl (hb hby d1_45) (by decide) (by decide) ?_
                show Steps p.tables e below (s₁.setTop (mkF m 51 #[.val (.ref a1), .val (.int (5 : Int32))] [(.long (((e_a1_6.toInt64) <<< ((16 : Int32) &&& 0x3f).toInt64) ||| (e_a1_7.toInt64)))])) _
                exact lreturnOut X0 hx Bd.returns (hb hby d1_51) hr
              · show Q1 Z a1 k_a1 e_a1_0 e_a1_1 e_a1_2 e_a1_3 e_a1_4 e_a1_5 e_a1_6 e_a1_7 h0 n0 _ s₁.heap _
                rw [e0]
                refine ⟨?_, N0, rfl⟩
                show (some (.long (((e_a1_6.toInt64) <<< ((16 : Int32) &&& 0x3f).toInt64) ||| (e_a1_7.toInt64))) : Option Value) = some (.long (F1 e_a1_0 e_a1_1 e_a1_2 e_a1_3 e_a1_4 e_a1_5 e_a1_6 e_a1_7))
                rw [F1, if_pos hc3, if_pos hc6, if_pos hc9, if_pos hc12, if_pos hc15, if_pos hc18]
            · obtain ⟨fs, hr, hrun, hended, hW, hsame⟩ := X0.leave (v := some (.long (-1 : Int64))) (fun h => by rw [Bd.returns] at h; cases h)
              refine ⟨_, _, pre17 _ ?_, hrun, hended, _, _, rfl, ?_, ⟨_, rfl⟩, hW, hsame.mono (by decide) (by decide)⟩
              · show Steps p.tables e below (s₁.setTop (mkF m 28 #[.val (.ref a1), .val (.int (5 : Int32))] [(.int (65535 : Int32)), (.int e_a1_5)])) _
                refine XS.icmpYes X0.here hx rfl (pc0 := 28) (pc' := 48) rfl (hb hby d1_28) rfl (feq hc18).2 (by decide) (by decide) ?_
                show Steps p.tables e below (s₁.setTop (mkF m 48 #[.val (.ref a1), .val (.int (5 : Int32))] [])) _
                refine X0.ldc2Long hx hown (mvT hZ (hw _ (List.mem_of_getElem? (i := 7) rfl))) (g := (mkF m 48 #[.val (.ref a1), .val (.int (5 : Int32))] [])) rfl (hb hby d1_48) _ ?_
                show Steps p.tables e below (s₁.setTop (mkF m 51 #[.val (.ref a1), .val (.int (5 : Int32))] [(.long (-1 : Int64))])) _
                exact lreturnOut X0 hx Bd.returns (hb hby d1_51) hr
              · show Q1 Z a1 k_a1 e_a1_0 e_a1_1 e_a1_2 e_a1_3 e_a1_4 e_a1_5 e_a1_6 e_a1_7 h0 n0 _ s₁.heap _
                rw [e0]
                refine ⟨?_, N0, rfl⟩
                show (some (.long (-1 : Int64)) : Option Value) = some (.long (F1 e_a1_0 e_a1_1 e_a1_2 e_a1_3 e_a1_4 e_a1_5 e_a1_6 e_a1_7))
                rw [F1, if_pos hc3, if_pos hc6, if_pos hc9, if_pos hc12, if_pos hc15, if_neg hc18]
          · obtain ⟨fs, hr, hrun, hended, hW, hsame⟩ := X0.leave (v := some (.long (-1 : Int64))) (fun h => by rw [Bd.returns] at h; cases h)
            refine ⟨_, _, pre14 _ ?_, hrun, hended, _, _, rfl, ?_, ⟨_, rfl⟩, hW, hsame.mono (by decide) (by decide)⟩
            · show Steps p.tables e below (s₁.setTop (mkF m 10 #[.val (.ref a1), .val (.int (4 : Int32))] [(.int e_a1_4)])) _
              refine XS.ifNo X0.here hx rfl (hb hby d1_10) rfl ((if0 _ _).trans (feq hc15).1) ?_
              show Steps p.tables e below (s₁.setTop (mkF m 13 #[.val (.ref a1), .val (.int (4 : Int32))] [])) _
              refine X0.ldc2Long hx hown (mvT hZ (hw _ (List.mem_of_getElem? (i := 7) rfl))) (g := (mkF m 13 #[.val (.ref a1), .val (.int (4 : Int32))] [])) rfl (hb hby d1_13) _ ?_
              show Steps p.tables e below (s₁.setTop (mkF m 16 #[.val (.ref a1), .val (.int (4 : Int32))] [(.long (-1 : Int64))])) _
              exact lreturnOut X0 hx Bd.returns (hb hby d1_16) hr
            · show Q1 Z a1 k_a1 e_a1_0 e_a1_1 e_a1_2 e_a1_3 e_a1_4 e_a1_5 e_a1_6 e_a1_7 h0 n0 _ s₁.heap _
              rw [e0]
              refine ⟨?_, N0, rfl⟩
              show (some (.long (-1 : Int64)) : Option Value) = some (.long (F1 e_a1_0 e_a1_1 e_a1_2 e_a1_3 e_a1_4 e_a1_5 e_a1_6 e_a1_7))
              rw [F1, if_pos hc3, if_pos hc6, if_pos hc9, if_pos hc12, if_neg hc15]
        · obtain ⟨fs, hr, hrun, hended, hW, hsame⟩ := X0.leave (v := some (.long (-1 : Int64))) (fun h => by rw [Bd.returns] at h; cases h)
          refine ⟨_, _, pre11 _ ?_, hrun, hended, _, _, rfl, ?_, ⟨_, rfl⟩, hW, hsame.mono (by decide) (by decide)⟩
          · show Steps p.tables e below (s₁.setTop (mkF m 10 #[.val (.ref a1), .val (.int (3 : Int32))] [(.int e_a1_3)])) _
            refine XS.ifNo X0.here hx rfl (hb hby d1_10) rfl ((if0 _ _).trans (feq hc12).1) ?_
            show Steps p.tables e below (s₁.setTop (mkF m 13 #[.val (.ref a1), .val (.int (3 : Int32))] [])) _
            refine X0.ldc2Long hx hown (mvT hZ (hw _ (List.mem_of_getElem? (i := 7) rfl))) (g := (mkF m 13 #[.val (.ref a1), .val (.int (3 : Int32))] [])) rfl (hb hby d1_13) _ ?_
            show Steps p.tables e below (s₁.setTop (mkF m 16 #[.val (.ref a1), .val (.int (3 : Int32))] [(.long (-1 : Int64))])) _
            exact lreturnOut X0 hx Bd.returns (hb hby d1_16) hr
          · show Q1 Z a1 k_a1 e_a1_0 e_a1_1 e_a1_2 e_a1_3 e_a1_4 e_a1_5 e_a1_6 e_a1_7 h0 n0 _ s₁.heap _
            rw [e0]
            refine ⟨?_, N0, rfl⟩
            show (some (.long (-1 : Int64)) : Option Value) = some (.long (F1 e_a1_0 e_a1_1 e_a1_2 e_a1_3 e_a1_4 e_a1_5 e_a1_6 e_a1_7))
            rw [F1, if_pos hc3, if_pos hc6, if_pos hc9, if_neg hc12]
      · obtain ⟨fs, hr, hrun, hended, hW, hsame⟩ := X0.leave (v := some (.long (-1 : Int64))) (fun h => by rw [Bd.returns] at h; cases h)
        refine ⟨_, _, pre8 _ ?_, hrun, hended, _, _, rfl, ?_, ⟨_, rfl⟩, hW, hsame.mono (by decide) (by decide)⟩
        · show Steps p.tables e below (s₁.setTop (mkF m 10 #[.val (.ref a1), .val (.int (2 : Int32))] [(.int e_a1_2)])) _
          refine XS.ifNo X0.here hx rfl (hb hby d1_10) rfl ((if0 _ _).trans (feq hc9).1) ?_
          show Steps p.tables e below (s₁.setTop (mkF m 13 #[.val (.ref a1), .val (.int (2 : Int32))] [])) _
          refine X0.ldc2Long hx hown (mvT hZ (hw _ (List.mem_of_getElem? (i := 7) rfl))) (g := (mkF m 13 #[.val (.ref a1), .val (.int (2 : Int32))] [])) rfl (hb hby d1_13) _ ?_
          show Steps p.tables e below (s₁.setTop (mkF m 16 #[.val (.ref a1), .val (.int (2 : Int32))] [(.long (-1 : Int64))])) _
          exact lreturnOut X0 hx Bd.returns (hb hby d1_16) hr
        · show Q1 Z a1 k_a1 e_a1_0 e_a1_1 e_a1_2 e_a1_3 e_a1_4 e_a1_5 e_a1_6 e_a1_7 h0 n0 _ s₁.heap _
          rw [e0]
          refine ⟨?_, N0, rfl⟩
          show (some (.long (-1 : Int64)) : Option Value) = some (.long (F1 e_a1_0 e_a1_1 e_a1_2 e_a1_3 e_a1_4 e_a1_5 e_a1_6 e_a1_7))
          rw [F1, if_pos hc3, if_pos hc6, if_neg hc9]
    · obtain ⟨fs, hr, hrun, hended, hW, hsame⟩ := X0.leave (v := some (.long (-1 : Int64))) (fun h => by rw [Bd.returns] at h; cases h)
      refine ⟨_, _, pre5 _ ?_, hrun, hended, _, _, rfl, ?_, ⟨_, rfl⟩, hW, hsame.mono (by decide) (by decide)⟩
      · show Steps p.tables e below (s₁.setTop (mkF m 10 #[.val (.ref a1), .val (.int (1 : Int32))] [(.int e_a1_1)])) _
        refine XS.ifNo X0.here hx rfl (hb hby d1_10) rfl ((if0 _ _).trans (feq hc6).1) ?_
        show Steps p.tables e below (s₁.setTop (mkF m 13 #[.val (.ref a1), .val (.int (1 : Int32))] [])) _
        refine X0.ldc2Long hx hown (mvT hZ (hw _ (List.mem_of_getElem? (i := 7) rfl))) (g := (mkF m 13 #[.val (.ref a1), .val (.int (1 : Int32))] [])) rfl (hb hby d1_13) _ ?_
        show Steps p.tables e below (s₁.setTop (mkF m 16 #[.val (.ref a1), .val (.int (1 : Int32))] [(.long (-1 : Int64))])) _
        exact lreturnOut X0 hx Bd.returns (hb hby d1_16) hr
      · show Q1 Z a1 k_a1 e_a1_0 e_a1_1 e_a1_2 e_a1_3 e_a1_4 e_a1_5 e_a1_6 e_a1_7 h0 n0 _ s₁.heap _
        rw [e0]
        refine ⟨?_, N0, rfl⟩
        show (some (.long (-1 : Int64)) : Option Value) = some (.long (F1 e_a1_0 e_a1_1 e_a1_2 e_a1_3 e_a1_4 e_a1_5 e_a1_6 e_a1_7))
        rw [F1, if_pos hc3, if_neg hc6]
  · obtain ⟨fs, hr, hrun, hended, hW, hsame⟩ := X0.leave (v := some (.long (-1 : Int64))) (fun h => by rw [Bd.returns] at h; cases h)
    refine ⟨_, _, pre2 _ ?_, hrun, hended, _, _, rfl, ?_, ⟨_, rfl⟩, hW, hsame.mono (by decide) (by decide)⟩
    · show Steps p.tables e below (s₁.setTop (mkF m 10 #[.val (.ref a1), .val (.int (0 : Int32))] [(.int e_a1_0)])) _
      refine XS.ifNo X0.here hx rfl (hb hby d1_10) rfl ((if0 _ _).trans (feq hc3).1) ?_
      show Steps p.tables e below (s₁.setTop (mkF m 13 #[.val (.ref a1), .val (.int (0 : Int32))] [])) _
      refine X0.ldc2Long hx hown (mvT hZ (hw _ (List.mem_of_getElem? (i := 7) rfl))) (g := (mkF m 13 #[.val (.ref a1), .val (.int (0 : Int32))] [])) rfl (hb hby d1_13) _ ?_
      show Steps p.tables e below (s₁.setTop (mkF m 16 #[.val (.ref a1), .val (.int (0 : Int32))] [(.long (-1 : Int64))])) _
      exact lreturnOut X0 hx Bd.returns (hb hby d1_16) hr
    · show Q1 Z a1 k_a1 e_a1_0 e_a1_1 e_a1_2 e_a1_3 e_a1_4 e_a1_5 e_a1_6 e_a1_7 h0 n0 _ s₁.heap _
      rw [e0]
      refine ⟨?_, N0, rfl⟩
      show (some (.long (-1 : Int64)) : Option Value) = some (.long (F1 e_a1_0 e_a1_1 e_a1_2 e_a1_3 e_a1_4 e_a1_5 e_a1_6 e_a1_7))
      rw [F1, if_neg hc3]
theorem pn_0 : plainName "com/example/fenceline/fenceline/url/IpAddressMappedIpv4PinLaw" = true := by first | (simp [plainName, overriddenIn]; done) | decide +kernel
theorem pd_0_0 : parseMethodDescriptor "([I)J" = some ⟨[(.array .int)], some .long⟩ := by decide +kernel
theorem ef_0 (m : MethodId) (p1 : Int32) (p2 : Int32) (p3 : Int32) (p4 : Int32) (p5 : Int32) : entryFrame m #[(.int p1), (.int p2), (.int p3), (.int p4), (.int p5)] maxLocals = mkF m 0 #[.val (.int p1), .val (.int p2), .val (.int p3), .val (.int p4), .val (.int p5), .unset, .unset, .unset, .unset, .unset, .unset] [] := by first | (simp [entryFrame, mkF, argsToLocals, Value.category, maxLocals]; done) | rfl
set_option maxRecDepth 65536 in
set_option maxHeartbeats 40000000 in
theorem leaf_0_2 (p1 : Int32) (p2 : Int32) (p3 : Int32) (p4 : Int32) (p5 : Int32) (v5 : Int32) (hv5 : v5 = (if (p5 &&& (1 : Int32)) = (0 : Int32) then (p1 &&& (65535 : Int32)) else (0 : Int32))) (v10 : Int32) (hv10 : v10 = (if (p5 &&& (2 : Int32)) = (0 : Int32) then ((p1.toUInt32 >>> ((16 : Int32) &&& 31).toUInt32).toInt32) else (0 : Int32))) (v15 : Int32) (hv15 : v15 = (if (p5 &&& (4 : Int32)) = (0 : Int32) then (p2 &&& (65535 : Int32)) else (0 : Int32))) (v20 : Int32) (hv20 : v20 = (if (p5 &&& (8 : Int32)) = (0 : Int32) then ((p2.toUInt32 >>> ((16 : Int32) &&& 31).toUInt32).toInt32) else (0 : Int32))) (v25 : Int32) (hv25 : v25 = (if (p5 &&& (16 : Int32)) = (0 : Int32) then (p3 &&& (65535 : Int32)) else (0 : Int32))) (v30 : Int32) (hv30 : v30 = (if (p5 &&& (32 : Int32)) = (0 : Int32) then ((p3.toUInt32 >>> ((16 : Int32) &&& 31).toUInt32).toInt32) else (65535 : Int32))) (v53 : Int32) (hv53 : v53 = (if v5 = (0 : Int32) then (if v10 = (0 : Int32) then (if v15 = (0 : Int32) then (if v20 = (0 : Int32) then (if v25 = (0 : Int32) then (if v30 = (65535 : Int32) then (1 : Int32) else (0 : Int32)) else (0 : Int32)) else (0 : Int32)) else (0 : Int32)) else (0 : Int32)) else (0 : Int32))) (v59 : Int64) (hv59 : v59 = (if v53 = (0 : Int32) then (-1 : Int64) else ((((p4 &&& (65535 : Int32)).toInt64) * (65536 : Int64)) + (((p4.toUInt32 >>> ((16 : Int32) &&& 31).toUInt32).toInt32).toInt64)))) (hc63 : ¬ ((lcmpW (F1 v5 v10 v15 v20 v25 v30 (p4 &&& (65535 : Int32)) ((p4.toUInt32 >>> ((16 : Int32) &&& 31).toUInt32).toInt32)) v59) = (0 : Int32))) : False := by
  refine hc63 ?_
  have m1 := Jvm.Kit.i32_mask p4 65535 (k := 16) (by decide) (by decide)
  have m2 := own_hi p4
  have L := own_lor (p4 &&& 65535) _ (by omega) m2
  have e : F1 v5 v10 v15 v20 v25 v30 (p4 &&& (65535 : Int32)) ((p4.toUInt32 >>> ((16 : Int32) &&& 31).toUInt32).toInt32) = v59 := by
    rw [F1, L, hv59, hv53]
    clear hv5 hv10 hv15 hv20 hv25 hv30 hv53 hv59 hc63
    repeat' split
    all_goals first | rfl | simp_all
  rw [e, own_lc]
def Q0 (Z : State) (p1 : Int32) (p2 : Int32) (p3 : Int32) (p4 : Int32) (p5 : Int32) (h0 : Heap) (n0 : Nat) (v : Option Value) (h : Heap) (L : List Loc) : Prop := v = some (.int (1 : Int32)) ∧ Fr n0 L
set_option maxRecDepth 65536 in
set_option maxHeartbeats 40000000 in
theorem rm0 (l : Launch) (Z : State) (a0 : Array Value) (hw : ∀ d ∈ tables_1, d.before a0 Z = true) (ws : List Jvm.Cond) (p1 : Int32) (p2 : Int32) (p3 : Int32) (p4 : Int32) (p5 : Int32) (h0 : Heap) (n0 : Nat) (Z0 : n0 ≤ h0.size) :
    MetFree l x (head1 (Jvm.Cond.code x code maxLocals ret :: ws) room_1) (fun a U => a = #[(.int p1), (.int p2), (.int p3), (.int p4), (.int p5)] ∧ Z.Warmed39 U.vm ∧ U.heap = h0) (fun _ _ _ _ _ => True) (fun _ U o U' => ∃ v L, o = .returned v ∧ Q0 Z p1 p2 p3 p4 p5 h0 n0 v U'.heap L ∧ FrameEnd U o U' L room_1.cells room_1.slots) := by
  refine MetFree.of_bodySF (plainFor_of_name pn_0) hisR ?_
  intro p e s m args below meth c s₁ Bd hml0 hP hK
  obtain ⟨rfl, hZ, hh⟩ := hP
  have hx := Bd.exec
  have hby := Bd.bytes
  have hml : c.maxLocals = 11 := hml0
  have hown : s.vm.findClass "com/example/fenceline/fenceline/url/IpAddressMappedIpv4PinLaw" = some m.cls := findClass_of_methodNamed Bd.named
  have hnm := (name_of_methodNamed Bd.named Bd.method).1
  have X0 : Stand p l e room_1 s m #[(.int p1), (.int p2), (.int p3), (.int p4), (.int p5)] below meth c s₁ [] 0 0 := Stand.of_body Bd
  have e0 : s₁.heap = h0 := by rw [← hh, Bd.state]; rfl
  have N0 := Fr.nil n0
  have pre0 : ∀ t, Steps p.tables e below (s₁.setTop (mkF m 0 #[.val (.int p1), .val (.int p2), .val (.int p3), .val (.int p4), .val (.int p5), .unset, .unset, .unset, .unset, .unset, .unset] [])) t → Steps p.tables e below (s₁.setTop (entryFrame m #[(.int p1), (.int p2), (.int p3), (.int p4), (.int p5)] maxLocals)) t := fun t k => castTop (ef_0 m p1 p2 p3 p4 p5) k
  obtain ⟨b1, g1⟩ : ∃ z, z = h0.size := ⟨_, rfl⟩
  obtain ⟨T1, h1, k1, X1, e1, E1, A1, st1⟩ := newP X0 hx hZ (hw _ (List.mem_of_getElem? (i := 0) rfl)) e0 (g := (mkF m 2 #[.val (.int p1), .val (.int p2), .val (.int p3), .val (.int p4), .val (.int p5), .unset, .unset, .unset, .unset, .unset, .unset] [(.int (8 : Int32))])) rfl (hb hby at_2) rfl (by decide) (cap := 8) (by decide) (by decide) (by decide) (by decide)
  rw [← g1] at A1 st1
  have g_b1 : n0 ≤ b1 := Nat.le_trans Z0 (Nat.le_of_eq g1.symm)
  have V1 : Arv Z h1 b1 k1 .int (8 : Int32) [(.int (0 : Int32)), (.int (0 : Int32)), (.int (0 : Int32)), (.int (0 : Int32)), (.int (0 : Int32)), (.int (0 : Int32)), (.int (0 : Int32)), (.int (0 : Int32))] (.int (0 : Int32)) := (Arv.new A1 (by decide)).pad (pad_rep [] (.int (0 : Int32)) 8)
  have pre2 : ∀ t, Steps p.tables e below (T1.setTop (mkF m 13 #[.val (.int p1), .val (.int p2), .val (.int p3), .val (.int p4), .val (.int p5), .val (.ref b1), .unset, .unset, .unset, .unset, .unset] [(.int (p5 &&& (1 : Int32))), (.int (0 : Int32)), (.ref b1)])) t → Steps p.tables e below (s₁.setTop (entryFrame m #[(.int p1), (.int p2), (.int p3), (.int p4), (.int p5)] maxLocals)) t := fun t kt => by
    refine pre0 t ?_
    show Steps p.tables e below (s₁.setTop (mkF m 0 #[.val (.int p1), .val (.int p2), .val (.int p3), .val (.int p4), .val (.int p5), .unset, .unset, .unset, .unset, .unset, .unset] [])) _
    refine XS.bipush X0.here hx rfl (hb hby at_0) ?_
    show Steps p.tables e below (s₁.setTop (mkF m 2 #[.val (.int p1), .val (.int p2), .val (.int p3), .val (.int p4), .val (.int p5), .unset, .unset, .unset, .unset, .unset, .unset] [(.int (8 : Int32))])) _
    refine st1 _ ?_
    show Steps p.tables e below (T1.setTop (mkF m 4 #[.val (.int p1), .val (.int p2), .val (.int p3), .val (.int p4), .val (.int p5), .unset, .unset, .unset, .unset, .unset, .unset] [(.ref b1)])) _
    refine XS.astore X1.here hx rfl (hb hby at_4) rfl rfl (l' := #[.val (.int p1), .val (.int p2), .val (.int p3), .val (.int p4), .val (.int p5), .val (.ref b1), .unset, .unset, .unset, .unset, .unset]) rfl ?_
    show Steps p.tables e below (T1.setTop (mkF m 6 #[.val (.int p1), .val (.int p2), .val (.int p3), .val (.int p4), .val (.int p5), .val (.ref b1), .unset, .unset, .unset, .unset, .unset] [])) _
    refine XS.aload X1.here hx rfl (hb hby at_6) rfl rfl ?_
    show Steps p.tables e below (T1.setTop (mkF m 8 #[.val (.int p1), .val (.int p2), .val (.int p3), .val (.int p4), .val (.int p5), .val (.ref b1), .unset, .unset, .unset, .unset, .unset] [(.ref b1)])) _
    refine XS.iconst X1.here hx rfl (hb hby at_8) ?_
    show Steps p.tables e below (T1.setTop (mkF m 9 #[.val (.int p1), .val (.int p2), .val (.int p3), .val (.int p4), .val (.int p5), .val (.ref b1), .unset, .unset, .unset, .unset, .unset] [(.int (0 : Int32)), (.ref b1)])) _
    refine XS.iload X1.here hx rfl (hb hby at_9) rfl ?_
    show Steps p.tables e below (T1.setTop (mkF m 11 #[.val (.int p1), .val (.int p2), .val (.int p3), .val (.int p4), .val (.int p5), .val (.ref b1), .unset, .unset, .unset, .unset, .unset] [(.int p5), (.int (0 : Int32)), (.ref b1)])) _
    refine XS.iconst X1.here hx rfl (hb hby at_11) ?_
    show Steps p.tables e below (T1.setTop (mkF m 12 #[.val (.int p1), .val (.int p2), .val (.int p3), .val (.int p4), .val (.int p5), .val (.ref b1), .unset, .unset, .unset, .unset, .unset] [(.int (1 : Int32)), (.int p5), (.int (0 : Int32)), (.ref b1)])) _
    refine XS.iand X1.here hx rfl (hb hby at_12) rfl ?_
    exact kt
  have pre4 : ∀ t, Steps p.tables e below (T1.setTop (mkF m 24 #[.val (.int p1), .val (.int p2), .val (.int p3), .val (.int p4), .val (.int p5), .val (.ref b1), .unset, .unset, .unset, .unset, .unset] [(.int (if (p5 &&& (1 : Int32)) = (0 : Int32) then (p1 &&& (65535 : Int32)) else (0 : Int32))), (.int (0 : Int32)), (.ref b1)])) t → Steps p.tables e below (s₁.setTop (entryFrame m #[(.int p1), (.int p2), (.int p3), (.int p4), (.int p5)] maxLocals)) t := by
    by_cases hc3 : (p5 &&& (1 : Int32)) = (0 : Int32)
    · refine fun t kt => pre2 t ?_
      repeat rw [if_pos hc3] at kt
      show Steps p.tables e below (T1.setTop (mkF m 13 #[.val (.int p1), .val (.int p2), .val (.int p3), .val (.int p4), .val (.int p5), .val (.ref b1), .unset, .unset, .unset, .unset, .unset] [(.int (p5 &&& (1 : Int32))), (.int (0 : Int32)), (.ref b1)])) _
      refine XS.ifYes X1.here hx rfl (pc0 := 13) (pc' := 20) rfl (hb hby at_13) rfl ((if0 _ _).trans (teq hc3).1) (by decide) (by decide) ?_
      show Steps p.tables e below (T1.setTop (mkF m 20 #[.val (.int p1), .val (.int p2), .val (.int p3), .val (.int p4), .val (.int p5), .val (.ref b1), .unset, .unset, .unset, .unset, .unset] [(.int (0 : Int32)), (.ref b1)])) _
      refine XS.iloadN X1.here hx rfl (hb hby at_20) rfl ?_
      show Steps p.tables e below (T1.setTop (mkF m 21 #[.val (.int p1), .val (.int p2), .val (.int p3), .val (.int p4), .val (.int p5), .val (.ref b1), .unset, .unset, .unset, .unset, .unset] [(.int p1), (.int (0 : Int32)), (.ref b1)])) _
      refine X1.ldcInt hx hown (mvT hZ (hw _ (List.mem_of_getElem? (i := 1) rfl))) (g := (mkF m 21 #[.val (.int p1), .val (.int p2), .val (.int p3), .val (.int p4), .val (.int p5), .val (.ref b1), .unset, .unset, .unset, .unset, .unset] [(.int p1), (.int (0 : Int32)), (.ref b1)])) rfl (hb hby at_21) _ ?_
      show Steps p.tables e below (T1.setTop (mkF m 23 #[.val (.int p1), .val (.int p2), .val (.int p3), .val (.int p4), .val (.int p5), .val (.ref b1), .unset, .unset, .unset, .unset, .unset] [(.int (65535 : Int32)), (.int p1), (.int (0 : Int32)), (.ref b1)])) _
      refine XS.iand X1.here hx rfl (hb hby at_23) rfl ?_
      exact kt
    · refine fun t kt => pre2 t ?_
      repeat rw [if_neg hc3] at kt
      show Steps p.tables e below (T1.setTop (mkF m 13 #[.val (.int p1), .val (.int p2), .val (.int p3), .val (.int p4), .val (.int p5), .val (.ref b1), .unset, .unset, .unset, .unset, .unset] [(.int (p5 &&& (1 : Int32))), (.int (0 : Int32)), (.ref b1)])) _
      refine XS.ifNo X1.here hx rfl (hb hby at_13) rfl ((if0 _ _).trans (feq hc3).1) ?_
      show Steps p.tables e below (T1.setTop (mkF m 16 #[.val (.int p1), .val (.int p2), .val (.int p3), .val (.int p4), .val (.int p5), .val (.ref b1), .unset, .unset, .unset, .unset, .unset] [(.int (0 : Int32)), (.ref b1)])) _
      refine XS.iconst X1.here hx rfl (hb hby at_16) ?_
      show Steps p.tables e below (T1.setTop (mkF m 17 #[.val (.int p1), .val (.int p2), .val (.int p3), .val (.int p4), .val (.int p5), .val (.ref b1), .unset, .unset, .unset, .unset, .unset] [(.int (0 : Int32)), (.int (0 : Int32)), (.ref b1)])) _
      refine XS.goto X1.here hx rfl (pc0 := 17) (pc' := 24) rfl (hb hby at_17) (by decide) (by decide) ?_
      exact kt
  obtain ⟨v5, hv5⟩ : ∃ z : Int32, z = (if (p5 &&& (1 : Int32)) = (0 : Int32) then (p1 &&& (65535 : Int32)) else (0 : Int32)) := ⟨_, rfl⟩
  rw [← hv5] at pre4
  obtain ⟨cl6, Ar6, q6, S6, M6, H6, G6⟩ := id V1
  have hin6 : ¬ ((0 : Int32) < 0 ∨ cl6.slots.size ≤ ((0 : Int32)).toNatClampNeg) := inb_of S6 ⟨by decide, by decide⟩
  obtain ⟨T6, h6, X6, e6, W6, st6⟩ := stI X1 hx hZ e1 Ar6 (j := (0 : Int32)) hin6 (g := (mkF m 24 #[.val (.int p1), .val (.int p2), .val (.int p3), .val (.int p4), .val (.int p5), .val (.ref b1), .unset, .unset, .unset, .unset, .unset] [(.int v5), (.int (0 : Int32)), (.ref b1)])) rfl rfl (hb hby at_24)
  have V6 : Arv Z h6 b1 k1 .int (8 : Int32) [(.int v5), (.int (0 : Int32)), (.int (0 : Int32)), (.int (0 : Int32)), (.int (0 : Int32)), (.int (0 : Int32)), (.int (0 : Int32)), (.int (0 : Int32))] (.int (0 : Int32)) := Arv.set Ar6 q6 S6 M6 H6 G6 rfl W6 0 rfl (Nat.le_of_ble_eq_true rfl)
  have N6 := Fr.snoc X6 N0 g_b1
  have pre7 : ∀ t, Steps p.tables e below (T6.setTop (mkF m 32 #[.val (.int p1), .val (.int p2), .val (.int p3), .val (.int p4), .val (.int p5), .val (.ref b1), .unset, .unset, .unset, .unset, .unset] [(.int (p5 &&& (2 : Int32))), (.int (1 : Int32)), (.ref b1)])) t → Steps p.tables e below (s₁.setTop (entryFrame m #[(.int p1), (.int p2), (.int p3), (.int p4), (.int p5)] maxLocals)) t := fun t kt => by
    refine pre4 t ?_
    show Steps p.tables e below (T1.setTop (mkF m 24 #[.val (.int p1), .val (.int p2), .val (.int p3), .val (.int p4), .val (.int p5), .val (.ref b1), .unset, .unset, .unset, .unset, .unset] [(.int v5), (.int (0 : Int32)), (.ref b1)])) _
    refine st6 _ ?_
    show Steps p.tables e below (T6.setTop (mkF m 25 #[.val (.int p1), .val (.int p2), .val (.int p3), .val (.int p4), .val (.int p5), .val (.ref b1), .unset, .unset, .unset, .unset, .unset] [])) _
    refine XS.aload X6.here hx rfl (hb hby at_25) rfl rfl ?_
    show Steps p.tables e below (T6.setTop (mkF m 27 #[.val (.int p1), .val (.int p2), .val (.int p3), .val (.int p4), .val (.int p5), .val (.ref b1), .unset, .unset, .unset, .unset, .unset] [(.ref b1)])) _
    refine XS.iconst X6.here hx rfl (hb hby at_27) ?_
    show Steps p.tables e below (T6.setTop (mkF m 28 #[.val (.int p1), .val (.int p2), .val (.int p3), .val (.int p4), .val (.int p5), .val (.ref b1), .unset, .unset, .unset, .unset, .unset] [(.int (1 : Int32)), (.ref b1)])) _
    refine XS.iload X6.here hx rfl (hb hby at_28) rfl ?_
    show Steps p.tables e below (T6.setTop (mkF m 30 #[.val (.int p1), .val (.int p2), .val (.int p3), .val (.int p4), .val (.int p5), .val (.ref b1), .unset, .unset, .unset, .unset, .unset] [(.int p5), (.int (1 : Int32)), (.ref b1)])) _
    refine XS.iconst X6.here hx rfl (hb hby at_30) ?_
    show Steps p.tables e below (T6.setTop (mkF m 31 #[.val (.int p1), .val (.int p2), .val (.int p3), .val (.int p4), .val (.int p5), .val (.ref b1), .unset, .unset, .unset, .unset, .unset] [(.int (2 : Int32)), (.int p5), (.int (1 : Int32)), (.ref b1)])) _
    refine XS.iand X6.here hx rfl (hb hby at_31) rfl ?_
    exact kt
  have pre9 : ∀ t, Steps p.tables e below (T6.setTop (mkF m 43 #[.val (.int p1), .val (.int p2), .val (.int p3), .val (.int p4), .val (.int p5), .val (.ref b1), .unset, .unset, .unset, .unset, .unset] [(.int (if (p5 &&& (2 : Int32)) = (0 : Int32) then ((p1.toUInt32 >>> ((16 : Int32) &&& 31).toUInt32).toInt32) else (0 : Int32))), (.int (1 : Int32)), (.ref b1)])) t → Steps p.tables e below (s₁.setTop (entryFrame m #[(.int p1), (.int p2), (.int p3), (.int p4), (.int p5)] maxLocals)) t := by
    by_cases hc8 : (p5 &&& (2 : Int32)) = (0 : Int32)
    · refine fun t kt => pre7 t ?_
      repeat rw [if_pos hc8] at kt
      show Steps p.tables e below (T6.setTop (mkF m 32 #[.val (.int p1), .val (.int p2), .val (.int p3), .val (.int p4), .val (.int p5), .val (.ref b1), .unset, .unset, .unset, .unset, .unset] [(.int (p5 &&& (2 : Int32))), (.int (1 : Int32)), (.ref b1)])) _
      refine XS.ifYes X6.here hx rfl (pc0 := 32) (pc' := 39) rfl (hb hby at_32) rfl ((if0 _ _).trans (teq hc8).1) (by decide) (by decide) ?_
      show Steps p.tables e below (T6.setTop (mkF m 39 #[.val (.int p1), .val (.int p2), .val (.int p3), .val (.int p4), .val (.int p5), .val (.ref b1), .unset, .unset, .unset, .unset, .unset] [(.int (1 : Int32)), (.ref b1)])) _
      refine XS.iloadN X6.here hx rfl (hb hby at_39) rfl ?_
      show Steps p.tables e below (T6.setTop (mkF m 40 #[.val (.int p1), .val (.int p2), .val (.int p3), .val (.int p4), .val (.int p5), .val (.ref b1), .unset, .unset, .unset, .unset, .unset] [(.int p1), (.int (1 : Int32)), (.ref b1)])) _
      refine XS.bipush X6.here hx rfl (hb hby at_40) ?_
      show Steps p.tables e below (T6.setTop (mkF m 42 #[.val (.int p1), .val (.int p2), .val (.int p3), .val (.int p4), .val (.int p5), .val (.ref b1), .unset, .unset, .unset, .unset, .unset] [(.int (16 : Int32)), (.int p1), (.int (1 : Int32)), (.ref b1)])) _
      refine XS.iushr X6.here hx rfl (hb hby at_42) rfl ?_
      exact kt
    · refine fun t kt => pre7 t ?_
      repeat rw [if_neg hc8] at kt
      show Steps p.tables e below (T6.setTop (mkF m 32 #[.val (.int p1), .val (.int p2), .val (.int p3), .val (.int p4), .val (.int p5), .val (.ref b1), .unset, .unset, .unset, .unset, .unset] [(.int (p5 &&& (2 : Int32))), (.int (1 : Int32)), (.ref b1)])) _
      refine XS.ifNo X6.here hx rfl (hb hby at_32) rfl ((if0 _ _).trans (feq hc8).1) ?_
      show Steps p.tables e below (T6.setTop (mkF m 35 #[.val (.int p1), .val (.int p2), .val (.int p3), .val (.int p4), .val (.int p5), .val (.ref b1), .unset, .unset, .unset, .unset, .unset] [(.int (1 : Int32)), (.ref b1)])) _
      refine XS.iconst X6.here hx rfl (hb hby at_35) ?_
      show Steps p.tables e below (T6.setTop (mkF m 36 #[.val (.int p1), .val (.int p2), .val (.int p3), .val (.int p4), .val (.int p5), .val (.ref b1), .unset, .unset, .unset, .unset, .unset] [(.int (0 : Int32)), (.int (1 : Int32)), (.ref b1)])) _
      refine XS.goto X6.here hx rfl (pc0 := 36) (pc' := 43) rfl (hb hby at_36) (by decide) (by decide) ?_
      exact kt
  obtain ⟨v10, hv10⟩ : ∃ z : Int32, z = (if (p5 &&& (2 : Int32)) = (0 : Int32) then ((p1.toUInt32 >>> ((16 : Int32) &&& 31).toUInt32).toInt32) else (0 : Int32)) := ⟨_, rfl⟩
  rw [← hv10] at pre9
  obtain ⟨cl11, Ar11, q11, S11, M11, H11, G11⟩ := id V6
  have hin11 : ¬ ((1 : Int32) < 0 ∨ cl11.slots.size ≤ ((1 : Int32)).toNatClampNeg) := inb_of S11 ⟨by decide, by decide⟩
  obtain ⟨T11, h11, X11, e11, W11, st11⟩ := stI X6 hx hZ e6 Ar11 (j := (1 : Int32)) hin11 (g := (mkF m 43 #[.val (.int p1), .val (.int p2), .val (.int p3), .val (.int p4), .val (.int p5), .val (.ref b1), .unset, .unset, .unset, .unset, .unset] [(.int v10), (.int (1 : Int32)), (.ref b1)])) rfl rfl (hb hby at_43)
  have V11 : Arv Z h11 b1 k1 .int (8 : Int32) [(.int v5), (.int v10), (.int (0 : Int32)), (.int (0 : Int32)), (.int (0 : Int32)), (.int (0 : Int32)), (.int (0 : Int32)), (.int (0 : Int32))] (.int (0 : Int32)) := Arv.set Ar11 q11 S11 M11 H11 G11 rfl W11 1 rfl (Nat.le_of_ble_eq_true rfl)
  have N11 := Fr.snoc X11 N6 g_b1
  have pre12 : ∀ t, Steps p.tables e below (T11.setTop (mkF m 51 #[.val (.int p1), .val (.int p2), .val (.int p3), .val (.int p4), .val (.int p5), .val (.ref b1), .unset, .unset, .unset, .unset, .unset] [(.int (p5 &&& (4 : Int32))), (.int (2 : Int32)), (.ref b1)])) t → Steps p.tables e below (s₁.setTop (entryFrame m #[(.int p1), (.int p2), (.int p3), (.int p4), (.int p5)] maxLocals)) t := fun t kt => by
    refine pre9 t ?_
    show Steps p.tables e below (T6.setTop (mkF m 43 #[.val (.int p1), .val (.int p2), .val (.int p3), .val (.int p4), .val (.int p5), .val (.ref b1), .unset, .unset, .unset, .unset, .unset] [(.int v10), (.int (1 : Int32)), (.ref b1)])) _
    refine st11 _ ?_
    show Steps p.tables e below (T11.setTop (mkF m 44 #[.val (.int p1), .val (.int p2), .val (.int p3), .val (.int p4), .val (.int p5), .val (.ref b1), .unset, .unset, .unset, .unset, .unset] [])) _
    refine XS.aload X11.here hx rfl (hb hby at_44) rfl rfl ?_
    show Steps p.tables e below (T11.setTop (mkF m 46 #[.val (.int p1), .val (.int p2), .val (.int p3), .val (.int p4), .val (.int p5), .val (.ref b1), .unset, .unset, .unset, .unset, .unset] [(.ref b1)])) _
    refine XS.iconst X11.here hx rfl (hb hby at_46) ?_
    show Steps p.tables e below (T11.setTop (mkF m 47 #[.val (.int p1), .val (.int p2), .val (.int p3), .val (.int p4), .val (.int p5), .val (.ref b1), .unset, .unset, .unset, .unset, .unset] [(.int (2 : Int32)), (.ref b1)])) _
    refine XS.iload X11.here hx rfl (hb hby at_47) rfl ?_
    show Steps p.tables e below (T11.setTop (mkF m 49 #[.val (.int p1), .val (.int p2), .val (.int p3), .val (.int p4), .val (.int p5), .val (.ref b1), .unset, .unset, .unset, .unset, .unset] [(.int p5), (.int (2 : Int32)), (.ref b1)])) _
    refine XS.iconst X11.here hx rfl (hb hby at_49) ?_
    show Steps p.tables e below (T11.setTop (mkF m 50 #[.val (.int p1), .val (.int p2), .val (.int p3), .val (.int p4), .val (.int p5), .val (.ref b1), .unset, .unset, .unset, .unset, .unset] [(.int (4 : Int32)), (.int p5), (.int (2 : Int32)), (.ref b1)])) _
    refine XS.iand X11.here hx rfl (hb hby at_50) rfl ?_
    exact kt
  have pre14 : ∀ t, Steps p.tables e below (T11.setTop (mkF m 62 #[.val (.int p1), .val (.int p2), .val (.int p3), .val (.int p4), .val (.int p5), .val (.ref b1), .unset, .unset, .unset, .unset, .unset] [(.int (if (p5 &&& (4 : Int32)) = (0 : Int32) then (p2 &&& (65535 : Int32)) else (0 : Int32))), (.int (2 : Int32)), (.ref b1)])) t → Steps p.tables e below (s₁.setTop (entryFrame m #[(.int p1), (.int p2), (.int p3), (.int p4), (.int p5)] maxLocals)) t := by
    by_cases hc13 : (p5 &&& (4 : Int32)) = (0 : Int32)
    · refine fun t kt => pre12 t ?_
      repeat rw [if_pos hc13] at kt
      show Steps p.tables e below (T11.setTop (mkF m 51 #[.val (.int p1), .val (.int p2), .val (.int p3), .val (.int p4), .val (.int p5), .val (.ref b1), .unset, .unset, .unset, .unset, .unset] [(.int (p5 &&& (4 : Int32))), (.int (2 : Int32)), (.ref b1)])) _
      refine XS.ifYes X11.here hx rfl (pc0 := 51) (pc' := 58) rfl (hb hby at_51) rfl ((if0 _ _).trans (teq hc13).1) (by decide) (by decide) ?_
      show Steps p.tables e below (T11.setTop (mkF m 58 #[.val (.int p1), .val (.int p2), .val (.int p3), .val (.int p4), .val (.int p5), .val (.ref b1), .unset, .unset, .unset, .unset, .unset] [(.int (2 : Int32)), (.ref b1)])) _
      refine XS.iloadN X11.here hx rfl (hb hby at_58) rfl ?_
      show Steps p.tables e below (T11.setTop (mkF m 59 #[.val (.int p1), .val (.int p2), .val (.int p3), .val (.int p4), .val (.int p5), .val (.ref b1), .unset, .unset, .unset, .unset, .unset] [(.int p2), (.int (2 : Int32)), (.ref b1)])) _
      refine X11.ldcInt hx hown (mvT hZ (hw _ (List.mem_of_getElem? (i := 1) rfl))) (g := (mkF m 59 #[.val (.int p1), .val (.int p2), .val (.int p3), .val (.int p4), .val (.int p5), .val (.ref b1), .unset, .unset, .unset, .unset, .unset] [(.int p2), (.int (2 : Int32)), (.ref b1)])) rfl (hb hby at_59) _ ?_
      show Steps p.tables e below (T11.setTop (mkF m 61 #[.val (.int p1), .val (.int p2), .val (.int p3), .val (.int p4), .val (.int p5), .val (.ref b1), .unset, .unset, .unset, .unset, .unset] [(.int (65535 : Int32)), (.int p2), (.int (2 : Int32)), (.ref b1)])) _
      refine XS.iand X11.here hx rfl (hb hby at_61) rfl ?_
      exact kt
    · refine fun t kt => pre12 t ?_
      repeat rw [if_neg hc13] at kt
      show Steps p.tables e below (T11.setTop (mkF m 51 #[.val (.int p1), .val (.int p2), .val (.int p3), .val (.int p4), .val (.int p5), .val (.ref b1), .unset, .unset, .unset, .unset, .unset] [(.int (p5 &&& (4 : Int32))), (.int (2 : Int32)), (.ref b1)])) _
      refine XS.ifNo X11.here hx rfl (hb hby at_51) rfl ((if0 _ _).trans (feq hc13).1) ?_
      show Steps p.tables e below (T11.setTop (mkF m 54 #[.val (.int p1), .val (.int p2), .val (.int p3), .val (.int p4), .val (.int p5), .val (.ref b1), .unset, .unset, .unset, .unset, .unset] [(.int (2 : Int32)), (.ref b1)])) _
      refine XS.iconst X11.here hx rfl (hb hby at_54) ?_
      show Steps p.tables e below (T11.setTop (mkF m 55 #[.val (.int p1), .val (.int p2), .val (.int p3), .val (.int p4), .val (.int p5), .val (.ref b1), .unset, .unset, .unset, .unset, .unset] [(.int (0 : Int32)), (.int (2 : Int32)), (.ref b1)])) _
      refine XS.goto X11.here hx rfl (pc0 := 55) (pc' := 62) rfl (hb hby at_55) (by decide) (by decide) ?_
      exact kt
  obtain ⟨v15, hv15⟩ : ∃ z : Int32, z = (if (p5 &&& (4 : Int32)) = (0 : Int32) then (p2 &&& (65535 : Int32)) else (0 : Int32)) := ⟨_, rfl⟩
  rw [← hv15] at pre14
  obtain ⟨cl16, Ar16, q16, S16, M16, H16, G16⟩ := id V11
  have hin16 : ¬ ((2 : Int32) < 0 ∨ cl16.slots.size ≤ ((2 : Int32)).toNatClampNeg) := inb_of S16 ⟨by decide, by decide⟩
  obtain ⟨T16, h16, X16, e16, W16, st16⟩ := stI X11 hx hZ e11 Ar16 (j := (2 : Int32)) hin16 (g := (mkF m 62 #[.val (.int p1), .val (.int p2), .val (.int p3), .val (.int p4), .val (.int p5), .val (.ref b1), .unset, .unset, .unset, .unset, .unset] [(.int v15), (.int (2 : Int32)), (.ref b1)])) rfl rfl (hb hby at_62)
  have V16 : Arv Z h16 b1 k1 .int (8 : Int32) [(.int v5), (.int v10), (.int v15), (.int (0 : Int32)), (.int (0 : Int32)), (.int (0 : Int32)), (.int (0 : Int32)), (.int (0 : Int32))] (.int (0 : Int32)) := Arv.set Ar16 q16 S16 M16 H16 G16 rfl W16 2 rfl (Nat.le_of_ble_eq_true rfl)
  have N16 := Fr.snoc X16 N11 g_b1
  have pre17 : ∀ t, Steps p.tables e below (T16.setTop (mkF m 71 #[.val (.int p1), .val (.int p2), .val (.int p3), .val (.int p4), .val (.int p5), .val (.ref b1), .unset, .unset, .unset, .unset, .unset] [(.int (p5 &&& (8 : Int32))), (.int (3 : Int32)), (.ref b1)])) t → Steps p.tables e below (s₁.setTop (entryFrame m #[(.int p1), (.int p2), (.int p3), (.int p4), (.int p5)] maxLocals)) t := fun t kt => by
    refine pre14 t ?_
    show Steps p.tables e below (T11.setTop (mkF m 62 #[.val (.int p1), .val (.int p2), .val (.int p3), .val (.int p4), .val (.int p5), .val (.ref b1), .unset, .unset, .unset, .unset, .unset] [(.int v15), (.int (2 : Int32)), (.ref b1)])) _
    refine st16 _ ?_
    show Steps p.tables e below (T16.setTop (mkF m 63 #[.val (.int p1), .val (.int p2), .val (.int p3), .val (.int p4), .val (.int p5), .val (.ref b1), .unset, .unset, .unset, .unset, .unset] [])) _
    refine XS.aload X16.here hx rfl (hb hby at_63) rfl rfl ?_
    show Steps p.tables e below (T16.setTop (mkF m 65 #[.val (.int p1), .val (.int p2), .val (.int p3), .val (.int p4), .val (.int p5), .val (.ref b1), .unset, .unset, .unset, .unset, .unset] [(.ref b1)])) _
    refine XS.iconst X16.here hx rfl (hb hby at_65) ?_
    show Steps p.tables e below (T16.setTop (mkF m 66 #[.val (.int p1), .val (.int p2), .val (.int p3), .val (.int p4), .val (.int p5), .val (.ref b1), .unset, .unset, .unset, .unset, .unset] [(.int (3 : Int32)), (.ref b1)])) _
    refine XS.iload X16.here hx rfl (hb hby at_66) rfl ?_
    show Steps p.tables e below (T16.setTop (mkF m 68 #[.val (.int p1), .val (.int p2), .val (.int p3), .val (.int p4), .val (.int p5), .val (.ref b1), .unset, .unset, .unset, .unset, .unset] [(.int p5), (.int (3 : Int32)), (.ref b1)])) _
    refine XS.bipush X16.here hx rfl (hb hby at_68) ?_
    show Steps p.tables e below (T16.setTop (mkF m 70 #[.val (.int p1), .val (.int p2), .val (.int p3), .val (.int p4), .val (.int p5), .val (.ref b1), .unset, .unset, .unset, .unset, .unset] [(.int (8 : Int32)), (.int p5), (.int (3 : Int32)), (.ref b1)])) _
    refine XS.iand X16.here hx rfl (hb hby at_70) rfl ?_
    exact kt
  have pre19 : ∀ t, Steps p.tables e below (T16.setTop (mkF m 82 #[.val (.int p1), .val (.int p2), .val (.int p3), .val (.int p4), .val (.int p5), .val (.ref b1), .unset, .unset, .unset, .unset, .unset] [(.int (if (p5 &&& (8 : Int32)) = (0 : Int32) then ((p2.toUInt32 >>> ((16 : Int32) &&& 31).toUInt32).toInt32) else (0 : Int32))), (.int (3 : Int32)), (.ref b1)])) t → Steps p.tables e below (s₁.setTop (entryFrame m #[(.int p1), (.int p2), (.int p3), (.int p4), (.int p5)] maxLocals)) t := by
    by_cases hc18 : (p5 &&& (8 : Int32)) = (0 : Int32)
    · refine fun t kt => pre17 t ?_
      repeat rw [if_pos hc18] at kt
      show Steps p.tables e below (T16.setTop (mkF m 71 #[.val (.int p1), .val (.int p2), .val (.int p3), .val (.int p4), .val (.int p5), .val (.ref b1), .unset, .unset, .unset, .unset, .unset] [(.int (p5 &&& (8 : Int32))), (.int (3 : Int32)), (.ref b1)])) _
      refine XS.ifYes X16.here hx rfl (pc0 := 71) (pc' := 78) rfl (hb hby at_71) rfl ((if0 _ _).trans (teq hc18).1) (by decide) (by decide) ?_
      show Steps p.tables e below (T16.setTop (mkF m 78 #[.val (.int p1), .val (.int p2), .val (.int p3), .val (.int p4), .val (.int p5), .val (.ref b1), .unset, .unset, .unset, .unset, .unset] [(.int (3 : Int32)), (.ref b1)])) _
      refine XS.iloadN X16.here hx rfl (hb hby at_78) rfl ?_
      show Steps p.tables e below (T16.setTop (mkF m 79 #[.val (.int p1), .val (.int p2), .val (.int p3), .val (.int p4), .val (.int p5), .val (.ref b1), .unset, .unset, .unset, .unset, .unset] [(.int p2), (.int (3 : Int32)), (.ref b1)])) _
      refine XS.bipush X16.here hx rfl (hb hby at_79) ?_
      show Steps p.tables e below (T16.setTop (mkF m 81 #[.val (.int p1), .val (.int p2), .val (.int p3), .val (.int p4), .val (.int p5), .val (.ref b1), .unset, .unset, .unset, .unset, .unset] [(.int (16 : Int32)), (.int p2), (.int (3 : Int32)), (.ref b1)])) _
      refine XS.iushr X16.here hx rfl (hb hby at_81) rfl ?_
      exact kt
    · refine fun t kt => pre17 t ?_
      repeat rw [if_neg hc18] at kt
      show Steps p.tables e below (T16.setTop (mkF m 71 #[.val (.int p1), .val (.int p2), .val (.int p3), .val (.int p4), .val (.int p5), .val (.ref b1), .unset, .unset, .unset, .unset, .unset] [(.int (p5 &&& (8 : Int32))), (.int (3 : Int32)), (.ref b1)])) _
      refine XS.ifNo X16.here hx rfl (hb hby at_71) rfl ((if0 _ _).trans (feq hc18).1) ?_
      show Steps p.tables e below (T16.setTop (mkF m 74 #[.val (.int p1), .val (.int p2), .val (.int p3), .val (.int p4), .val (.int p5), .val (.ref b1), .unset, .unset, .unset, .unset, .unset] [(.int (3 : Int32)), (.ref b1)])) _
      refine XS.iconst X16.here hx rfl (hb hby at_74) ?_
      show Steps p.tables e below (T16.setTop (mkF m 75 #[.val (.int p1), .val (.int p2), .val (.int p3), .val (.int p4), .val (.int p5), .val (.ref b1), .unset, .unset, .unset, .unset, .unset] [(.int (0 : Int32)), (.int (3 : Int32)), (.ref b1)])) _
      refine XS.goto X16.here hx rfl (pc0 := 75) (pc' := 82) rfl (hb hby at_75) (by decide) (by decide) ?_
      exact kt
  obtain ⟨v20, hv20⟩ : ∃ z : Int32, z = (if (p5 &&& (8 : Int32)) = (0 : Int32) then ((p2.toUInt32 >>> ((16 : Int32) &&& 31).toUInt32).toInt32) else (0 : Int32)) := ⟨_, rfl⟩
  rw [← hv20] at pre19
  obtain ⟨cl21, Ar21, q21, S21, M21, H21, G21⟩ := id V16
  have hin21 : ¬ ((3 : Int32) < 0 ∨ cl21.slots.size ≤ ((3 : Int32)).toNatClampNeg) := inb_of S21 ⟨by decide, by decide⟩
  obtain ⟨T21, h21, X21, e21, W21, st21⟩ := stI X16 hx hZ e16 Ar21 (j := (3 : Int32)) hin21 (g := (mkF m 82 #[.val (.int p1), .val (.int p2), .val (.int p3), .val (.int p4), .val (.int p5), .val (.ref b1), .unset, .unset, .unset, .unset, .unset] [(.int v20), (.int (3 : Int32)), (.ref b1)])) rfl rfl (hb hby at_82)
  have V21 : Arv Z h21 b1 k1 .int (8 : Int32) [(.int v5), (.int v10), (.int v15), (.int v20), (.int (0 : Int32)), (.int (0 : Int32)), (.int (0 : Int32)), (.int (0 : Int32))] (.int (0 : Int32)) := Arv.set Ar21 q21 S21 M21 H21 G21 rfl W21 3 rfl (Nat.le_of_ble_eq_true rfl)
  have N21 := Fr.snoc X21 N16 g_b1
  have pre22 : ∀ t, Steps p.tables e below (T21.setTop (mkF m 91 #[.val (.int p1), .val (.int p2), .val (.int p3), .val (.int p4), .val (.int p5), .val (.ref b1), .unset, .unset, .unset, .unset, .unset] [(.int (p5 &&& (16 : Int32))), (.int (4 : Int32)), (.ref b1)])) t → Steps p.tables e below (s₁.setTop (entryFrame m #[(.int p1), (.int p2), (.int p3), (.int p4), (.int p5)] maxLocals)) t := fun t kt => by
    refine pre19 t ?_
    show Steps p.tables e below (T16.setTop (mkF m 82 #[.val (.int p1), .val (.int p2), .val (.int p3), .val (.int p4), .val (.int p5), .val (.ref b1), .unset, .unset, .unset, .unset, .unset] [(.int v20), (.int (3 : Int32)), (.ref b1)])) _
    refine st21 _ ?_
    show Steps p.tables e below (T21.setTop (mkF m 83 #[.val (.int p1), .val (.int p2), .val (.int p3), .val (.int p4), .val (.int p5), .val (.ref b1), .unset, .unset, .unset, .unset, .unset] [])) _
    refine XS.aload X21.here hx rfl (hb hby at_83) rfl rfl ?_
    show Steps p.tables e below (T21.setTop (mkF m 85 #[.val (.int p1), .val (.int p2), .val (.int p3), .val (.int p4), .val (.int p5), .val (.ref b1), .unset, .unset, .unset, .unset, .unset] [(.ref b1)])) _
    refine XS.iconst X21.here hx rfl (hb hby at_85) ?_
    show Steps p.tables e below (T21.setTop (mkF m 86 #[.val (.int p1), .val (.int p2), .val (.int p3), .val (.int p4), .val (.int p5), .val (.ref b1), .unset, .unset, .unset, .unset, .unset] [(.int (4 : Int32)), (.ref b1)])) _
    refine XS.iload X21.here hx rfl (hb hby at_86) rfl ?_
    show Steps p.tables e below (T21.setTop (mkF m 88 #[.val (.int p1), .val (.int p2), .val (.int p3), .val (.int p4), .val (.int p5), .val (.ref b1), .unset, .unset, .unset, .unset, .unset] [(.int p5), (.int (4 : Int32)), (.ref b1)])) _
    refine XS.bipush X21.here hx rfl (hb hby at_88) ?_
    show Steps p.tables e below (T21.setTop (mkF m 90 #[.val (.int p1), .val (.int p2), .val (.int p3), .val (.int p4), .val (.int p5), .val (.ref b1), .unset, .unset, .unset, .unset, .unset] [(.int (16 : Int32)), (.int p5), (.int (4 : Int32)), (.ref b1)])) _
    refine XS.iand X21.here hx rfl (hb hby at_90) rfl ?_
    exact kt
  have pre24 : ∀ t, Steps p.tables e below (T21.setTop (mkF m 102 #[.val (.int p1), .val (.int p2), .val (.int p3), .val (.int p4), .val (.int p5), .val (.ref b1), .unset, .unset, .unset, .unset, .unset] [(.int (if (p5 &&& (16 : Int32)) = (0 : Int32) then (p3 &&& (65535 : Int32)) else (0 : Int32))), (.int (4 : Int32)), (.ref b1)])) t → Steps p.tables e below (s₁.setTop (entryFrame m #[(.int p1), (.int p2), (.int p3), (.int p4), (.int p5)] maxLocals)) t := by
    by_cases hc23 : (p5 &&& (16 : Int32)) = (0 : Int32)
    · refine fun t kt => pre22 t ?_
      repeat rw [if_pos hc23] at kt
      show Steps p.tables e below (T21.setTop (mkF m 91 #[.val (.int p1), .val (.int p2), .val (.int p3), .val (.int p4), .val (.int p5), .val (.ref b1), .unset, .unset, .unset, .unset, .unset] [(.int (p5 &&& (16 : Int32))), (.int (4 : Int32)), (.ref b1)])) _
      refine XS.ifYes X21.here hx rfl (pc0 := 91) (pc' := 98) rfl (hb hby at_91) rfl ((if0 _ _).trans (teq hc23).1) (by decide) (by decide) ?_
      show Steps p.tables e below (T21.setTop (mkF m 98 #[.val (.int p1), .val (.int p2), .val (.int p3), .val (.int p4), .val (.int p5), .val (.ref b1), .unset, .unset, .unset, .unset, .unset] [(.int (4 : Int32)), (.ref b1)])) _
      refine XS.iloadN X21.here hx rfl (hb hby at_98) rfl ?_
      show Steps p.tables e below (T21.setTop (mkF m 99 #[.val (.int p1), .val (.int p2), .val (.int p3), .val (.int p4), .val (.int p5), .val (.ref b1), .unset, .unset, .unset, .unset, .unset] [(.int p3), (.int (4 : Int32)), (.ref b1)])) _
      refine X21.ldcInt hx hown (mvT hZ (hw _ (List.mem_of_getElem? (i := 1) rfl))) (g := (mkF m 99 #[.val (.int p1), .val (.int p2), .val (.int p3), .val (.int p4), .val (.int p5), .val (.ref b1), .unset, .unset, .unset, .unset, .unset] [(.int p3), (.int (4 : Int32)), (.ref b1)])) rfl (hb hby at_99) _ ?_
      show Steps p.tables e below (T21.setTop (mkF m 101 #[.val (.int p1), .val (.int p2), .val (.int p3), .val (.int p4), .val (.int p5), .val (.ref b1), .unset, .unset, .unset, .unset, .unset] [(.int (65535 : Int32)), (.int p3), (.int (4 : Int32)), (.ref b1)])) _
      refine XS.iand X21.here hx rfl (hb hby at_101) rfl ?_
      exact kt
    · refine fun t kt => pre22 t ?_
      repeat rw [if_neg hc23] at kt
      show Steps p.tables e below (T21.setTop (mkF m 91 #[.val (.int p1), .val (.int p2), .val (.int p3), .val (.int p4), .val (.int p5), .val (.ref b1), .unset, .unset, .unset, .unset, .unset] [(.int (p5 &&& (16 : Int32))), (.int (4 : Int32)), (.ref b1)])) _
      refine XS.ifNo X21.here hx rfl (hb hby at_91) rfl ((if0 _ _).trans (feq hc23).1) ?_
      show Steps p.tables e below (T21.setTop (mkF m 94 #[.val (.int p1), .val (.int p2), .val (.int p3), .val (.int p4), .val (.int p5), .val (.ref b1), .unset, .unset, .unset, .unset, .unset] [(.int (4 : Int32)), (.ref b1)])) _
      refine XS.iconst X21.here hx rfl (hb hby at_94) ?_
      show Steps p.tables e below (T21.setTop (mkF m 95 #[.val (.int p1), .val (.int p2), .val (.int p3), .val (.int p4), .val (.int p5), .val (.ref b1), .unset, .unset, .unset, .unset, .unset] [(.int (0 : Int32)), (.int (4 : Int32)), (.ref b1)])) _
      refine XS.goto X21.here hx rfl (pc0 := 95) (pc' := 102) rfl (hb hby at_95) (by decide) (by decide) ?_
      exact kt
  obtain ⟨v25, hv25⟩ : ∃ z : Int32, z = (if (p5 &&& (16 : Int32)) = (0 : Int32) then (p3 &&& (65535 : Int32)) else (0 : Int32)) := ⟨_, rfl⟩
  rw [← hv25] at pre24
  obtain ⟨cl26, Ar26, q26, S26, M26, H26, G26⟩ := id V21
  have hin26 : ¬ ((4 : Int32) < 0 ∨ cl26.slots.size ≤ ((4 : Int32)).toNatClampNeg) := inb_of S26 ⟨by decide, by decide⟩
  obtain ⟨T26, h26, X26, e26, W26, st26⟩ := stI X21 hx hZ e21 Ar26 (j := (4 : Int32)) hin26 (g := (mkF m 102 #[.val (.int p1), .val (.int p2), .val (.int p3), .val (.int p4), .val (.int p5), .val (.ref b1), .unset, .unset, .unset, .unset, .unset] [(.int v25), (.int (4 : Int32)), (.ref b1)])) rfl rfl (hb hby at_102)
  have V26 : Arv Z h26 b1 k1 .int (8 : Int32) [(.int v5), (.int v10), (.int v15), (.int v20), (.int v25), (.int (0 : Int32)), (.int (0 : Int32)), (.int (0 : Int32))] (.int (0 : Int32)) := Arv.set Ar26 q26 S26 M26 H26 G26 rfl W26 4 rfl (Nat.le_of_ble_eq_true rfl)
  have N26 := Fr.snoc X26 N21 g_b1
  have pre27 : ∀ t, Steps p.tables e below (T26.setTop (mkF m 111 #[.val (.int p1), .val (.int p2), .val (.int p3), .val (.int p4), .val (.int p5), .val (.ref b1), .unset, .unset, .unset, .unset, .unset] [(.int (p5 &&& (32 : Int32))), (.int (5 : Int32)), (.ref b1)])) t → Steps p.tables e below (s₁.setTop (entryFrame m #[(.int p1), (.int p2), (.int p3), (.int p4), (.int p5)] maxLocals)) t := fun t kt => by
    refine pre24 t ?_
    show Steps p.tables e below (T21.setTop (mkF m 102 #[.val (.int p1), .val (.int p2), .val (.int p3), .val (.int p4), .val (.int p5), .val (.ref b1), .unset, .unset, .unset, .unset, .unset] [(.int v25), (.int (4 : Int32)), (.ref b1)])) _
    refine st26 _ ?_
    show Steps p.tables e below (T26.setTop (mkF m 103 #[.val (.int p1), .val (.int p2), .val (.int p3), .val (.int p4), .val (.int p5), .val (.ref b1), .unset, .unset, .unset, .unset, .unset] [])) _
    refine XS.aload X26.here hx rfl (hb hby at_103) rfl rfl ?_
    show Steps p.tables e below (T26.setTop (mkF m 105 #[.val (.int p1), .val (.int p2), .val (.int p3), .val (.int p4), .val (.int p5), .val (.ref b1), .unset, .unset, .unset, .unset, .unset] [(.ref b1)])) _
    refine XS.iconst X26.here hx rfl (hb hby at_105) ?_
    show Steps p.tables e below (T26.setTop (mkF m 106 #[.val (.int p1), .val (.int p2), .val (.int p3), .val (.int p4), .val (.int p5), .val (.ref b1), .unset, .unset, .unset, .unset, .unset] [(.int (5 : Int32)), (.ref b1)])) _
    refine XS.iload X26.here hx rfl (hb hby at_106) rfl ?_
    show Steps p.tables e below (T26.setTop (mkF m 108 #[.val (.int p1), .val (.int p2), .val (.int p3), .val (.int p4), .val (.int p5), .val (.ref b1), .unset, .unset, .unset, .unset, .unset] [(.int p5), (.int (5 : Int32)), (.ref b1)])) _
    refine XS.bipush X26.here hx rfl (hb hby at_108) ?_
    show Steps p.tables e below (T26.setTop (mkF m 110 #[.val (.int p1), .val (.int p2), .val (.int p3), .val (.int p4), .val (.int p5), .val (.ref b1), .unset, .unset, .unset, .unset, .unset] [(.int (32 : Int32)), (.int p5), (.int (5 : Int32)), (.ref b1)])) _
    refine XS.iand X26.here hx rfl (hb hby at_110) rfl ?_
    exact kt
  have pre29 : ∀ t, Steps p.tables e below (T26.setTop (mkF m 123 #[.val (.int p1), .val (.int p2), .val (.int p3), .val (.int p4), .val (.int p5), .val (.ref b1), .unset, .unset, .unset, .unset, .unset] [(.int (if (p5 &&& (32 : Int32)) = (0 : Int32) then ((p3.toUInt32 >>> ((16 : Int32) &&& 31).toUInt32).toInt32) else (65535 : Int32))), (.int (5 : Int32)), (.ref b1)])) t → Steps p.tables e below (s₁.setTop (entryFrame m #[(.int p1), (.int p2), (.int p3), (.int p4), (.int p5)] maxLocals)) t := by
    by_cases hc28 : (p5 &&& (32 : Int32)) = (0 : Int32)
    · refine fun t kt => pre27 t ?_
      repeat rw [if_pos hc28] at kt
      show Steps p.tables e below (T26.setTop (mkF m 111 #[.val (.int p1), .val (.int p2), .val (.int p3), .val (.int p4), .val (.int p5), .val (.ref b1), .unset, .unset, .unset, .unset, .unset] [(.int (p5 &&& (32 : Int32))), (.int (5 : Int32)), (.ref b1)])) _
      refine XS.ifYes X26.here hx rfl (pc0 := 111) (pc' := 119) rfl (hb hby at_111) rfl ((if0 _ _).trans (teq hc28).1) (by decide) (by decide) ?_
      show Steps p.tables e below (T26.setTop (mkF m 119 #[.val (.int p1), .val (.int p2), .val (.int p3), .val (.int p4), .val (.int p5), .val (.ref b1), .unset, .unset, .unset, .unset, .unset] [(.int (5 : Int32)), (.ref b1)])) _
      refine XS.iloadN X26.here hx rfl (hb hby at_119) rfl ?_
      show Steps p.tables e below (T26.setTop (mkF m 120 #[.val (.int p1), .val (.int p2), .val (.int p3), .val (.int p4), .val (.int p5), .val (.ref b1), .unset, .unset, .unset, .unset, .unset] [(.int p3), (.int (5 : Int32)), (.ref b1)])) _
      refine XS.bipush X26.here hx rfl (hb hby at_120) ?_
      show Steps p.tables e below (T26.setTop (mkF m 122 #[.val (.int p1), .val (.int p2), .val (.int p3), .val (.int p4), .val (.int p5), .val (.ref b1), .unset, .unset, .unset, .unset, .unset] [(.int (16 : Int32)), (.int p3), (.int (5 : Int32)), (.ref b1)])) _
      refine XS.iushr X26.here hx rfl (hb hby at_122) rfl ?_
      exact kt
    · refine fun t kt => pre27 t ?_
      repeat rw [if_neg hc28] at kt
      show Steps p.tables e below (T26.setTop (mkF m 111 #[.val (.int p1), .val (.int p2), .val (.int p3), .val (.int p4), .val (.int p5), .val (.ref b1), .unset, .unset, .unset, .unset, .unset] [(.int (p5 &&& (32 : Int32))), (.int (5 : Int32)), (.ref b1)])) _
      refine XS.ifNo X26.here hx rfl (hb hby at_111) rfl ((if0 _ _).trans (feq hc28).1) ?_
      show Steps p.tables e below (T26.setTop (mkF m 114 #[.val (.int p1), .val (.int p2), .val (.int p3), .val (.int p4), .val (.int p5), .val (.ref b1), .unset, .unset, .unset, .unset, .unset] [(.int (5 : Int32)), (.ref b1)])) _
      refine X26.ldcInt hx hown (mvT hZ (hw _ (List.mem_of_getElem? (i := 1) rfl))) (g := (mkF m 114 #[.val (.int p1), .val (.int p2), .val (.int p3), .val (.int p4), .val (.int p5), .val (.ref b1), .unset, .unset, .unset, .unset, .unset] [(.int (5 : Int32)), (.ref b1)])) rfl (hb hby at_114) _ ?_
      show Steps p.tables e below (T26.setTop (mkF m 116 #[.val (.int p1), .val (.int p2), .val (.int p3), .val (.int p4), .val (.int p5), .val (.ref b1), .unset, .unset, .unset, .unset, .unset] [(.int (65535 : Int32)), (.int (5 : Int32)), (.ref b1)])) _
      refine XS.goto X26.here hx rfl (pc0 := 116) (pc' := 123) rfl (hb hby at_116) (by decide) (by decide) ?_
      exact kt
  obtain ⟨v30, hv30⟩ : ∃ z : Int32, z = (if (p5 &&& (32 : Int32)) = (0 : Int32) then ((p3.toUInt32 >>> ((16 : Int32) &&& 31).toUInt32).toInt32) else (65535 : Int32)) := ⟨_, rfl⟩
  rw [← hv30] at pre29
  obtain ⟨cl31, Ar31, q31, S31, M31, H31, G31⟩ := id V26
  have hin31 : ¬ ((5 : Int32) < 0 ∨ cl31.slots.size ≤ ((5 : Int32)).toNatClampNeg) := inb_of S31 ⟨by decide, by decide⟩
  obtain ⟨T31, h31, X31, e31, W31, st31⟩ := stI X26 hx hZ e26 Ar31 (j := (5 : Int32)) hin31 (g := (mkF m 123 #[.val (.int p1), .val (.int p2), .val (.int p3), .val (.int p4), .val (.int p5), .val (.ref b1), .unset, .unset, .unset, .unset, .unset] [(.int v30), (.int (5 : Int32)), (.ref b1)])) rfl rfl (hb hby at_123)
  have V31 : Arv Z h31 b1 k1 .int (8 : Int32) [(.int v5), (.int v10), (.int v15), (.int v20), (.int v25), (.int v30), (.int (0 : Int32)), (.int (0 : Int32))] (.int (0 : Int32)) := Arv.set Ar31 q31 S31 M31 H31 G31 rfl W31 5 rfl (Nat.le_of_ble_eq_true rfl)
  have N31 := Fr.snoc X31 N26 g_b1
  obtain ⟨cl32, Ar32, q32, S32, M32, H32, G32⟩ := id V31
  have hin32 : ¬ ((6 : Int32) < 0 ∨ cl32.slots.size ≤ ((6 : Int32)).toNatClampNeg) := inb_of S32 ⟨by decide, by decide⟩
  obtain ⟨T32, h32, X32, e32, W32, st32⟩ := stI X31 hx hZ e31 Ar32 (j := (6 : Int32)) hin32 (g := (mkF m 132 #[.val (.int p1), .val (.int p2), .val (.int p3), .val (.int p4), .val (.int p5), .val (.ref b1), .unset, .unset, .unset, .unset, .unset] [(.int (p4 &&& (65535 : Int32))), (.int (6 : Int32)), (.ref b1)])) rfl rfl (hb hby at_132)
  have V32 : Arv Z h32 b1 k1 .int (8 : Int32) [(.int v5), (.int v10), (.int v15), (.int v20), (.int v25), (.int v30), (.int (p4 &&& (65535 : Int32))), (.int (0 : Int32))] (.int (0 : Int32)) := Arv.set Ar32 q32 S32 M32 H32 G32 rfl W32 6 rfl (Nat.le_of_ble_eq_true rfl)
  have N32 := Fr.snoc X32 N31 g_b1
  obtain ⟨cl33, Ar33, q33, S33, M33, H33, G33⟩ := id V32
  have hin33 : ¬ ((7 : Int32) < 0 ∨ cl33.slots.size ≤ ((7 : Int32)).toNatClampNeg) := inb_of S33 ⟨by decide, by decide⟩
  obtain ⟨T33, h33, X33, e33, W33, st33⟩ := stI X32 hx hZ e32 Ar33 (j := (7 : Int32)) hin33 (g := (mkF m 141 #[.val (.int p1), .val (.int p2), .val (.int p3), .val (.int p4), .val (.int p5), .val (.ref b1), .unset, .unset, .unset, .unset, .unset] [(.int ((p4.toUInt32 >>> ((16 : Int32) &&& 31).toUInt32).toInt32)), (.int (7 : Int32)), (.ref b1)])) rfl rfl (hb hby at_141)
  have V33 : Arv Z h33 b1 k1 .int (8 : Int32) [(.int v5), (.int v10), (.int v15), (.int v20), (.int v25), (.int v30), (.int (p4 &&& (65535 : Int32))), (.int ((p4.toUInt32 >>> ((16 : Int32) &&& 31).toUInt32).toInt32))] (.int (0 : Int32)) := Arv.set Ar33 q33 S33 M33 H33 G33 rfl W33 7 rfl (Nat.le_of_ble_eq_true rfl)
  have N33 := Fr.snoc X33 N32 g_b1
  obtain ⟨cl34, Ar34, q34, S34, M34, H34, G34⟩ := id V33
  have hin34 : ¬ ((0 : Int32) < 0 ∨ cl34.slots.size ≤ ((0 : Int32)).toNatClampNeg) := inb_of S34 ⟨by decide, by decide⟩
  have hat34 : cl34.slots[((0 : Int32)).toNatClampNeg]? = some (.int v5) := Has.at H34 hin34 rfl
  have pre35 : ∀ t, Steps p.tables e below (T33.setTop (mkF m 146 #[.val (.int p1), .val (.int p2), .val (.int p3), .val (.int p4), .val (.int p5), .val (.ref b1), .unset, .unset, .unset, .unset, .unset] [(.int v5)])) t → Steps p.tables e below (s₁.setTop (entryFrame m #[(.int p1), (.int p2), (.int p3), (.int p4), (.int p5)] maxLocals)) t := fun t kt => by
    refine pre29 t ?_
    show Steps p.tables e below (T26.setTop (mkF m 123 #[.val (.int p1), .val (.int p2), .val (.int p3), .val (.int p4), .val (.int p5), .val (.ref b1), .unset, .unset, .unset, .unset, .unset] [(.int v30), (.int (5 : Int32)), (.ref b1)])) _
    refine st31 _ ?_
    show Steps p.tables e below (T31.setTop (mkF m 124 #[.val (.int p1), .val (.int p2), .val (.int p3), .val (.int p4), .val (.int p5), .val (.ref b1), .unset, .unset, .unset, .unset, .unset] [])) _
    refine XS.aload X31.here hx rfl (hb hby at_124) rfl rfl ?_
    show Steps p.tables e below (T31.setTop (mkF m 126 #[.val (.int p1), .val (.int p2), .val (.int p3), .val (.int p4), .val (.int p5), .val (.ref b1), .unset, .unset, .unset, .unset, .unset] [(.ref b1)])) _
    refine XS.bipush X31.here hx rfl (hb hby at_126) ?_
    show Steps p.tables e below (T31.setTop (mkF m 128 #[.val (.int p1), .val (.int p2), .val (.int p3), .val (.int p4), .val (.int p5), .val (.ref b1), .unset, .unset, .unset, .unset, .unset] [(.int (6 : Int32)), (.ref b1)])) _
    refine XS.iloadN X31.here hx rfl (hb hby at_128) rfl ?_
    show Steps p.tables e below (T31.setTop (mkF m 129 #[.val (.int p1), .val (.int p2), .val (.int p3), .val (.int p4), .val (.int p5), .val (.ref b1), .unset, .unset, .unset, .unset, .unset] [(.int p4), (.int (6 : Int32)), (.ref b1)])) _
    refine X31.ldcInt hx hown (mvT hZ (hw _ (List.mem_of_getElem? (i := 1) rfl))) (g := (mkF m 129 #[.val (.int p1), .val (.int p2), .val (.int p3), .val (.int p4), .val (.int p5), .val (.ref b1), .unset, .unset, .unset, .unset, .unset] [(.int p4), (.int (6 : Int32)), (.ref b1)])) rfl (hb hby at_129) _ ?_
    show Steps p.tables e below (T31.setTop (mkF m 131 #[.val (.int p1), .val (.int p2), .val (.int p3), .val (.int p4), .val (.int p5), .val (.ref b1), .unset, .unset, .unset, .unset, .unset] [(.int (65535 : Int32)), (.int p4), (.int (6 : Int32)), (.ref b1)])) _
    refine XS.iand X31.here hx rfl (hb hby at_131) rfl ?_
    show Steps p.tables e below (T31.setTop (mkF m 132 #[.val (.int p1), .val (.int p2), .val (.int p3), .val (.int p4), .val (.int p5), .val (.ref b1), .unset, .unset, .unset, .unset, .unset] [(.int (p4 &&& (65535 : Int32))), (.int (6 : Int32)), (.ref b1)])) _
    refine st32 _ ?_
    show Steps p.tables e below (T32.setTop (mkF m 133 #[.val (.int p1), .val (.int p2), .val (.int p3), .val (.int p4), .val (.int p5), .val (.ref b1), .unset, .unset, .unset, .unset, .unset] [])) _
    refine XS.aload X32.here hx rfl (hb hby at_133) rfl rfl ?_
    show Steps p.tables e below (T32.setTop (mkF m 135 #[.val (.int p1), .val (.int p2), .val (.int p3), .val (.int p4), .val (.int p5), .val (.ref b1), .unset, .unset, .unset, .unset, .unset] [(.ref b1)])) _
    refine XS.bipush X32.here hx rfl (hb hby at_135) ?_
    show Steps p.tables e below (T32.setTop (mkF m 137 #[.val (.int p1), .val (.int p2), .val (.int p3), .val (.int p4), .val (.int p5), .val (.ref b1), .unset, .unset, .unset, .unset, .unset] [(.int (7 : Int32)), (.ref b1)])) _
    refine XS.iloadN X32.here hx rfl (hb hby at_137) rfl ?_
    show Steps p.tables e below (T32.setTop (mkF m 138 #[.val (.int p1), .val (.int p2), .val (.int p3), .val (.int p4), .val (.int p5), .val (.ref b1), .unset, .unset, .unset, .unset, .unset] [(.int p4), (.int (7 : Int32)), (.ref b1)])) _
    refine XS.bipush X32.here hx rfl (hb hby at_138) ?_
    show Steps p.tables e below (T32.setTop (mkF m 140 #[.val (.int p1), .val (.int p2), .val (.int p3), .val (.int p4), .val (.int p5), .val (.ref b1), .unset, .unset, .unset, .unset, .unset] [(.int (16 : Int32)), (.int p4), (.int (7 : Int32)), (.ref b1)])) _
    refine XS.iushr X32.here hx rfl (hb hby at_140) rfl ?_
    show Steps p.tables e below (T32.setTop (mkF m 141 #[.val (.int p1), .val (.int p2), .val (.int p3), .val (.int p4), .val (.int p5), .val (.ref b1), .unset, .unset, .unset, .unset, .unset] [(.int ((p4.toUInt32 >>> ((16 : Int32) &&& 31).toUInt32).toInt32)), (.int (7 : Int32)), (.ref b1)])) _
    refine st33 _ ?_
    show Steps p.tables e below (T33.setTop (mkF m 142 #[.val (.int p1), .val (.int p2), .val (.int p3), .val (.int p4), .val (.int p5), .val (.ref b1), .unset, .unset, .unset, .unset, .unset] [])) _
    refine XS.aload X33.here hx rfl (hb hby at_142) rfl rfl ?_
    show Steps p.tables e below (T33.setTop (mkF m 144 #[.val (.int p1), .val (.int p2), .val (.int p3), .val (.int p4), .val (.int p5), .val (.ref b1), .unset, .unset, .unset, .unset, .unset] [(.ref b1)])) _
    refine XS.iconst X33.here hx rfl (hb hby at_144) ?_
    show Steps p.tables e below (T33.setTop (mkF m 145 #[.val (.int p1), .val (.int p2), .val (.int p3), .val (.int p4), .val (.int p5), .val (.ref b1), .unset, .unset, .unset, .unset, .unset] [(.int (0 : Int32)), (.ref b1)])) _
    refine X33.iaload hx (j := (0 : Int32)) (v := (.int v5)) (by rw [e33]; exact Ar34.1) (State.isArrayOf_alike hZ.alike Ar34.2.1) Ar34.2.2 hin34 hat34 (g := (mkF m 145 #[.val (.int p1), .val (.int p2), .val (.int p3), .val (.int p4), .val (.int p5), .val (.ref b1), .unset, .unset, .unset, .unset, .unset] [(.int (0 : Int32)), (.ref b1)])) rfl rfl (hb hby at_145) _ ?_
    exact kt
  have pre52 : ∀ t, Steps p.tables e below (T33.setTop (mkF m 191 #[.val (.int p1), .val (.int p2), .val (.int p3), .val (.int p4), .val (.int p5), .val (.ref b1), .unset, .unset, .unset, .unset, .unset] [(.int (if v5 = (0 : Int32) then (if v10 = (0 : Int32) then (if v15 = (0 : Int32) then (if v20 = (0 : Int32) then (if v25 = (0 : Int32) then (if v30 = (65535 : Int32) then (1 : Int32) else (0 : Int32)) else (0 : Int32)) else (0 : Int32)) else (0 : Int32)) else (0 : Int32)) else (0 : Int32)))])) t → Steps p.tables e below (s₁.setTop (entryFrame m #[(.int p1), (.int p2), (.int p3), (.int p4), (.int p5)] maxLocals)) t := by
    by_cases hc36 : v5 = (0 : Int32)
    · obtain ⟨cl37, Ar37, q37, S37, M37, H37, G37⟩ := id V33
      have hin37 : ¬ ((1 : Int32) < 0 ∨ cl37.slots.size ≤ ((1 : Int32)).toNatClampNeg) := inb_of S37 ⟨by decide, by decide⟩
      have hat37 : cl37.slots[((1 : Int32)).toNatClampNeg]? = some (.int v10) := Has.at H37 hin37 rfl
      have pre38 : ∀ t, Steps p.tables e below (T33.setTop (mkF m 153 #[.val (.int p1), .val (.int p2), .val (.int p3), .val (.int p4), .val (.int p5), .val (.ref b1), .unset, .unset, .unset, .unset, .unset] [(.int v10)])) t → Steps p.tables e below (s₁.setTop (entryFrame m #[(.int p1), (.int p2), (.int p3), (.int p4), (.int p5)] maxLocals)) t := fun t kt => by
        refine pre35 t ?_
        show Steps p.tables e below (T33.setTop (mkF m 146 #[.val (.int p1), .val (.int p2), .val (.int p3), .val (.int p4), .val (.int p5), .val (.ref b1), .unset, .unset, .unset, .unset, .unset] [(.int v5)])) _
        refine XS.ifNo X33.here hx rfl (hb hby at_146) rfl ((if0 _ _).trans (teq hc36).2) ?_
        show Steps p.tables e below (T33.setTop (mkF m 149 #[.val (.int p1), .val (.int p2), .val (.int p3), .val (.int p4), .val (.int p5), .val (.ref b1), .unset, .unset, .unset, .unset, .unset] [])) _
        refine XS.aload X33.here hx rfl (hb hby at_149) rfl rfl ?_
        show Steps p.tables e below (T33.setTop (mkF m 151 #[.val (.int p1), .val (.int p2), .val (.int p3), .val (.int p4), .val (.int p5), .val (.ref b1), .unset, .unset, .unset, .unset, .unset] [(.ref b1)])) _
        refine XS.iconst X33.here hx rfl (hb hby at_151) ?_
        show Steps p.tables e below (T33.setTop (mkF m 152 #[.val (.int p1), .val (.int p2), .val (.int p3), .val (.int p4), .val (.int p5), .val (.ref b1), .unset, .unset, .unset, .unset, .unset] [(.int (1 : Int32)), (.ref b1)])) _
        refine X33.iaload hx (j := (1 : Int32)) (v := (.int v10)) (by rw [e33]; exact Ar37.1) (State.isArrayOf_alike hZ.alike Ar37.2.1) Ar37.2.2 hin37 hat37 (g := (mkF m 152 #[.val (.int p1), .val (.int p2), .val (.int p3), .val (.int p4), .val (.int p5), .val (.ref b1), .unset, .unset, .unset, .unset, .unset] [(.int (1 : Int32)), (.ref b1)])) rfl rfl (hb hby at_152) _ ?_
        exact kt
      by_cases hc39 : v10 = (0 : Int32)
      · obtain ⟨cl40, Ar40, q40, S40, M40, H40, G40⟩ := id V33
        have hin40 : ¬ ((2 : Int32) < 0 ∨ cl40.slots.size ≤ ((2 : Int32)).toNatClampNeg) := inb_of S40 ⟨by decide, by decide⟩
        have hat40 : cl40.slots[((2 : Int32)).toNatClampNeg]? = some (.int v15) := Has.at H40 hin40 rfl
        have pre41 : ∀ t, Steps p.tables e below (T33.setTop (mkF m 160 #[.val (.int p1), .val (.int p2), .val (.int p3), .val (.int p4), .val (.int p5), .val (.ref b1), .unset, .unset, .unset, .unset, .unset] [(.int v15)])) t → Steps p.tables e below (s₁.setTop (entryFrame m #[(.int p1), (.int p2), (.int p3), (.int p4), (.int p5)] maxLocals)) t := fun t kt => by
          refine pre38 t ?_
          show Steps p.tables e below (T33.setTop (mkF m 153 #[.val (.int p1), .val (.int p2), .val (.int p3), .val (.int p4), .val (.int p5), .val (.ref b1), .unset, .unset, .unset, .unset, .unset] [(.int v10)])) _
          refine XS.ifNo X33.here hx rfl (hb hby at_153) rfl ((if0 _ _).trans (teq hc39).2) ?_
          show Steps p.tables e below (T33.setTop (mkF m 156 #[.val (.int p1), .val (.int p2), .val (.int p3), .val (.int p4), .val (.int p5), .val (.ref b1), .unset, .unset, .unset, .unset, .unset] [])) _
          refine XS.aload X33.here hx rfl (hb hby at_156) rfl rfl ?_
          show Steps p.tables e below (T33.setTop (mkF m 158 #[.val (.int p1), .val (.int p2), .val (.int p3), .val (.int p4), .val (.int p5), .val (.ref b1), .unset, .unset, .unset, .unset, .unset] [(.ref b1)])) _
          refine XS.iconst X33.here hx rfl (hb hby at_158) ?_
          show Steps p.tables e below (T33.setTop (mkF m 159 #[.val (.int p1), .val (.int p2), .val (.int p3), .val (.int p4), .val (.int p5), .val (.ref b1), .unset, .unset, .unset, .unset, .unset] [(.int (2 : Int32)), (.ref b1)])) _
          refine X33.iaload hx (j := (2 : Int32)) (v := (.int v15)) (by rw [e33]; exact Ar40.1) (State.isArrayOf_alike hZ.alike Ar40.2.1) Ar40.2.2 hin40 hat40 (g := (mkF m 159 #[.val (.int p1), .val (.int p2), .val (.int p3), .val (.int p4), .val (.int p5), .val (.ref b1), .unset, .unset, .unset, .unset, .unset] [(.int (2 : Int32)), (.ref b1)])) rfl rfl (hb hby at_159) _ ?_
          exact kt
        by_cases hc42 : v15 = (0 : Int32)
        · obtain ⟨cl43, Ar43, q43, S43, M43, H43, G43⟩ := id V33
          have hin43 : ¬ ((3 : Int32) < 0 ∨ cl43.slots.size ≤ ((3 : Int32)).toNatClampNeg) := inb_of S43 ⟨by decide, by decide⟩
          have hat43 : cl43.slots[((3 : Int32)).toNatClampNeg]? = some (.int v20) := Has.at H43 hin43 rfl
          have pre44 : ∀ t, Steps p.tables e below (T33.setTop (mkF m 167 #[.val (.int p1), .val (.int p2), .val (.int p3), .val (.int p4), .val (.int p5), .val (.ref b1), .unset, .unset, .unset, .unset, .unset] [(.int v20)])) t → Steps p.tables e below (s₁.setTop (entryFrame m #[(.int p1), (.int p2), (.int p3), (.int p4), (.int p5)] maxLocals)) t := fun t kt => by
            refine pre41 t ?_
            show Steps p.tables e below (T33.setTop (mkF m 160 #[.val (.int p1), .val (.int p2), .val (.int p3), .val (.int p4), .val (.int p5), .val (.ref b1), .unset, .unset, .unset, .unset, .unset] [(.int v15)])) _
            refine XS.ifNo X33.here hx rfl (hb hby at_160) rfl ((if0 _ _).trans (teq hc42).2) ?_
            show Steps p.tables e below (T33.setTop (mkF m 163 #[.val (.int p1), .val (.int p2), .val (.int p3), .val (.int p4), .val (.int p5), .val (.ref b1), .unset, .unset, .unset, .unset, .unset] [])) _
            refine XS.aload X33.here hx rfl (hb hby at_163) rfl rfl ?_
            show Steps p.tables e below (T33.setTop (mkF m 165 #[.val (.int p1), .val (.int p2), .val (.int p3), .val (.int p4), .val (.int p5), .val (.ref b1), .unset, .unset, .unset, .unset, .unset] [(.ref b1)])) _
            refine XS.iconst X33.here hx rfl (hb hby at_165) ?_
            show Steps p.tables e below (T33.setTop (mkF m 166 #[.val (.int p1), .val (.int p2), .val (.int p3), .val (.int p4), .val (.int p5), .val (.ref b1), .unset, .unset, .unset, .unset, .unset] [(.int (3 : Int32)), (.ref b1)])) _
            refine X33.iaload hx (j := (3 : Int32)) (v := (.int v20)) (by rw [e33]; exact Ar43.1) (State.isArrayOf_alike hZ.alike Ar43.2.1) Ar43.2.2 hin43 hat43 (g := (mkF m 166 #[.val (.int p1), .val (.int p2), .val (.int p3), .val (.int p4), .val (.int p5), .val (.ref b1), .unset, .unset, .unset, .unset, .unset] [(.int (3 : Int32)), (.ref b1)])) rfl rfl (hb hby at_166) _ ?_
            exact kt
          by_cases hc45 : v20 = (0 : Int32)
          · obtain ⟨cl46, Ar46, q46, S46, M46, H46, G46⟩ := id V33
            have hin46 : ¬ ((4 : Int32) < 0 ∨ cl46.slots.size ≤ ((4 : Int32)).toNatClampNeg) := inb_of S46 ⟨by decide, by decide⟩
            have hat46 : cl46.slots[((4 : Int32)).toNatClampNeg]? = some (.int v25) := Has.at H46 hin46 rfl
            have pre47 : ∀ t, Steps p.tables e below (T33.setTop (mkF m 174 #[.val (.int p1), .val (.int p2), .val (.int p3), .val (.int p4), .val (.int p5), .val (.ref b1), .unset, .unset, .unset, .unset, .unset] [(.int v25)])) t → Steps p.tables e below (s₁.setTop (entryFrame m #[(.int p1), (.int p2), (.int p3), (.int p4), (.int p5)] maxLocals)) t := fun t kt => by
              refine pre44 t ?_
              show Steps p.tables e below (T33.setTop (mkF m 167 #[.val (.int p1), .val (.int p2), .val (.int p3), .val (.int p4), .val (.int p5), .val (.ref b1), .unset, .unset, .unset, .unset, .unset] [(.int v20)])) _
              refine XS.ifNo X33.here hx rfl (hb hby at_167) rfl ((if0 _ _).trans (teq hc45).2) ?_
              show Steps p.tables e below (T33.setTop (mkF m 170 #[.val (.int p1), .val (.int p2), .val (.int p3), .val (.int p4), .val (.int p5), .val (.ref b1), .unset, .unset, .unset, .unset, .unset] [])) _
              refine XS.aload X33.here hx rfl (hb hby at_170) rfl rfl ?_
              show Steps p.tables e below (T33.setTop (mkF m 172 #[.val (.int p1), .val (.int p2), .val (.int p3), .val (.int p4), .val (.int p5), .val (.ref b1), .unset, .unset, .unset, .unset, .unset] [(.ref b1)])) _
              refine XS.iconst X33.here hx rfl (hb hby at_172) ?_
              show Steps p.tables e below (T33.setTop (mkF m 173 #[.val (.int p1), .val (.int p2), .val (.int p3), .val (.int p4), .val (.int p5), .val (.ref b1), .unset, .unset, .unset, .unset, .unset] [(.int (4 : Int32)), (.ref b1)])) _
              refine X33.iaload hx (j := (4 : Int32)) (v := (.int v25)) (by rw [e33]; exact Ar46.1) (State.isArrayOf_alike hZ.alike Ar46.2.1) Ar46.2.2 hin46 hat46 (g := (mkF m 173 #[.val (.int p1), .val (.int p2), .val (.int p3), .val (.int p4), .val (.int p5), .val (.ref b1), .unset, .unset, .unset, .unset, .unset] [(.int (4 : Int32)), (.ref b1)])) rfl rfl (hb hby at_173) _ ?_
              exact kt
            by_cases hc48 : v25 = (0 : Int32)
            · obtain ⟨cl49, Ar49, q49, S49, M49, H49, G49⟩ := id V33
              have hin49 : ¬ ((5 : Int32) < 0 ∨ cl49.slots.size ≤ ((5 : Int32)).toNatClampNeg) := inb_of S49 ⟨by decide, by decide⟩
              have hat49 : cl49.slots[((5 : Int32)).toNatClampNeg]? = some (.int v30) := Has.at H49 hin49 rfl
              have pre50 : ∀ t, Steps p.tables e below (T33.setTop (mkF m 183 #[.val (.int p1), .val (.int p2), .val (.int p3), .val (.int p4), .val (.int p5), .val (.ref b1), .unset, .unset, .unset, .unset, .unset] [(.int (65535 : Int32)), (.int v30)])) t → Steps p.tables e below (s₁.setTop (entryFrame m #[(.int p1), (.int p2), (.int p3), (.int p4), (.int p5)] maxLocals)) t := fun t kt => by
                refine pre47 t ?_
                show Steps p.tables e below (T33.setTop (mkF m 174 #[.val (.int p1), .val (.int p2), .val (.int p3), .val (.int p4), .val (.int p5), .val (.ref b1), .unset, .unset, .unset, .unset, .unset] [(.int v25)])) _
                refine XS.ifNo X33.here hx rfl (hb hby at_174) rfl ((if0 _ _).trans (teq hc48).2) ?_
                show Steps p.tables e below (T33.setTop (mkF m 177 #[.val (.int p1), .val (.int p2), .val (.int p3), .val (.int p4), .val (.int p5), .val (.ref b1), .unset, .unset, .unset, .unset, .unset] [])) _
                refine XS.aload X33.here hx rfl (hb hby at_177) rfl rfl ?_
                show Steps p.tables e below (T33.setTop (mkF m 179 #[.val (.int p1), .val (.int p2), .val (.int p3), .val (.int p4), .val (.int p5), .val (.ref b1), .unset, .unset, .unset, .unset, .unset] [(.ref b1)])) _
                refine XS.iconst X33.here hx rfl (hb hby at_179) ?_
                show Steps p.tables e below (T33.setTop (mkF m 180 #[.val (.int p1), .val (.int p2), .val (.int p3), .val (.int p4), .val (.int p5), .val (.ref b1), .unset, .unset, .unset, .unset, .unset] [(.int (5 : Int32)), (.ref b1)])) _
                refine X33.iaload hx (j := (5 : Int32)) (v := (.int v30)) (by rw [e33]; exact Ar49.1) (State.isArrayOf_alike hZ.alike Ar49.2.1) Ar49.2.2 hin49 hat49 (g := (mkF m 180 #[.val (.int p1), .val (.int p2), .val (.int p3), .val (.int p4), .val (.int p5), .val (.ref b1), .unset, .unset, .unset, .unset, .unset] [(.int (5 : Int32)), (.ref b1)])) rfl rfl (hb hby at_180) _ ?_
                show Steps p.tables e below (T33.setTop (mkF m 181 #[.val (.int p1), .val (.int p2), .val (.int p3), .val (.int p4), .val (.int p5), .val (.ref b1), .unset, .unset, .unset, .unset, .unset] [(.int v30)])) _
                refine X33.ldcInt hx hown (mvT hZ (hw _ (List.mem_of_getElem? (i := 1) rfl))) (g := (mkF m 181 #[.val (.int p1), .val (.int p2), .val (.int p3), .val (.int p4), .val (.int p5), .val (.ref b1), .unset, .unset, .unset, .unset, .unset] [(.int v30)])) rfl (hb hby at_181) _ ?_
                exact kt
              by_cases hc51 : v30 = (65535 : Int32)
              · refine fun t kt => pre50 t ?_
                repeat rw [if_pos hc36] at kt
                repeat rw [if_pos hc39] at kt
                repeat rw [if_pos hc42] at kt
                repeat rw [if_pos hc45] at kt
                repeat rw [if_pos hc48] at kt
                repeat rw [if_pos hc51] at kt
                show Steps p.tables e below (T33.setTop (mkF m 183 #[.val (.int p1), .val (.int p2), .val (.int p3), .val (.int p4), .val (.int p5), .val (.ref b1), .unset, .unset, .unset, .unset, .unset] [(.int (65535 : Int32)), (.int v30)])) _
                refine XS.icmpNo X33.here hx rfl (hb hby at_183) rfl (teq hc51).2 ?_
                show Steps p.tables e below (T33.setTop (mkF m 186 #[.val (.int p1), .val (.int p2), .val (.int p3), .val (.int p4), .val (.int p5), .val (.ref b1), .unset, .unset, .unset, .unset, .unset] [])) _
                refine XS.iconst X33.here hx rfl (hb hby at_186) ?_
                show Steps p.tables e below (T33.setTop (mkF m 187 #[.val (.int p1), .val (.int p2), .val (.int p3), .val (.int p4), .val (.int p5), .val (.ref b1), .unset, .unset, .unset, .unset, .unset] [(.int (1 : Int32))])) _
                refine XS.goto X33.here hx rfl (pc0 := 187) (pc' := 191) rfl (hb hby at_187) (by decide) (by decide) ?_
                exact kt
              · refine fun t kt => pre50 t ?_
                repeat rw [if_pos hc36] at kt
                repeat rw [if_pos hc39] at kt
                repeat rw [if_pos hc42] at kt
                repeat rw [if_pos hc45] at kt
                repeat rw [if_pos hc48] at kt
                repeat rw [if_neg hc51] at kt
                show Steps p.tables e below (T33.setTop (mkF m 183 #[.val (.int p1), .val (.int p2), .val (.int p3), .val (.int p4), .val (.int p5), .val (.ref b1), .unset, .unset, .unset, .unset, .unset] [(.int (65535 : Int32)), (.int v30)])) _
                refine XS.icmpYes X33.here hx rfl (pc0 := 183) (pc' := 190) rfl (hb hby at_183) rfl (feq hc51).2 (by decide) (by decide) ?_
                show Steps p.tables e below (T33.setTop (mkF m 190 #[.val (.int p1), .val (.int p2), .val (.int p3), .val (.int p4), .val (.int p5), .val (.ref b1), .unset, .unset, .unset, .unset, .unset] [])) _
                refine XS.iconst X33.here hx rfl (hb hby at_190) ?_
                exact kt
            · refine fun t kt => pre47 t ?_
              repeat rw [if_pos hc36] at kt
              repeat rw [if_pos hc39] at kt
              repeat rw [if_pos hc42] at kt
              repeat rw [if_pos hc45] at kt
              repeat rw [if_neg hc48] at kt
              show Steps p.tables e below (T33.setTop (mkF m 174 #[.val (.int p1), .val (.int p2), .val (.int p3), .val (.int p4), .val (.int p5), .val (.ref b1), .unset, .unset, .unset, .unset, .unset] [(.int v25)])) _
              refine XS.ifYes X33.here hx rfl (pc0 := 174) (pc' := 190) rfl (hb hby at_174) rfl ((if0 _ _).trans (feq hc48).2) (by decide) (by decide) ?_
              show Steps p.tables e below (T33.setTop (mkF m 190 #[.val (.int p1), .val (.int p2), .val (.int p3), .val (.int p4), .val (.int p5), .val (.ref b1), .unset, .unset, .unset, .unset, .unset] [])) _
              refine XS.iconst X33.here hx rfl (hb hby at_190) ?_
              exact kt
          · refine fun t kt => pre44 t ?_
            repeat rw [if_pos hc36] at kt
            repeat rw [if_pos hc39] at kt
            repeat rw [if_pos hc42] at kt
            repeat rw [if_neg hc45] at kt
            show Steps p.tables e below (T33.setTop (mkF m 167 #[.val (.int p1), .val (.int p2), .val (.int p3), .val (.int p4), .val (.int p5), .val (.ref b1), .unset, .unset, .unset, .unset, .unset] [(.int v20)])) _
            refine XS.ifYes X33.here hx rfl (pc0 := 167) (pc' := 190) rfl (hb hby at_167) rfl ((if0 _ _).trans (feq hc45).2) (by decide) (by decide) ?_
            show Steps p.tables e below (T33.setTop (mkF m 190 #[.val (.int p1), .val (.int p2), .val (.int p3), .val (.int p4), .val (.int p5), .val (.ref b1), .unset, .unset, .unset, .unset, .unset] [])) _
            refine XS.iconst X33.here hx rfl (hb hby at_190) ?_
            exact kt
        · refine fun t kt => pre41 t ?_
          repeat rw [if_pos hc36] at kt
          repeat rw [if_pos hc39] at kt
          repeat rw [if_neg hc42] at kt
          show Steps p.tables e below (T33.setTop (mkF m 160 #[.val (.int p1), .val (.int p2), .val (.int p3), .val (.int p4), .val (.int p5), .val (.ref b1), .unset, .unset, .unset, .unset, .unset] [(.int v15)])) _
          refine XS.ifYes X33.here hx rfl (pc0 := 160) (pc' := 190) rfl (hb hby at_160) rfl ((if0 _ _).trans (feq hc42).2) (by decide) (by decide) ?_
          show Steps p.tables e below (T33.setTop (mkF m 190 #[.val (.int p1), .val (.int p2), .val (.int p3), .val (.int p4), .val (.int p5), .val (.ref b1), .unset, .unset, .unset, .unset, .unset] [])) _
          refine XS.iconst X33.here hx rfl (hb hby at_190) ?_
          exact kt
      · refine fun t kt => pre38 t ?_
        repeat rw [if_pos hc36] at kt
        repeat rw [if_neg hc39] at kt
        show Steps p.tables e below (T33.setTop (mkF m 153 #[.val (.int p1), .val (.int p2), .val (.int p3), .val (.int p4), .val (.int p5), .val (.ref b1), .unset, .unset, .unset, .unset, .unset] [(.int v10)])) _
        refine XS.ifYes X33.here hx rfl (pc0 := 153) (pc' := 190) rfl (hb hby at_153) rfl ((if0 _ _).trans (feq hc39).2) (by decide) (by decide) ?_
        show Steps p.tables e below (T33.setTop (mkF m 190 #[.val (.int p1), .val (.int p2), .val (.int p3), .val (.int p4), .val (.int p5), .val (.ref b1), .unset, .unset, .unset, .unset, .unset] [])) _
        refine XS.iconst X33.here hx rfl (hb hby at_190) ?_
        exact kt
    · refine fun t kt => pre35 t ?_
      repeat rw [if_neg hc36] at kt
      show Steps p.tables e below (T33.setTop (mkF m 146 #[.val (.int p1), .val (.int p2), .val (.int p3), .val (.int p4), .val (.int p5), .val (.ref b1), .unset, .unset, .unset, .unset, .unset] [(.int v5)])) _
      refine XS.ifYes X33.here hx rfl (pc0 := 146) (pc' := 190) rfl (hb hby at_146) rfl ((if0 _ _).trans (feq hc36).2) (by decide) (by decide) ?_
      show Steps p.tables e below (T33.setTop (mkF m 190 #[.val (.int p1), .val (.int p2), .val (.int p3), .val (.int p4), .val (.int p5), .val (.ref b1), .unset, .unset, .unset, .unset, .unset] [])) _
      refine XS.iconst X33.here hx rfl (hb hby at_190) ?_
      exact kt
  obtain ⟨v53, hv53⟩ : ∃ z : Int32, z = (if v5 = (0 : Int32) then (if v10 = (0 : Int32) then (if v15 = (0 : Int32) then (if v20 = (0 : Int32) then (if v25 = (0 : Int32) then (if v30 = (65535 : Int32) then (1 : Int32) else (0 : Int32)) else (0 : Int32)) else (0 : Int32)) else (0 : Int32)) else (0 : Int32)) else (0 : Int32)) := ⟨_, rfl⟩
  rw [← hv53] at pre52
  have pre54 : ∀ t, Steps p.tables e below (T33.setTop (mkF m 195 #[.val (.int p1), .val (.int p2), .val (.int p3), .val (.int p4), .val (.int p5), .val (.ref b1), .val (.int v53), .unset, .unset, .unset, .unset] [(.int v53)])) t → Steps p.tables e below (s₁.setTop (entryFrame m #[(.int p1), (.int p2), (.int p3), (.int p4), (.int p5)] maxLocals)) t := fun t kt => by
    refine pre52 t ?_
    show Steps p.tables e below (T33.setTop (mkF m 191 #[.val (.int p1), .val (.int p2), .val (.int p3), .val (.int p4), .val (.int p5), .val (.ref b1), .unset, .unset, .unset, .unset, .unset] [(.int v53)])) _
    refine XS.istore X33.here hx rfl (hb hby at_191) rfl (l' := #[.val (.int p1), .val (.int p2), .val (.int p3), .val (.int p4), .val (.int p5), .val (.ref b1), .val (.int v53), .unset, .unset, .unset, .unset]) rfl ?_
    show Steps p.tables e below (T33.setTop (mkF m 193 #[.val (.int p1), .val (.int p2), .val (.int p3), .val (.int p4), .val (.int p5), .val (.ref b1), .val (.int v53), .unset, .unset, .unset, .unset] [])) _
    refine XS.iload X33.here hx rfl (hb hby at_193) rfl ?_
    exact kt
  have pre58 : ∀ t, Steps p.tables e below (T33.setTop (mkF m 221 #[.val (.int p1), .val (.int p2), .val (.int p3), .val (.int p4), .val (.int p5), .val (.ref b1), .val (.int v53), .unset, .unset, .unset, .unset] [(.long (if v53 = (0 : Int32) then (-1 : Int64) else ((((p4 &&& (65535 : Int32)).toInt64) * (65536 : Int64)) + (((p4.toUInt32 >>> ((16 : Int32) &&& 31).toUInt32).toInt32).toInt64))))])) t → Steps p.tables e below (s₁.setTop (entryFrame m #[(.int p1), (.int p2), (.int p3), (.int p4), (.int p5)] maxLocals)) t := by
    by_cases hc55 : v53 = (0 : Int32)
    · refine fun t kt => pre54 t ?_
      repeat rw [if_pos hc55] at kt
      show Steps p.tables e below (T33.setTop (mkF m 195 #[.val (.int p1), .val (.int p2), .val (.int p3), .val (.int p4), .val (.int p5), .val (.ref b1), .val (.int v53), .unset, .unset, .unset, .unset] [(.int v53)])) _
      refine XS.ifYes X33.here hx rfl (pc0 := 195) (pc' := 218) rfl (hb hby at_195) rfl ((if0 _ _).trans (teq hc55).1) (by decide) (by decide) ?_
      show Steps p.tables e below (T33.setTop (mkF m 218 #[.val (.int p1), .val (.int p2), .val (.int p3), .val (.int p4), .val (.int p5), .val (.ref b1), .val (.int v53), .unset, .unset, .unset, .unset] [])) _
      refine X33.ldc2Long hx hown (mvT hZ (hw _ (List.mem_of_getElem? (i := 2) rfl))) (g := (mkF m 218 #[.val (.int p1), .val (.int p2), .val (.int p3), .val (.int p4), .val (.int p5), .val (.ref b1), .val (.int v53), .unset, .unset, .unset, .unset] [])) rfl (hb hby at_218) _ ?_
      exact kt
    · obtain ⟨cl56, Ar56, q56, S56, M56, H56, G56⟩ := id V33
      have hin56 : ¬ ((6 : Int32) < 0 ∨ cl56.slots.size ≤ ((6 : Int32)).toNatClampNeg) := inb_of S56 ⟨by decide, by decide⟩
      have hat56 : cl56.slots[((6 : Int32)).toNatClampNeg]? = some (.int (p4 &&& (65535 : Int32))) := Has.at H56 hin56 rfl
      obtain ⟨cl57, Ar57, q57, S57, M57, H57, G57⟩ := id V33
      have hin57 : ¬ ((7 : Int32) < 0 ∨ cl57.slots.size ≤ ((7 : Int32)).toNatClampNeg) := inb_of S57 ⟨by decide, by decide⟩
      have hat57 : cl57.slots[((7 : Int32)).toNatClampNeg]? = some (.int ((p4.toUInt32 >>> ((16 : Int32) &&& 31).toUInt32).toInt32)) := Has.at H57 hin57 rfl
      refine fun t kt => pre54 t ?_
      repeat rw [if_neg hc55] at kt
      show Steps p.tables e below (T33.setTop (mkF m 195 #[.val (.int p1), .val (.int p2), .val (.int p3), .val (.int p4), .val (.int p5), .val (.ref b1), .val (.int v53), .unset, .unset, .unset, .unset] [(.int v53)])) _
      refine XS.ifNo X33.here hx rfl (hb hby at_195) rfl ((if0 _ _).trans (feq hc55).1) ?_
      show Steps p.tables e below (T33.setTop (mkF m 198 #[.val (.int p1), .val (.int p2), .val (.int p3), .val (.int p4), .val (.int p5), .val (.ref b1), .val (.int v53), .unset, .unset, .unset, .unset] [])) _
      refine XS.aload X33.here hx rfl (hb hby at_198) rfl rfl ?_
      show Steps p.tables e below (T33.setTop (mkF m 200 #[.val (.int p1), .val (.int p2), .val (.int p3), .val (.int p4), .val (.int p5), .val (.ref b1), .val (.int v53), .unset, .unset, .unset, .unset] [(.ref b1)])) _
      refine XS.bipush X33.here hx rfl (hb hby at_200) ?_
      show Steps p.tables e below (T33.setTop (mkF m 202 #[.val (.int p1), .val (.int p2), .val (.int p3), .val (.int p4), .val (.int p5), .val (.ref b1), .val (.int v53), .unset, .unset, .unset, .unset] [(.int (6 : Int32)), (.ref b1)])) _
      refine X33.iaload hx (j := (6 : Int32)) (v := (.int (p4 &&& (65535 : Int32)))) (by rw [e33]; exact Ar56.1) (State.isArrayOf_alike hZ.alike Ar56.2.1) Ar56.2.2 hin56 hat56 (g := (mkF m 202 #[.val (.int p1), .val (.int p2), .val (.int p3), .val (.int p4), .val (.int p5), .val (.ref b1), .val (.int v53), .unset, .unset, .unset, .unset] [(.int (6 : Int32)), (.ref b1)])) rfl rfl (hb hby at_202) _ ?_
      show Steps p.tables e below (T33.setTop (mkF m 203 #[.val (.int p1), .val (.int p2), .val (.int p3), .val (.int p4), .val (.int p5), .val (.ref b1), .val (.int v53), .unset, .unset, .unset, .unset] [(.int (p4 &&& (65535 : Int32)))])) _
      refine XS.i2l X33.here hx rfl (hb hby at_203) rfl ?_
      show Steps p.tables e below (T33.setTop (mkF m 204 #[.val (.int p1), .val (.int p2), .val (.int p3), .val (.int p4), .val (.int p5), .val (.ref b1), .val (.int v53), .unset, .unset, .unset, .unset] [(.long ((p4 &&& (65535 : Int32)).toInt64))])) _
      refine X33.ldc2Long hx hown (mvT hZ (hw _ (List.mem_of_getElem? (i := 8) rfl))) (g := (mkF m 204 #[.val (.int p1), .val (.int p2), .val (.int p3), .val (.int p4), .val (.int p5), .val (.ref b1), .val (.int v53), .unset, .unset, .unset, .unset] [(.long ((p4 &&& (65535 : Int32)).toInt64))])) rfl (hb hby at_204) _ ?_
      show Steps p.tables e below (T33.setTop (mkF m 207 #[.val (.int p1), .val (.int p2), .val (.int p3), .val (.int p4), .val (.int p5), .val (.ref b1), .val (.int v53), .unset, .unset, .unset, .unset] [(.long (65536 : Int64)), (.long ((p4 &&& (65535 : Int32)).toInt64))])) _
      refine XS.lmul X33.here hx rfl (hb hby at_207) rfl ?_
      show Steps p.tables e below (T33.setTop (mkF m 208 #[.val (.int p1), .val (.int p2), .val (.int p3), .val (.int p4), .val (.int p5), .val (.ref b1), .val (.int v53), .unset, .unset, .unset, .unset] [(.long (((p4 &&& (65535 : Int32)).toInt64) * (65536 : Int64)))])) _
      refine XS.aload X33.here hx rfl (hb hby at_208) rfl rfl ?_
      show Steps p.tables e below (T33.setTop (mkF m 210 #[.val (.int p1), .val (.int p2), .val (.int p3), .val (.int p4), .val (.int p5), .val (.ref b1), .val (.int v53), .unset, .unset, .unset, .unset] [(.ref b1), (.long (((p4 &&& (65535 : Int32)).toInt64) * (65536 : Int64)))])) _
      refine XS.bipush X33.here hx rfl (hb hby at_210) ?_
      show Steps p.tables e below (T33.setTop (mkF m 212 #[.val (.int p1), .val (.int p2), .val (.int p3), .val (.int p4), .val (.int p5), .val (.ref b1), .val (.int v53), .unset, .unset, .unset, .unset] [(.int (7 : Int32)), (.ref b1), (.long (((p4 &&& (65535 : Int32)).toInt64) * (65536 : Int64)))])) _
      refine X33.iaload hx (j := (7 : Int32)) (v := (.int ((p4.toUInt32 >>> ((16 : Int32) &&& 31).toUInt32).toInt32))) (by rw [e33]; exact Ar57.1) (State.isArrayOf_alike hZ.alike Ar57.2.1) Ar57.2.2 hin57 hat57 (g := (mkF m 212 #[.val (.int p1), .val (.int p2), .val (.int p3), .val (.int p4), .val (.int p5), .val (.ref b1), .val (.int v53), .unset, .unset, .unset, .unset] [(.int (7 : Int32)), (.ref b1), (.long (((p4 &&& (65535 : Int32)).toInt64) * (65536 : Int64)))])) rfl rfl (hb hby at_212) _ ?_
      show Steps p.tables e below (T33.setTop (mkF m 213 #[.val (.int p1), .val (.int p2), .val (.int p3), .val (.int p4), .val (.int p5), .val (.ref b1), .val (.int v53), .unset, .unset, .unset, .unset] [(.int ((p4.toUInt32 >>> ((16 : Int32) &&& 31).toUInt32).toInt32)), (.long (((p4 &&& (65535 : Int32)).toInt64) * (65536 : Int64)))])) _
      refine XS.i2l X33.here hx rfl (hb hby at_213) rfl ?_
      show Steps p.tables e below (T33.setTop (mkF m 214 #[.val (.int p1), .val (.int p2), .val (.int p3), .val (.int p4), .val (.int p5), .val (.ref b1), .val (.int v53), .unset, .unset, .unset, .unset] [(.long (((p4.toUInt32 >>> ((16 : Int32) &&& 31).toUInt32).toInt32).toInt64)), (.long (((p4 &&& (65535 : Int32)).toInt64) * (65536 : Int64)))])) _
      refine XS.ladd X33.here hx rfl (hb hby at_214) rfl ?_
      show Steps p.tables e below (T33.setTop (mkF m 215 #[.val (.int p1), .val (.int p2), .val (.int p3), .val (.int p4), .val (.int p5), .val (.ref b1), .val (.int v53), .unset, .unset, .unset, .unset] [(.long ((((p4 &&& (65535 : Int32)).toInt64) * (65536 : Int64)) + (((p4.toUInt32 >>> ((16 : Int32) &&& 31).toUInt32).toInt32).toInt64)))])) _
      refine XS.goto X33.here hx rfl (pc0 := 215) (pc' := 221) rfl (hb hby at_215) (by decide) (by decide) ?_
      exact kt
  obtain ⟨v59, hv59⟩ : ∃ z : Int64, z = (if v53 = (0 : Int32) then (-1 : Int64) else ((((p4 &&& (65535 : Int32)).toInt64) * (65536 : Int64)) + (((p4.toUInt32 >>> ((16 : Int32) &&& 31).toUInt32).toInt32).toInt64))) := ⟨_, rfl⟩
  rw [← hv59] at pre58
  have z61 : n0 ≤ h33.size := (Nat.le_trans (Nat.le_trans (Nat.le_trans (Nat.le_trans (Nat.le_trans (Nat.le_trans (Nat.le_trans (Nat.le_trans (Nat.le_trans Z0 E1.1) (Keep.of_wr W6).1) (Keep.of_wr W11).1) (Keep.of_wr W16).1) (Keep.of_wr W21).1) (Keep.of_wr W26).1) (Keep.of_wr W31).1) (Keep.of_wr W32).1) (Keep.of_wr W33).1)
  obtain ⟨_, _, ⟨T60, L60, k60, n60⟩, -, X60, ⟨Lc60, hQ60, l60, y60, z60⟩, st60⟩ := Jvm.LawKit.callS X33 hx (y := (⟨"com/example/fenceline/fenceline/url/IpAddress", "mappedIpv4", "([I)J"⟩ : MethodName)) hown (mvT hZ (hw _ (List.mem_of_getElem? (i := 3) rfl))) (mvT hZ (hw _ (List.mem_of_getElem? (i := 4) rfl))) (mvT hZ (hw _ (List.mem_of_getElem? (i := 5) rfl))) (mvT hZ (hw _ (List.mem_of_getElem? (i := 6) rfl))) (by decide) (backOf (W := 0) (rm1 l Z a0 hw [] b1 k1 v5 v10 v15 v20 v25 v30 (p4 &&& (65535 : Int32)) ((p4.toUInt32 >>> ((16 : Int32) &&& 31).toUInt32).toInt32) h33 n0 z61 V33) hZ (hw _ (List.mem_of_getElem? (i := 6) rfl)) (hw _ (List.mem_of_getElem? (i := 5) rfl)) (by decide) (by decide)) (g := (mkF m 225 #[.val (.int p1), .val (.int p2), .val (.int p3), .val (.int p4), .val (.int p5), .val (.ref b1), .val (.int v53), .val (.long v59), .second, .unset, .unset] [(.ref b1)])) rfl (by rw [hml]; rfl) (argsL := [(.ref b1)]) (rest := []) (lenOf pd_0_0 rfl) rfl (by show 2 * 0 + _ ≤ _; exact Nat.le_of_eq rfl) (hb hby at_225) (fun _ _ => ⟨rfl, e33, (by decide : 1 + 0 ≤ _), (by decide : 8 + 0 ≤ _)⟩)
  dsimp only [Pt.U, Pt.locs, Pt.cells, Pt.slots] at X60 l60 y60 z60 st60 hQ60
  subst l60 y60 z60
  obtain ⟨rfl, N60q, e60⟩ := hQ60
  have N60 := Fr.app N33 N60q
  have pre62 : ∀ t, Steps p.tables e below (T60.setTop (mkF m 235 #[.val (.int p1), .val (.int p2), .val (.int p3), .val (.int p4), .val (.int p5), .val (.ref b1), .val (.int v53), .val (.long v59), .second, .val (.long (F1 v5 v10 v15 v20 v25 v30 (p4 &&& (65535 : Int32)) ((p4.toUInt32 >>> ((16 : Int32) &&& 31).toUInt32).toInt32))), .second] [(.int (lcmpW (F1 v5 v10 v15 v20 v25 v30 (p4 &&& (65535 : Int32)) ((p4.toUInt32 >>> ((16 : Int32) &&& 31).toUInt32).toInt32)) v59))])) t → Steps p.tables e below (s₁.setTop (entryFrame m #[(.int p1), (.int p2), (.int p3), (.int p4), (.int p5)] maxLocals)) t := fun t kt => by
    refine pre58 t ?_
    show Steps p.tables e below (T33.setTop (mkF m 221 #[.val (.int p1), .val (.int p2), .val (.int p3), .val (.int p4), .val (.int p5), .val (.ref b1), .val (.int v53), .unset, .unset, .unset, .unset] [(.long v59)])) _
    refine XS.lstore X33.here hx rfl (hb hby at_221) rfl (l' := #[.val (.int p1), .val (.int p2), .val (.int p3), .val (.int p4), .val (.int p5), .val (.ref b1), .val (.int v53), .val (.long v59), .second, .unset, .unset]) rfl ?_
    show Steps p.tables e below (T33.setTop (mkF m 223 #[.val (.int p1), .val (.int p2), .val (.int p3), .val (.int p4), .val (.int p5), .val (.ref b1), .val (.int v53), .val (.long v59), .second, .unset, .unset] [])) _
    refine XS.aload X33.here hx rfl (hb hby at_223) rfl rfl ?_
    show Steps p.tables e below (T33.setTop (mkF m 225 #[.val (.int p1), .val (.int p2), .val (.int p3), .val (.int p4), .val (.int p5), .val (.ref b1), .val (.int v53), .val (.long v59), .second, .unset, .unset] [(.ref b1)])) _
    refine st60 _ ?_
    show Steps p.tables e below (T60.setTop (mkF m 228 #[.val (.int p1), .val (.int p2), .val (.int p3), .val (.int p4), .val (.int p5), .val (.ref b1), .val (.int v53), .val (.long v59), .second, .unset, .unset] [(.long (F1 v5 v10 v15 v20 v25 v30 (p4 &&& (65535 : Int32)) ((p4.toUInt32 >>> ((16 : Int32) &&& 31).toUInt32).toInt32)))])) _
    refine XS.lstore X60.here hx rfl (hb hby at_228) rfl (l' := #[.val (.int p1), .val (.int p2), .val (.int p3), .val (.int p4), .val (.int p5), .val (.ref b1), .val (.int v53), .val (.long v59), .second, .val (.long (F1 v5 v10 v15 v20 v25 v30 (p4 &&& (65535 : Int32)) ((p4.toUInt32 >>> ((16 : Int32) &&& 31).toUInt32).toInt32))), .second]) rfl ?_
    show Steps p.tables e below (T60.setTop (mkF m 230 #[.val (.int p1), .val (.int p2), .val (.int p3), .val (.int p4), .val (.int p5), .val (.ref b1), .val (.int v53), .val (.long v59), .second, .val (.long (F1 v5 v10 v15 v20 v25 v30 (p4 &&& (65535 : Int32)) ((p4.toUInt32 >>> ((16 : Int32) &&& 31).toUInt32).toInt32))), .second] [])) _
    refine XS.lload X60.here hx rfl (hb hby at_230) rfl ?_
    show Steps p.tables e below (T60.setTop (mkF m 232 #[.val (.int p1), .val (.int p2), .val (.int p3), .val (.int p4), .val (.int p5), .val (.ref b1), .val (.int v53), .val (.long v59), .second, .val (.long (F1 v5 v10 v15 v20 v25 v30 (p4 &&& (65535 : Int32)) ((p4.toUInt32 >>> ((16 : Int32) &&& 31).toUInt32).toInt32))), .second] [(.long (F1 v5 v10 v15 v20 v25 v30 (p4 &&& (65535 : Int32)) ((p4.toUInt32 >>> ((16 : Int32) &&& 31).toUInt32).toInt32)))])) _
    refine XS.lload X60.here hx rfl (hb hby at_232) rfl ?_
    show Steps p.tables e below (T60.setTop (mkF m 234 #[.val (.int p1), .val (.int p2), .val (.int p3), .val (.int p4), .val (.int p5), .val (.ref b1), .val (.int v53), .val (.long v59), .second, .val (.long (F1 v5 v10 v15 v20 v25 v30 (p4 &&& (65535 : Int32)) ((p4.toUInt32 >>> ((16 : Int32) &&& 31).toUInt32).toInt32))), .second] [(.long v59), (.long (F1 v5 v10 v15 v20 v25 v30 (p4 &&& (65535 : Int32)) ((p4.toUInt32 >>> ((16 : Int32) &&& 31).toUInt32).toInt32)))])) _
    refine XS.lcmp X60.here hx rfl (hb hby at_234) rfl ?_
    exact kt
  by_cases hc63 : (lcmpW (F1 v5 v10 v15 v20 v25 v30 (p4 &&& (65535 : Int32)) ((p4.toUInt32 >>> ((16 : Int32) &&& 31).toUInt32).toInt32)) v59) = (0 : Int32)
  · obtain ⟨fs, hr, hrun, hended, hW, hsame⟩ := X60.leave (v := some (.int (1 : Int32))) (fun h => by rw [Bd.returns] at h; cases h)
    refine ⟨_, _, pre62 _ ?_, hrun, hended, _, _, rfl, ?_, ⟨_, rfl⟩, hW, hsame.mono (by decide) (by decide)⟩
    · show Steps p.tables e below (T60.setTop (mkF m 235 #[.val (.int p1), .val (.int p2), .val (.int p3), .val (.int p4), .val (.int p5), .val (.ref b1), .val (.int v53), .val (.long v59), .second, .val (.long (F1 v5 v10 v15 v20 v25 v30 (p4 &&& (65535 : Int32)) ((p4.toUInt32 >>> ((16 : Int32) &&& 31).toUInt32).toInt32))), .second] [(.int (lcmpW (F1 v5 v10 v15 v20 v25 v30 (p4 &&& (65535 : Int32)) ((p4.toUInt32 >>> ((16 : Int32) &&& 31).toUInt32).toInt32)) v59))])) _
      refine XS.ifNo X60.here hx rfl (hb hby at_235) rfl ((if0 _ _).trans (teq hc63).2) ?_
      show Steps p.tables e below (T60.setTop (mkF m 238 #[.val (.int p1), .val (.int p2), .val (.int p3), .val (.int p4), .val (.int p5), .val (.ref b1), .val (.int v53), .val (.long v59), .second, .val (.long (F1 v5 v10 v15 v20 v25 v30 (p4 &&& (65535 : Int32)) ((p4.toUInt32 >>> ((16 : Int32) &&& 31).toUInt32).toInt32))), .second] [])) _
      refine XS.iconst X60.here hx rfl (hb hby at_238) ?_
      show Steps p.tables e below (T60.setTop (mkF m 239 #[.val (.int p1), .val (.int p2), .val (.int p3), .val (.int p4), .val (.int p5), .val (.ref b1), .val (.int v53), .val (.long v59), .second, .val (.long (F1 v5 v10 v15 v20 v25 v30 (p4 &&& (65535 : Int32)) ((p4.toUInt32 >>> ((16 : Int32) &&& 31).toUInt32).toInt32))), .second] [(.int (1 : Int32))])) _
      refine XS.goto X60.here hx rfl (pc0 := 239) (pc' := 243) rfl (hb hby at_239) (by decide) (by decide) ?_
      show Steps p.tables e below (T60.setTop (mkF m 243 #[.val (.int p1), .val (.int p2), .val (.int p3), .val (.int p4), .val (.int p5), .val (.ref b1), .val (.int v53), .val (.long v59), .second, .val (.long (F1 v5 v10 v15 v20 v25 v30 (p4 &&& (65535 : Int32)) ((p4.toUInt32 >>> ((16 : Int32) &&& 31).toUInt32).toInt32))), .second] [(.int (1 : Int32))])) _
      exact retN X60 hx (t := .boolean) Bd.returns (by simp) (hb hby at_243) hr
    · show Q0 Z p1 p2 p3 p4 p5 h0 n0 _ T60.heap _
      rw [e60]
      exact ⟨rfl, N60⟩
  · exact (leaf_0_2 p1 p2 p3 p4 p5 v5 hv5 v10 hv10 v15 hv15 v20 hv20 v25 hv25 v30 hv30 v53 hv53 v59 hv59 hc63).elim
set_option maxRecDepth 65536 in
set_option maxHeartbeats 40000000 in
theorem comes_1 {Post : Tables → Env → Array Value → State → Outcome → State → Prop} (hpost : ∀ tb e args s v u, (limb_1_1.after args s (.returned v) u = true ∧ limb_1_2.after args s (.returned v) u = true ∧ True) → FrameEnd s (.returned v) u (Jvm.fieldLocs frame_1_writes args s ++ Jvm.arrayLocs frame_1_arrays args s ++ Jvm.staticLocs frame_1_statics s) 16 128 → Post tb e args s (.returned v) u) :
    ArmFor flags0 classFile x code maxLocals ret World_1 tables_1 room_1 Calls_1 rest_1 Pre_1 Post := by
  intro l hfl _ _ p e ha hc hk s m args below hf hA hF happ hP
  obtain ⟨hcalls, hrest, hpre⟩ := hP
  obtain ⟨-, -, -, hnamed, -, -, -, hat⟩ := (Spec.applies_iff hf).mp happ
  obtain ⟨hg, hn⟩ := and_e (Cond.before_iff.mp (show (Jvm.Cond.and given_1 narrow_1).before args s = true from hpre))
  obtain ⟨g1, g2⟩ := and_e hg
  obtain ⟨g3, g4⟩ := and_e g2
  obtain ⟨g5, g6⟩ := and_e g4
  obtain ⟨g7, g8⟩ := and_e g6
  obtain ⟨g9, g10⟩ := and_e g8
  obtain ⟨w0, w1, w2, w3, w4, rfl⟩ : ∃ w0 w1 w2 w3 w4 : Value, args = #[w0, w1, w2, w3, w4] := by
    have hs : args.size = 5 := by simpa [Cond.value, given_1] using g1
    obtain ⟨L⟩ := args
    match L, hs with
    | [w0, w1, w2, w3, w4], _ => exact ⟨w0, w1, w2, w3, w4, rfl⟩
  have hw := fun d (hd : d ∈ tables_1) => atoms_spec (ws := Jvm.Cond.code x code maxLocals ret :: tables_1) hat d (List.mem_cons_of_mem _ hd)
  have hfit : Fit s := fun {y c} hc i hi => by
    obtain ⟨ha, rfl⟩ := Array.getElem?_eq_some_iff.mp hc
    have q := List.all_eq_true.mp ((Array.all_eq_true_iff_forall_mem.mp hF) _ (Array.getElem_mem ha)) i (List.mem_range.mpr hi)
    simpa [Array.getElem?_eq_getElem hi] using q
  obtain ⟨i0, ei0⟩ := is_v g3
  obtain rfl : w0 = (.int i0) := Option.some.inj ei0
  obtain ⟨i1, ei1⟩ := is_v g5
  obtain rfl : w1 = (.int i1) := Option.some.inj ei1
  obtain ⟨i2, ei2⟩ := is_v g7
  obtain rfl : w2 = (.int i2) := Option.some.inj ei2
  obtain ⟨i3, ei3⟩ := is_v g9
  obtain rfl : w3 = (.int i3) := Option.some.inj ei3
  obtain ⟨i4, ei4⟩ := is_v g10
  obtain rfl : w4 = (.int i4) := Option.some.inj ei4
  obtain ⟨n, o, h1, h2, h3, _, L, rfl, ⟨rfl, N⟩, hq⟩ := rm0 l s _ hw tables_1 i0 i1 i2 i3 i4 s.heap s.heap.size (Nat.le_refl _) p e ha hc hk s m _ below hf ((Spec.applies_iff_loose hf).mp happ).1 ⟨rfl, State.Warmed39.refl s, rfl⟩ trivial
  refine ⟨n, _, h1, h2, h3, hpost _ _ _ _ _ _ ⟨Cond.after_iff.mpr rfl, Cond.after_iff.mpr (eq_i res_at (Term.int_eval (1)) rfl), trivial⟩ ⟨hq.1, hq.2.1, (hq.2.2.sift fun y hy => Or.inr (N y hy)).mono (by decide) (by decide)⟩⟩
theorem main_1_1 : Claimed_1_1 := comes_1 fun _ _ _ _ _ _ h hF => ⟨h.1, hF⟩
theorem main_1_2 : Claimed_1_2 := comes_1 fun _ _ _ _ _ _ h hF => ⟨h.2.1, hF⟩
end Jvm.Pilot.@@N@@
namespace Jvm.Pilot.@@N@@
open Jvm Jvm.ClassFile Sem Op Lib Jvm.Free Jvm.Stand Jvm.Pilot.@@N@@.Jvm.D
/-! MADE BY PROGRAM (witnessworld.py) out of the Statement's table words and the real class files: 9 classes; the members and pool entries that the words name. The judged class is class 1, her method 1. -/
namespace start1
open Jvm.ClassFile
def u (s : String) : CpInfo := .utf8 (stringToUtf16 s)
/-- a pool by its gaps: so many unusable entries, then the entry; so many at the end -/
def gap : Nat → List CpInfo → List CpInfo
  | 0, r => r
  | n + 1, r => .unusable :: gap n r
def poolList (es : List (Nat × CpInfo)) (last : Nat) : List CpInfo := es.foldr (fun e r => gap e.1 (e.2 :: r)) (gap last [])
def pool (es : List (Nat × CpInfo)) (last : Nat) : Array CpInfo := ⟨poolList es last⟩
def fileOf (pool : Array CpInfo) (this : Nat) (attrs : Array Attribute := #[]) (ms : Array MethodInfo := #[]) (fl : Nat := 33) (sup : Nat := 0) (ifs : Array Nat := #[]) (fds : Array FieldInfo := #[]) : ClassFile where
  minorVersion := 0
  majorVersion := 65
  constantPool := pool
  accessFlags := fl
  thisClass := this
  superClass := sup
  interfaces := ifs
  fields := fds
  methods := ms
  attributes := attrs
def plain (name : String) (sup : Option ClassId) : Class where
  name := name
  kind := .ordinary
  loader := none
  accessFlags := 33
  super := sup
  interfaces := #[]
  cf := none
  fields := #[]
  methods := #[]
  instanceTypes := #[]
  staticTypes := #[]
  resolved := #[]
  callSites := []
  init := .initialized
  statics := none
  mirror := none

def pool0 : Array CpInfo := pool [(5, u "<init>"), (0, u "()V"), (1, .class_ 10), (1, u "java/lang/Object")] 113

def k0m0 : Method := { name := "<init>", desc := "()V", sig := { parameters := [], returnType := none }, accessFlags := 1, code := none }
/-- java/lang/Object -/
def k0 : Class := { plain "java/lang/Object" none with
  accessFlags := 33
  interfaces := #[]
  cf := some (fileOf pool0 8 #[] #[{ accessFlags := 1, nameIndex := 5, descriptorIndex := 6, attributes := #[] }] 33 0 #[] #[])
  fields := #[]
  methods := #[k0m0]
  instanceTypes := #[]
  staticTypes := #[]
  resolved := Array.replicate 124 none
  statics := none }

def pool1 : Array CpInfo := pool [(2, .class_ 4), (1, u "java/lang/Object"), (0, u "<init>"), (0, u "()V"), (0, .integer 65535), (0, .long 65536), (1, .long 18446744073709551615), (1, .methodref 13 14), (0, .class_ 15), (0, .nameAndType 16 17), (0, u "com/example/fenceline/fenceline/url/IpAddress"), (0, u "mappedIpv4"), (0, u "([I)J"), (0, .class_ 19), (0, u "com/example/fenceline/fenceline/url/IpAddressMappedIpv4PinLaw"), (2, u "law"), (0, u "(IIIII)Z")] 5

def k1m0 : Method := { name := "<init>", desc := "()V", sig := { parameters := [], returnType := none }, accessFlags := 2, code := none }
def k1c1 : Code := { maxStack := 4, maxLocals := 11, code := code, exceptionTable := #[], attributes := #[] }
def k1m1 : Method := { name := "law", desc := "(IIIII)Z", sig := { parameters := [.int, .int, .int, .int, .int], returnType := some .boolean }, accessFlags := 9, code := some k1c1 }
/-- com/example/fenceline/fenceline/url/IpAddressMappedIpv4PinLaw -/
def k1 : Class := { plain "com/example/fenceline/fenceline/url/IpAddressMappedIpv4PinLaw" (some 0) with
  accessFlags := 49
  interfaces := #[]
  cf := some (fileOf pool1 18 #[] #[{ accessFlags := 2, nameIndex := 5, descriptorIndex := 6, attributes := #[] }, { accessFlags := 9, nameIndex := 22, descriptorIndex := 23, attributes := #[] }] 49 2 #[] #[])
  fields := #[]
  methods := #[k1m0, k1m1]
  instanceTypes := #[]
  staticTypes := #[]
  resolved := Array.replicate 29 none
  statics := none }

def pool2 : Array CpInfo := pool [(2, .class_ 4), (1, u "java/lang/Object"), (0, u "<init>"), (0, u "()V"), (19, .class_ 28), (1, u "com/example/fenceline/fenceline/url/IpAddress"), (8, .long 18446744073709551615), (59, .integer 65535), (39, u "IPV6_PIECES"), (0, u "I"), (2, u "TOO_LARGE"), (0, u "J"), (11, u "mappedIpv4"), (0, u "([I)J")] 21

def k2m0 : Method := { name := "<init>", desc := "()V", sig := { parameters := [], returnType := none }, accessFlags := 2, code := none }
def k2c1 : Code := { maxStack := 4, maxLocals := 2, code := prog_47_method_8_code, exceptionTable := #[], attributes := #[] }
def k2m1 : Method := { name := "mappedIpv4", desc := "([I)J", sig := { parameters := [(.array .int)], returnType := some .long }, accessFlags := 8, code := some k2c1 }
/-- com/example/fenceline/fenceline/url/IpAddress -/
def k2 : Class := { plain "com/example/fenceline/fenceline/url/IpAddress" (some 0) with
  accessFlags := 48
  interfaces := #[]
  cf := some (fileOf pool2 26 #[] #[{ accessFlags := 2, nameIndex := 5, descriptorIndex := 6, attributes := #[] }, { accessFlags := 8, nameIndex := 154, descriptorIndex := 155, attributes := #[] }] 48 2 #[] #[{ accessFlags := 26, nameIndex := 137, descriptorIndex := 138, attributes := #[] }, { accessFlags := 26, nameIndex := 141, descriptorIndex := 142, attributes := #[] }])
  fields := #[{ name := "IPV6_PIECES", type := .int, accessFlags := 26, slot := 0, constantValue := 0 }, { name := "TOO_LARGE", type := .long, accessFlags := 26, slot := 1, constantValue := 0 }]
  methods := #[k2m0, k2m1]
  instanceTypes := #[]
  staticTypes := #[.int, .long]
  resolved := Array.replicate 177 none
  statics := none }

def pool3 : Array CpInfo := pool [(1, u "java/lang/Cloneable"), (0, .class_ 1), (0, u "java/lang/Object"), (0, .class_ 3)] 3

/-- java/lang/Cloneable -/
def k3 : Class := { plain "java/lang/Cloneable" (some 0) with
  accessFlags := 1537
  interfaces := #[]
  cf := some (fileOf pool3 2 #[] #[] 1537 4 #[] #[])
  fields := #[]
  methods := #[]
  instanceTypes := #[]
  staticTypes := #[]
  resolved := Array.replicate 8 none
  statics := none }

def pool4 : Array CpInfo := pool [(1, u "java/io/Serializable"), (0, .class_ 1), (0, u "java/lang/Object"), (0, .class_ 3)] 3

/-- java/io/Serializable -/
def k4 : Class := { plain "java/io/Serializable" (some 0) with
  accessFlags := 1537
  interfaces := #[]
  cf := some (fileOf pool4 2 #[] #[] 1537 4 #[] #[])
  fields := #[]
  methods := #[]
  instanceTypes := #[]
  staticTypes := #[]
  resolved := Array.replicate 8 none
  statics := none }

/-- the primitive byte -/
def k5 : Class := { plain "byte" none with kind := .primitive 'B', accessFlags := 0x411 }
/-- [B -/
def k6 : Class := { plain "[B" (some 0) with kind := .array 5 .byte, interfaces := #[3, 4], accessFlags := 1041 }

/-- the primitive int -/
def k7 : Class := { plain "int" none with kind := .primitive 'I', accessFlags := 0x411 }
/-- [I -/
def k8 : Class := { plain "[I" (some 0) with kind := .array 7 .int, interfaces := #[3, 4], accessFlags := 1041 }

def heap : Heap := #[]
def classes : Array Class := #[k0, k1, k2, k3, k4, k5, k6, k7, k8]
def interned : List (Array UInt16 × Addr) := []
def slotsUsed : Nat := 0
def theMethod : MethodId := ⟨1, 1⟩
def args0 : Array Value := #[.int 5, .int 3, .int 2, .int 3, .int 2]
def aboutOver (below : List Frame) : State where
  vm := { classes := classes, interned := interned.toArray }
  heap := heap
  slotsUsed := slotsUsed
  threads := #[{ frames := .invoking theMethod args0 :: below }]
def below0 : List Frame := [.native { method := ⟨0, 0⟩, args := #[] }]
def about1 : State := aboutOver below0
def p0 : Program := .bare "" "" ""
def e0 : Env := launch0.env 0 0 0
theorem w_frames : about1.frames = Frame.invoking theMethod args0 :: below0 := rfl
set_option maxRecDepth 65536 in
theorem w_args : argsFit about1.vm theMethod args0 = true := by decide +kernel
set_option maxRecDepth 65536 in
theorem w_heap : heapFits about1 = true := by decide +kernel
set_option maxRecDepth 65536 in
theorem w_runnable : about1.curStatus? = some .runnable := by decide +kernel
set_option maxRecDepth 65536 in
theorem w_alone : about1.alone = true := by decide +kernel
set_option maxRecDepth 65536 in
theorem w_named : about1.methodNamed? x = some theMethod := by decide +kernel
set_option maxRecDepth 65536 in
theorem w_hears : about1.hears theMethod below0 = true := by decide +kernel
set_option maxRecDepth 65536 in
theorem w_ripe : about1.ripe theMethod args0 below0 = true := by decide +kernel
theorem w_running : about1.status = .running := rfl
set_option maxRecDepth 65536 in
theorem w_room : about1.hasRoom e0.platform room_1 = true :=
  launch0.hasRoom_least _ room_1 (by decide +kernel) (by decide +kernel) (by decide +kernel) (by decide +kernel) (by decide +kernel) (by decide +kernel)
theorem allAtoms_all (ts : List Jvm.Cond) (a : Array Jvm.Value) (st : Jvm.State) : (allAtoms ts).before a st = ts.all (fun c => c.before a st) := by
  induction ts with
  | nil => rfl
  | cons c t ih =>
    show (Jvm.Cond.and c (allAtoms t)).before a st = _
    rw [Jvm.Cond.before_and, ih, List.all_cons]
def words1 : List Jvm.Cond := Jvm.Cond.code x code maxLocals ret :: tables_1
/-- a 'code' word, met by the world's own term for the bytes: nothing is compared byte by byte -/
theorem code_word {y : MethodName} {bytes : ByteArray} {mx : Nat} {rt : Option FieldType} {a : Array Value} {s : State} {m : MethodId} {meth : Method} {c : Code} (h1 : s.methodNamed? y = some m) (h2 : s.vm.method? m = some meth) (h3 : meth.code = some c) (h4 : c.code = bytes)
    (h5 : (c.maxLocals == mx && c.exceptionTable.isEmpty && decide (c.maxStack ≤ mostOperands) && decide (meth.sig.returnType = rt) && !meth.locks && decide (parseMethodDescriptor y.desc = some meth.sig)) = true) : (Jvm.Cond.code y bytes mx rt).before a s = true := by
  simp only [Bool.and_eq_true, beq_iff_eq, Bool.not_eq_true', decide_eq_true_eq] at h5
  obtain ⟨⟨⟨⟨⟨g1, g2⟩, g3⟩, g4⟩, g5⟩, g6⟩ := h5
  simp [Cond.before, Cond.holds, Cond.value, h1, h2, h3, h4, g1, g2, g3, g4, g5, g6]
def isCode : Jvm.Cond → Bool
  | .code _ _ _ _ => true
  | _ => false
theorem all_split {L : List Jvm.Cond} {P : Jvm.Cond → Bool} (h1 : L.all (fun c => isCode c || P c) = true) (h2 : ∀ c ∈ L.filter isCode, P c = true) : L.all P = true := by
  refine List.all_eq_true.mpr fun c hc => ?_
  have h := List.all_eq_true.mp h1 c hc
  rcases Bool.eq_false_or_eq_true (isCode c) with hi | hi
  · exact h2 c (List.mem_filter.mpr ⟨hc, hi⟩)
  · simpa [hi] using h
set_option maxRecDepth 65536 in
theorem w_c0 : (Jvm.Cond.code x code maxLocals ret).before args0 about1 = true := code_word (m := ⟨1, 1⟩) (meth := k1m1) (c := k1c1) (by decide +kernel) rfl rfl rfl (by decide +kernel)
set_option maxRecDepth 65536 in
theorem w_c1 : (Jvm.Cond.code ({ cls := "com/example/fenceline/fenceline/url/IpAddress", name := "mappedIpv4", desc := "([I)J" } : Jvm.MethodName) prog_47_method_8_code (2 : Nat) (Option.some Jvm.ClassFile.FieldType.long)).before args0 about1 = true := code_word (m := ⟨2, 1⟩) (meth := k2m1) (c := k2c1) (by decide +kernel) rfl rfl rfl (by decide +kernel)
def codes1 : List Jvm.Cond := [Jvm.Cond.code x code maxLocals ret, Jvm.Cond.code ({ cls := "com/example/fenceline/fenceline/url/IpAddress", name := "mappedIpv4", desc := "([I)J" } : Jvm.MethodName) prog_47_method_8_code (2 : Nat) (Option.some Jvm.ClassFile.FieldType.long)]
set_option maxRecDepth 65536 in
theorem codes_eq : words1.filter isCode = codes1 := rfl
theorem w_codes : ∀ c ∈ words1.filter isCode, c.before args0 about1 = true := by
  rw [codes_eq]
  intro c hc
  simp only [codes1, List.mem_cons, List.not_mem_nil, or_false] at hc
  rcases hc with rfl | rfl
  · exact w_c0
  · exact w_c1
set_option maxRecDepth 65536 in
theorem w_t1 : words1.all (fun c => isCode c || c.before args0 about1) = true := by decide +kernel
theorem w_tables : (allAtoms (Jvm.Cond.code x code maxLocals ret :: tables_1)).before args0 about1 = true := by
  rw [allAtoms_all]
  show words1.all (fun c => c.before args0 about1) = true
  refine all_split ?_ w_codes
  rw [w_t1]
set_option maxRecDepth 65536 in
theorem w_case : (Jvm.Cond.and given_1 narrow_1).before args0 about1 = true := by decide +kernel
theorem w_applies : (headSpec (Jvm.Cond.code x code maxLocals ret :: tables_1) room_1).applies x e0.platform about1 = true :=
  (Spec.applies_iff w_frames).mpr ⟨w_running, w_runnable, w_alone, w_named, w_hears, w_ripe, w_room, w_tables⟩
theorem atStart : AtStart classFile x code maxLocals ret World_1 tables_1 room_1 Calls_1 rest_1 Pre_1 launch0 p0 e0 about1 theMethod args0 below0 :=
  ⟨lists_1, trivial, launch0.admits_env _ _ _, launch0.least_env, fairChoices_fair.cas, fairChoices_fair.clock, w_frames, w_args, w_heap, w_applies, trivial, trivial, w_case⟩
end start1
theorem witness_1 : WitnessClaimed_1 := ⟨start1.p0, start1.e0, start1.about1, start1.theMethod, start1.args0, start1.below0, start1.atStart⟩
end Jvm.Pilot.@@N@@
