import JvmDerived
import JvmDerived.Pilot.@@N@@Statement
import JvmDerived.Pilot.@@N@@Code
set_option linter.unusedVariables false
set_option linter.unusedSimpArgs false
namespace Jvm.RoadKit
open Sem ClassFile Op Lib Jvm.Stand Jvm.Free Jvm.LawKit
section New
variable {p : Program} {l : Launch} {e : Env} {R : Room} {s : State} {m : MethodId} {args : Array Value} {below : List Frame} {meth : Method} {c : Code} {T : State} {locs : List Loc} {cells slots : Nat}
theorem retI (X : Stand p l e R s m args below meth c T locs cells slots) (hx : p.tables.exec = Jvm.exec) {pc : Nat} {Ls : Array Slot} {z : Int32} {rest : List Value} (hret : meth.sig.returnType = some .int) (hd : decode c.code pc = .ok (.ireturn, 1)) {fs : List Frame}
    (hl : ∀ (f : JFrame) (acts : List Action), f.method = m → f.locked = none → f.entered = [] → (doReturn e (T.setTop f) acts (some (.int z))).1 = T.setFrames fs) : Steps p.tables e below (T.setTop (mkF m pc Ls (.int z :: rest))) (T.setFrames fs) := by
  have hm' : T.vm.method? m = some meth := X.method'
  have hn : narrow .int (.int z) = .int z := rfl
  show Steps p.tables e below (T.setTop { method := m, pc := pc, locals := Ls, stack := _ :: rest, locked := none }) _
  jvm_step X.here [X.here.top, hx, hd, hm', hret, hn]
  first | (intro acts; rw [hl _ acts rfl rfl rfl]) | rw [hl _ _ rfl rfl rfl]
  exact Steps.refl _
end New
end Jvm.RoadKit

@@BLOCK:NumsL.lean.txt@@

namespace Jvm.Pilot.@@N@@
open Jvm Jvm.ClassFile Sem Op Lib Jvm.Free Jvm.Stand Jvm.LawKit Jvm.RoadKit Bundle Jvm.Pilot.@@N@@.Jvm.D
theorem own_sne {Z : State} {h : Heap} {a b c d : Addr} {k k' : ClassId} {z z' : Int32} {vs vs' : List Value} {dv dv' : Value} (F : Fld Z h a "java/lang/String" "value" "[B" (.ref c)) (G : Fld Z h b "java/lang/String" "value" "[B" (.ref d)) (V : Arv Z h c k .byte z vs dv) (W : Arv Z h d k' .byte z' vs' dv')
    (hne : z.toNatClampNeg ≠ z'.toNatClampNeg ∨ (0 < z.toNatClampNeg ∧ vs.getD 0 dv ≠ vs'.getD 0 dv')) : a ≠ b := by
  by_cases e : c = d
  · subst e
    obtain ⟨c1, A1, -, S1, -, H1, -⟩ := V
    obtain ⟨c2, A2, -, S2, -, H2, -⟩ := W
    cases A1.1.symm.trans A2.1
    exfalso
    rcases hne with q | ⟨q1, q2⟩
    · exact q (S1.symm.trans S2)
    · exact q2 (Option.some.inj ((H1 0 (by omega)).symm.trans (H2 0 (by omega))))
  · exact Fld.ne F G (fun q => e (Value.ref.inj q))
theorem own_eqi {args : Array Value} {first s : State} {o : Option Outcome} {idx : List Nat} {t : Term} {k : Int32} (h : (Cond.eq t (.int k)).value args first o s idx = some true) : t.eval args first o idx s = some (.int k) := by
  simp only [Cond.value, Term.eval] at h
  cases ht : t.eval args first o idx s with
  | none => simp [ht] at h
  | some x => cases x <;> simp [ht] at h ⊢; exact h
theorem own_len {args : Array Value} {Z : State} {t : Term} {a : Addr} {cl : Cell} {ty : FieldType} {n : Int32} (ev : t.eval args Z none [] Z = some (.ref a)) (A : Arr Z Z.heap a cl ty) (h : (Term.length t).eval args Z none [] Z = some (.int n)) : cl.slots.size < 2 ^ 31 ∧ cl.slots.size.toInt32 = n := by
  have ha := A.fin (Vm.Alike.refl _)
  simp only [Term.eval, ev, ha, Option.bind_eq_bind, Option.bind_some] at h
  by_cases q : cl.slots.size < 2 ^ 31
  · simp [q] at h; exact ⟨q, h⟩
  · simp [q] at h
theorem own_selp {s : State} {args : Array Value} {y z : MethodName} (hsel : (Cond.selects z.cls z z).before args s = true) (hzy : z.cls = y.cls) (hpriv : s.PrivateAt y) (hinst : (Cond.instanceMethod y).before args s = true) (hy : y.cls ≠ "java/lang/invoke/MethodHandle" ∧ y.cls ≠ "java/lang/invoke/VarHandle") : (Cond.selects y.cls y y).before args s = true := by
  obtain ⟨c, r, m, h1, h2, h3, h4, mk, h5, h6⟩ := Cond.selects_spec hsel
  exact selects_self_of_private (c := m.cls) (hzy ▸ findClass_of_methodNamed h3) h5 h6 hpriv hinst hy
def own_at (L : List Int32) (j : Int32) : Int32 := L.getD j.toNatClampNeg 0
theorem own_setL {Z : State} {h h' : Heap} {a : Addr} {k : ClassId} {z j v : Int32} {L : List Int32} {n : Nat} (V : Arv Z h a k .int z (L.map Value.int) (.int 0)) (hl : L.length = n) (W : Wr h h' a j.toNatClampNeg (.int v)) (hj : ¬ (j < 0) ∧ j < z) (hn : n = z.toNatClampNeg := by rfl) : Arv Z h' a k .int z ((L.set j.toNatClampNeg v).map Value.int) (.int 0) := by
  obtain ⟨c, A, q1, S, q3, H, G⟩ := V
  have hb := inb_of S hj
  have hlt : j.toNatClampNeg < (L.map Value.int).length := by
    rw [List.length_map, hl, hn, ← S]; exact Nat.lt_of_not_le fun q => hb (Or.inr q)
  have r := Arv.set A q1 S q3 H G (v := .int v) rfl W j.toNatClampNeg rfl hlt
  rw [List.map_set]
  exact r
theorem own_setZ {Z : State} {h h' : Heap} {a : Addr} {k : ClassId} {z j v : Int32} {L : List Int32} {n : Nat} (V : Arv Z h a k .boolean z (L.map Value.int) (.int 0)) (hl : L.length = n) (W : Wr h h' a j.toNatClampNeg (.int (nar .boolean v))) (hj : ¬ (j < 0) ∧ j < z) (hn : n = z.toNatClampNeg := by rfl) : Arv Z h' a k .boolean z ((L.set j.toNatClampNeg (nar .boolean v)).map Value.int) (.int 0) := by
  obtain ⟨c, A, q1, S, q3, H, G⟩ := V
  have hb := inb_of S hj
  have hlt : j.toNatClampNeg < (L.map Value.int).length := by
    rw [List.length_map, hl, hn, ← S]; exact Nat.lt_of_not_le fun q => hb (Or.inr q)
  have r := Arv.set A q1 S q3 H G (v := .int (nar .boolean v)) (fits_nar_bool _) W j.toNatClampNeg rfl hlt
  rw [List.map_set]
  exact r
theorem own_getD (L : List Int32) (i : Nat) : (L.map Value.int).getD i (.int (0 : Int32)) = .int (L.getD i 0) := by
  induction L generalizing i with
  | nil => rfl
  | cons a t ih => cases i with
    | zero => rfl
    | succ i => exact ih i

theorem own_eqI {a b : Int32} : a = b ↔ a.toInt = b.toInt := Int32.toInt_inj.symm
theorem own_ltI {a b : Int32} : a < b ↔ a.toInt < b.toInt := Int32.lt_iff_toInt_lt
theorem own_bd (a : Int32) : -2147483648 ≤ a.toInt ∧ a.toInt < 2147483648 := ⟨Int32.le_toInt a, Int32.toInt_lt a⟩
theorem own_tdiv (x m : Int) (hm : 0 < m) : (0 ≤ x → x.tdiv m = x / m ∧ x.tmod m = x % m) ∧ (x < 0 → x.tdiv m = -((-x) / m) ∧ x.tmod m = -((-x) % m)) := by
  refine ⟨fun h => ⟨Int.tdiv_eq_ediv_of_nonneg h, Int.tmod_eq_emod_of_nonneg h⟩, fun h => ?_⟩
  have h1 : x = -(-x) := by omega
  have a1 : (-(-x)).tdiv m = -((-x).tdiv m) := Int.neg_tdiv ..
  have a2 : (-(-x)).tmod m = -((-x).tmod m) := Int.neg_tmod ..
  rw [← h1] at a1 a2
  rw [a1, a2, Int.tdiv_eq_ediv_of_nonneg (by omega), Int.tmod_eq_emod_of_nonneg (by omega)]
  exact ⟨rfl, rfl⟩
theorem own_dm (a k : Int32) (hk : 1 < k.toInt) : (0 ≤ a.toInt → (a / k).toInt = a.toInt / k.toInt ∧ (a % k).toInt = a.toInt % k.toInt) ∧ (a.toInt < 0 → (a / k).toInt = -((-a.toInt) / k.toInt) ∧ (a % k).toInt = -((-a.toInt) % k.toInt)) := by
  have e1 : (a / k).toInt = a.toInt.tdiv k.toInt := Jvm.Kit.i32_div (fun h => by omega)
  have e2 : (a % k).toInt = a.toInt.tmod k.toInt := Jvm.Kit.i32_rem a k
  rw [e1, e2]
  exact own_tdiv _ _ (by omega)

theorem own_ofn (i : Nat) (h : i ≤ 10) : (Int32.ofNat i).toInt = i := Int32.toInt_ofNat_of_lt (by omega)
theorem own_cl (i : Nat) (h : i ≤ 10) : (Int32.ofNat i).toNatClampNeg = i := by
  simp only [Int32.toNatClampNeg]; rw [own_ofn i h]; rfl
theorem own_sc (i : Nat) : Int32.ofNat i + (1 : Int32) = Int32.ofNat (i + 1) := (Int32.ofNat_add i 1).symm
theorem own_lt (i j : Nat) (hi : i ≤ 10) (hj : j ≤ 10) : Int32.ofNat i < Int32.ofNat j ↔ i < j := by
  rw [own_ltI, own_ofn i hi, own_ofn j hj]; omega
theorem own_lt5 (i : Nat) (hi : i ≤ 10) : Int32.ofNat i < (5 : Int32) ↔ i < 5 := own_lt i 5 hi (by decide)
theorem own_nb (i : Nat) (hi : i < 5) : ¬ (Int32.ofNat i < 0) ∧ Int32.ofNat i < (5 : Int32) :=
  ⟨fun h => by have := (own_lt i 0 (by omega) (by decide)).mp h; omega, (own_lt5 i (by omega)).mpr hi⟩
theorem own_o1 {i j f : Nat} (hf : 5 - i < f + 1) (h5 : i < 5) (hij : i < j) : 5 - j < f := by omega
theorem own_o2 {j k g : Nat} (hg : j - k < g + 1) (h : k < j) : j - (k + 1) < g := by omega
theorem own_o3 {i j : Nat} (h5 : i < 5) (hj : j ≤ 5) (hij : i < j) : j - i < 6 ∧ i ≤ j := by omega
theorem own_o4 {i : Nat} (h5 : i < 5) : 5 - (i + 1) < 5 ∧ i < i + 1 ∧ i + 1 ≤ 5 := by omega
theorem own_t {i : Nat} (h : i ≤ 5) : i ≤ 10 := by omega
theorem own_t2 {i j : Nat} (h : i ≤ j) (hj : j ≤ 5) : i ≤ 10 := by omega
def own_q (w : Int32) : Prop := 0 ≤ w.toInt ∧ w.toInt ≤ 100
theorem own_rem5 (w : Int32) (h : own_q w) : ¬ (((0 : Int32) + w) % (5 : Int32) < 0) ∧ ((0 : Int32) + w) % (5 : Int32) < (5 : Int32) := by
  obtain ⟨h1, h2⟩ := h
  have e := ((own_dm w 5 (by decide)).1 h1).2
  rw [Int32.zero_add, own_ltI, own_ltI, e, show (0 : Int32).toInt = 0 from rfl, show (5 : Int32).toInt = 5 from rfl]
  omega
theorem own_q1 (w : Int32) (h1 : 0 ≤ w.toInt) (h2 : w.toInt ≤ 100) : (w + 1).toInt = w.toInt + 1 := by
  rw [Int32.toInt_add]
  have : (1 : Int32).toInt = 1 := rfl
  rw [this]
  exact Int.bmod_eq_of_le (by omega) (by omega)
def own_EQ (Z : State) (h : Heap) (a c1 c2 c3 c4 c5 : Addr) (k4 k5 : ClassId) (U D : List Int32) (r : Int32) (x : Value) : Prop :=
  Exa Z h a "com/example/tercet/tercet/Partition" ∧ Fld Z h a "com/example/tercet/tercet/Partition" "size" "I" (.int (5 : Int32)) ∧ Fld Z h a "com/example/tercet/tercet/Partition" "order" "[I" (.ref c1) ∧ Fld Z h a "com/example/tercet/tercet/Partition" "cellOf" "[I" (.ref c2) ∧ Fld Z h a "com/example/tercet/tercet/Partition" "cellEnd" "[I" (.ref c3) ∧ Fld Z h a "com/example/tercet/tercet/Partition" "queue" "[I" (.ref c4) ∧ Fld Z h a "com/example/tercet/tercet/Partition" "queued" "[Z" (.ref c5) ∧ Fld Z h a "com/example/tercet/tercet/Partition" "queueHead" "I" (.int (0 : Int32)) ∧ Fld Z h a "com/example/tercet/tercet/Partition" "queueSize" "I" (.int r) ∧ Fld Z h a "com/example/tercet/tercet/Partition" "cells" "I" x ∧ Arv Z h c4 k4 .int (5 : Int32) (U.map Value.int) (.int (0 : Int32)) ∧ Arv Z h c5 k5 .boolean (5 : Int32) (D.map Value.int) (.int (0 : Int32))
theorem own_gs (E : List Int32) (i j : Nat) (h5 : i < 5) (hE : E.length = 5) : own_at (E.set (Int32.ofNat i).toNatClampNeg (Int32.ofNat j)) (Int32.ofNat i) = Int32.ofNat j := by
  rw [own_at, own_cl i (by omega)]
  simp [List.getD, hE, h5]
theorem own_qn {r r' : Int32} {i j : Nat} (h : r' = r ∨ r' = r + 1) (hr : 0 ≤ r.toInt ∧ r.toInt ≤ i) (hi : i ≤ 5) (hij : i < j) : 0 ≤ r'.toInt ∧ r'.toInt ≤ j := by
  obtain ⟨h1, h2⟩ := hr
  rcases h with rfl | rfl
  · omega
  · rw [own_q1 r h1 (by omega)]; omega
def own_Or (O : List Int32) : Prop := O.length = 5 ∧ ∀ i, i < 5 → ¬ (own_at O (Int32.ofNat i) < 0) ∧ own_at O (Int32.ofNat i) < (5 : Int32)
def own_C1 (e : Int32) : Prop := ¬ (e < 0) ∧ e < (5 : Int32)
def own_C (a b c d e : Int32) : Prop := own_C1 a ∧ own_C1 b ∧ own_C1 c ∧ own_C1 d ∧ own_C1 e
theorem own_c6 {e : Int32} (h : own_C1 e) : (¬ (e + (1 : Int32) < 0) ∧ e + (1 : Int32) < (6 : Int32)) ∧ (¬ (e < 0) ∧ e < (6 : Int32)) := by
  obtain ⟨h1, h2⟩ := h
  rw [own_ltI] at h1 h2
  have z0 : (0 : Int32).toInt = 0 := rfl
  have z5 : (5 : Int32).toInt = 5 := rfl
  have z6 : (6 : Int32).toInt = 6 := rfl
  have := own_q1 e (by omega) (by omega)
  rw [own_ltI, own_ltI, own_ltI, own_ltI]
  omega
theorem own_cn {e : Int32} (h : own_C1 e) : ∃ n : Nat, n < 5 ∧ e = Int32.ofNat n := by
  obtain ⟨h1, h2⟩ := h
  rw [own_ltI] at h1 h2
  have z0 : (0 : Int32).toInt = 0 := rfl
  have z5 : (5 : Int32).toInt = 5 := rfl
  refine ⟨e.toInt.toNat, by omega, ?_⟩
  rw [own_eqI, own_ofn _ (by omega)]; omega
def own_in (x : Int32) : Bool := decide (¬ (x < 0) ∧ x < (5 : Int32))
theorem own_fin {P : Int32 → Int32 → Int32 → Int32 → Int32 → Prop} (h : ∀ (a : Nat), a < 5 → ∀ (b : Nat), b < 5 → ∀ (c : Nat), c < 5 → ∀ (d : Nat), d < 5 → ∀ (e : Nat), e < 5 → P (Int32.ofNat a) (Int32.ofNat b) (Int32.ofNat c) (Int32.ofNat d) (Int32.ofNat e)) {a b c d e : Int32} (hC : own_C a b c d e) : P a b c d e := by
  obtain ⟨ha, hb, hc, hd, he⟩ := hC
  obtain ⟨a', la, rfl⟩ := own_cn ha
  obtain ⟨b', lb, rfl⟩ := own_cn hb
  obtain ⟨c', lc, rfl⟩ := own_cn hc
  obtain ⟨d', ld, rfl⟩ := own_cn hd
  obtain ⟨e', le, rfl⟩ := own_cn he
  exact h a' la b' lb c' lc d' ld e' le
def own_e (A O : List Int32) (i : Nat) : Nat → Nat → Nat
  | 0, j => j
  | f + 1, j => if j < 5 ∧ own_at A (own_at O (Int32.ofNat j)) = own_at A (own_at O (Int32.ofNat i)) then own_e A O i f (j + 1) else j
def own_ce (A O : List Int32) : Nat → Nat → List Int32 → List Int32
  | 0, _, E => E
  | f + 1, i, E => if i < 5 then own_ce A O f (own_e A O i 5 (i + 1)) (E.set i (Int32.ofNat (own_e A O i 5 (i + 1)))) else E
def own_fn (E : List Int32) : Nat → Nat → Int32
  | 0, _ => -1
  | f + 1, i => if i < 5 then (if (1 : Int32) < own_at E (Int32.ofNat i) - Int32.ofNat i then Int32.ofNat i else own_fn E f (own_at E (Int32.ofNat i)).toNatClampNeg) else -1
def own_W (E : List Int32) : Nat → Nat → Bool
  | 0, _ => false
  | f + 1, i => if i < 5 then (decide (own_at E (Int32.ofNat i) = Int32.ofNat (own_at E (Int32.ofNat i)).toNatClampNeg) && own_W E f (own_at E (Int32.ofNat i)).toNatClampNeg) else decide (i ≤ 5)
theorem own_Ws {E : List Int32} {f i : Nat} (h : own_W E (f + 1) i = true) (h5 : i < 5) : own_at E (Int32.ofNat i) = Int32.ofNat (own_at E (Int32.ofNat i)).toNatClampNeg ∧ own_W E f (own_at E (Int32.ofNat i)).toNatClampNeg = true := by
  rw [own_W, if_pos h5, Bool.and_eq_true] at h
  exact ⟨of_decide_eq_true h.1, h.2⟩
theorem own_W5 {E : List Int32} {f i : Nat} (h : own_W E (f + 1) i = true) : i ≤ 5 := by
  by_cases h5 : i < 5
  · omega
  · rw [own_W, if_neg h5] at h
    exact of_decide_eq_true h

theorem d1_0 : decode method_3_code 0 = .ok (.iload_n 0, 1) := by decide +kernel
theorem d1_1 : decode method_3_code 1 = .ok (.ldc 13, 2) := by decide +kernel
theorem d1_3 : decode method_3_code 3 = .ok (.iand, 1) := by decide +kernel
theorem d1_4 : decode method_3_code 4 = .ok (.iconst 5, 1) := by decide +kernel
theorem d1_5 : decode method_3_code 5 = .ok (.irem, 1) := by decide +kernel
theorem d1_6 : decode method_3_code 6 = .ok (.ireturn, 1) := by decide +kernel
theorem pn_1 : plainName "com/example/tercet/tercet/PartitionFirstNonSingletonCellPinLaw" = true := by first | (simp [plainName, overriddenIn]; done) | decide +kernel
theorem ef_1 (m : MethodId) (p1 : Int32) : entryFrame m #[(.int p1)] 1 = mkF m 0 #[.val (.int p1)] [] := by first | (simp [entryFrame, mkF, argsToLocals, Value.category]; done) | rfl

def F1 (p1 : Int32) : Int32 := ((p1 &&& (2147483647 : Int32)) % (5 : Int32))
def Q1 (Z : State) (p1 : Int32) (h0 : Heap) (n0 : Nat) (v : Option Value) (h : Heap) (L : List Loc) : Prop := v = some (.int (F1 p1)) ∧ Fr n0 L ∧ h = h0
set_option maxRecDepth 65536 in
set_option maxHeartbeats 40000000 in
theorem rm1 (l : Launch) (Z : State) (a0 : Array Value) (hw : ∀ d ∈ tables_1, d.before a0 Z = true) (ws : List Jvm.Cond) (p1 : Int32) (h0 : Heap) (n0 : Nat) (Z0 : n0 ≤ h0.size) :
    MetFree l (⟨"com/example/tercet/tercet/PartitionFirstNonSingletonCellPinLaw", "col", "(I)I"⟩ : MethodName) (head1 (Jvm.Cond.code (⟨"com/example/tercet/tercet/PartitionFirstNonSingletonCellPinLaw", "col", "(I)I"⟩ : MethodName) method_3_code 1 (some .int) :: ws) ({ frames := 0, cells := 0, slots := 0, locals := 0 } : Room)) (fun a U => a = #[(.int p1)] ∧ Z.Warmed39 U.vm ∧ U.heap = h0) (fun _ _ _ _ _ => True) (fun _ U o U' => ∃ v L, o = .returned v ∧ Q1 Z p1 h0 n0 v U'.heap L ∧ FrameEnd U o U' L ({ frames := 0, cells := 0, slots := 0, locals := 0 } : Room).cells ({ frames := 0, cells := 0, slots := 0, locals := 0 } : Room).slots) := by
  refine MetFree.of_bodySF (plainFor_of_name pn_1) hisR ?_
  intro p e s m args below meth c s₁ Bd hml0 hP hK
  obtain ⟨rfl, hZ, hh⟩ := hP
  skip
  skip
  skip
  skip
  skip
  skip
  have hx := Bd.exec
  have hby := Bd.bytes
  have hml : c.maxLocals = 1 := hml0
  have hown : s.vm.findClass "com/example/tercet/tercet/PartitionFirstNonSingletonCellPinLaw" = some m.cls := findClass_of_methodNamed Bd.named
  have hnm := (name_of_methodNamed Bd.named Bd.method).1
  have X0 : Stand p l e ({ frames := 0, cells := 0, slots := 0, locals := 0 } : Room) s m #[(.int p1)] below meth c s₁ [] 0 0 := Stand.of_body Bd
  have e0 : s₁.heap = h0 := by rw [← hh, Bd.state]; rfl
  have N0 := Fr.nil n0
  have pre0 : ∀ t, Steps p.tables e below (s₁.setTop (mkF m 0 #[.val (.int p1)] [])) t → Steps p.tables e below (s₁.setTop (entryFrame m #[(.int p1)] 1)) t := fun t k => castTop (ef_1 m p1) k
  obtain ⟨fs, hr, hrun, hended, hW, hsame⟩ := X0.leave (v := some (.int ((p1 &&& (2147483647 : Int32)) % (5 : Int32)))) (fun h => by rw [Bd.returns] at h; cases h)
  refine ⟨_, _, pre0 _ ?_, hrun, hended, _, _, rfl, ?_, ⟨_, rfl⟩, hW, hsame.mono (by decide) (by decide)⟩
  · show Steps p.tables e below (s₁.setTop (mkF m 0 #[.val (.int p1)] [])) _
    refine XS.iloadN X0.here hx rfl (hb hby d1_0) rfl ?_
    show Steps p.tables e below (s₁.setTop (mkF m 1 #[.val (.int p1)] [(.int p1)])) _
    refine X0.ldcInt hx hown (mvT hZ (hw _ (List.mem_of_getElem? (i := 5) rfl))) (g := (mkF m 1 #[.val (.int p1)] [(.int p1)])) rfl (hb hby d1_1) _ ?_
    show Steps p.tables e below (s₁.setTop (mkF m 3 #[.val (.int p1)] [(.int (2147483647 : Int32)), (.int p1)])) _
    refine XS.iand X0.here hx rfl (hb hby d1_3) rfl ?_
    show Steps p.tables e below (s₁.setTop (mkF m 4 #[.val (.int p1)] [(.int (p1 &&& (2147483647 : Int32)))])) _
    refine XS.iconst X0.here hx rfl (hb hby d1_4) ?_
    show Steps p.tables e below (s₁.setTop (mkF m 5 #[.val (.int p1)] [(.int (5 : Int32)), (.int (p1 &&& (2147483647 : Int32)))])) _
    refine iremM X0 hx rfl (hb hby d1_5) rfl (by decide) ?_
    show Steps p.tables e below (s₁.setTop (mkF m 6 #[.val (.int p1)] [(.int ((p1 &&& (2147483647 : Int32)) % (5 : Int32)))])) _
    exact retI X0 hx Bd.returns (hb hby d1_6) hr
  · show Q1 Z p1 h0 n0 _ s₁.heap _
    rw [e0]
    refine ⟨?_, N0, rfl⟩
    show (some (.int ((p1 &&& (2147483647 : Int32)) % (5 : Int32))) : Option Value) = some (.int (F1 p1))
    rw [F1]
theorem own_F1 (p : Int32) : own_C1 (F1 p) := by
  have m1 : (p &&& 2147483647).toInt = p.toInt % 2 ^ 31 := Jvm.Kit.i32_mask p 2147483647 (k := 31) (by decide) (by decide)
  have d := (own_dm (p &&& 2147483647) 5 (by decide)).1 (by omega)
  have z0 : (0 : Int32).toInt = 0 := rfl
  have z5 : (5 : Int32).toInt = 5 := rfl
  show ¬ ((p &&& 2147483647) % 5 < 0) ∧ (p &&& 2147483647) % 5 < (5 : Int32)
  rw [own_ltI, own_ltI, d.2, z0, z5]
  omega
theorem own_k6 (p : Int32) : ∃ k : Nat, k < 6 ∧ (p &&& 2147483647) % (6 : Int32) = Int32.ofNat k := by
  have m1 : (p &&& 2147483647).toInt = p.toInt % 2 ^ 31 := Jvm.Kit.i32_mask p 2147483647 (k := 31) (by decide) (by decide)
  have d := (own_dm (p &&& 2147483647) 6 (by decide)).1 (by omega)
  have z6 : (6 : Int32).toInt = 6 := rfl
  refine ⟨((p &&& 2147483647) % (6 : Int32)).toInt.toNat, ?_, ?_⟩
  · rw [d.2, z6]; omega
  · rw [own_eqI, own_ofn _ (by rw [d.2, z6]; omega), d.2, z6]; omega

theorem d4_0 : decode prog_36_method_22_code 0 = .ok (.aload_n 0, 1) := by decide +kernel
theorem d4_1 : decode prog_36_method_22_code 1 = .ok (.getfield 38, 3) := by decide +kernel
theorem d4_4 : decode prog_36_method_22_code 4 = .ok (.iload_n 1, 1) := by decide +kernel
theorem d4_5 : decode prog_36_method_22_code 5 = .ok (.baload, 1) := by decide +kernel
theorem d4_6 : decode prog_36_method_22_code 6 = .ok (.ifCond .ne 40, 3) := by decide +kernel
theorem d4_9 : decode prog_36_method_22_code 9 = .ok (.aload_n 0, 1) := by decide +kernel
theorem d4_10 : decode prog_36_method_22_code 10 = .ok (.getfield 38, 3) := by decide +kernel
theorem d4_13 : decode prog_36_method_22_code 13 = .ok (.iload_n 1, 1) := by decide +kernel
theorem d4_14 : decode prog_36_method_22_code 14 = .ok (.iconst 1, 1) := by decide +kernel
theorem d4_15 : decode prog_36_method_22_code 15 = .ok (.bastore, 1) := by decide +kernel
theorem d4_16 : decode prog_36_method_22_code 16 = .ok (.aload_n 0, 1) := by decide +kernel
theorem d4_17 : decode prog_36_method_22_code 17 = .ok (.getfield 35, 3) := by decide +kernel
theorem d4_20 : decode prog_36_method_22_code 20 = .ok (.aload_n 0, 1) := by decide +kernel
theorem d4_21 : decode prog_36_method_22_code 21 = .ok (.getfield 114, 3) := by decide +kernel
theorem d4_24 : decode prog_36_method_22_code 24 = .ok (.aload_n 0, 1) := by decide +kernel
theorem d4_25 : decode prog_36_method_22_code 25 = .ok (.getfield 111, 3) := by decide +kernel
theorem d4_28 : decode prog_36_method_22_code 28 = .ok (.iadd, 1) := by decide +kernel
theorem d4_29 : decode prog_36_method_22_code 29 = .ok (.aload_n 0, 1) := by decide +kernel
theorem d4_30 : decode prog_36_method_22_code 30 = .ok (.getfield 7, 3) := by decide +kernel
theorem d4_33 : decode prog_36_method_22_code 33 = .ok (.irem, 1) := by decide +kernel
theorem d4_34 : decode prog_36_method_22_code 34 = .ok (.iload_n 1, 1) := by decide +kernel
theorem d4_35 : decode prog_36_method_22_code 35 = .ok (.iastore, 1) := by decide +kernel
theorem d4_36 : decode prog_36_method_22_code 36 = .ok (.aload_n 0, 1) := by decide +kernel
theorem d4_37 : decode prog_36_method_22_code 37 = .ok (.dup, 1) := by decide +kernel
theorem d4_38 : decode prog_36_method_22_code 38 = .ok (.getfield 111, 3) := by decide +kernel
theorem d4_41 : decode prog_36_method_22_code 41 = .ok (.iconst 1, 1) := by decide +kernel
theorem d4_42 : decode prog_36_method_22_code 42 = .ok (.iadd, 1) := by decide +kernel
theorem d4_43 : decode prog_36_method_22_code 43 = .ok (.putfield 111, 3) := by decide +kernel
theorem d4_46 : decode prog_36_method_22_code 46 = .ok (.return_, 1) := by decide +kernel
theorem pn_4 : plainName "com/example/tercet/tercet/Partition" = true := by first | (simp [plainName, overriddenIn]; done) | decide +kernel
theorem ef_4 (m : MethodId) (a1 : Addr) (p2 : Int32) : entryFrame m #[(.ref a1), (.int p2)] 2 = mkF m 0 #[.val (.ref a1), .val (.int p2)] [] := by first | (simp [entryFrame, mkF, argsToLocals, Value.category]; done) | rfl
def own_L4_0 (p2 : Int32) (L_c4 : List Int32) (L_c5 : List Int32) (w_queueSize_a1 : Int32) : List Int32 := L_c5.set (p2).toNatClampNeg (nar .boolean (1 : Int32))
def own_L4_1 (p2 : Int32) (L_c4 : List Int32) (L_c5 : List Int32) (w_queueSize_a1 : Int32) : List Int32 := L_c4.set ((((0 : Int32) + w_queueSize_a1) % (5 : Int32))).toNatClampNeg p2

set_option maxRecDepth 65536 in
set_option maxHeartbeats 40000000 in
theorem side_4_5_2 (p2 : Int32) (L_c4 : List Int32) (L_c5 : List Int32) (w_queueSize_a1 : Int32) (hl_c4 : L_c4.length = 5) (hl_c5 : L_c5.length = 5) (hp : ¬ (p2 < 0) ∧ p2 < (5 : Int32)) (hq : own_q w_queueSize_a1) : ¬ (p2 < 0) ∧ p2 < (5 : Int32) := by
  exact hp
set_option maxRecDepth 65536 in
set_option maxHeartbeats 40000000 in
theorem side_4_15_6 (p2 : Int32) (L_c4 : List Int32) (L_c5 : List Int32) (w_queueSize_a1 : Int32) (hl_c4 : L_c4.length = 5) (hl_c5 : L_c5.length = 5) (hp : ¬ (p2 < 0) ∧ p2 < (5 : Int32)) (hq : own_q w_queueSize_a1) (hc4 : (own_at L_c5 p2) = (0 : Int32)) : ¬ (p2 < 0) ∧ p2 < (5 : Int32) := by
  exact hp
set_option maxRecDepth 65536 in
set_option maxHeartbeats 40000000 in
theorem side_4_35_16 (p2 : Int32) (L_c4 : List Int32) (L_c5 : List Int32) (w_queueSize_a1 : Int32) (hl_c4 : L_c4.length = 5) (hl_c5 : L_c5.length = 5) (hp : ¬ (p2 < 0) ∧ p2 < (5 : Int32)) (hq : own_q w_queueSize_a1) (hc4 : (own_at L_c5 p2) = (0 : Int32)) : ¬ ((((0 : Int32) + w_queueSize_a1) % (5 : Int32)) < 0) ∧ (((0 : Int32) + w_queueSize_a1) % (5 : Int32)) < (5 : Int32) := by
  exact own_rem5 _ hq
def Q4 (Z : State) (a1 : Addr) (p2 : Int32) (c1 : Addr) (c2 : Addr) (c3 : Addr) (c4 : Addr) (k_c4 : ClassId) (L_c4 : List Int32) (c5 : Addr) (k_c5 : ClassId) (L_c5 : List Int32) (w_queueSize_a1 : Int32) (u_cells_a1 : Value) (h0 : Heap) (n0 : Nat) (v : Option Value) (h : Heap) (L : List Loc) : Prop := v = none ∧ Fr n0 L ∧ Keep h0 h [c5, c4, a1] ∧ ∃ (U D : List Int32) (r : Int32), U.length = 5 ∧ D.length = 5 ∧ (r = w_queueSize_a1 ∨ r = w_queueSize_a1 + 1) ∧ own_EQ Z h a1 c1 c2 c3 c4 c5 k_c4 k_c5 U D r u_cells_a1
set_option maxRecDepth 65536 in
set_option maxHeartbeats 40000000 in
theorem rm4 (l : Launch) (Z : State) (a0 : Array Value) (hw : ∀ d ∈ tables_1, d.before a0 Z = true) (ws : List Jvm.Cond) (a1 : Addr) (p2 : Int32) (c1 : Addr) (c2 : Addr) (c3 : Addr) (c4 : Addr) (k_c4 : ClassId) (L_c4 : List Int32) (c5 : Addr) (k_c5 : ClassId) (L_c5 : List Int32) (w_queueSize_a1 : Int32) (u_cells_a1 : Value) (h0 : Heap) (n0 : Nat) (Z0 : n0 ≤ h0.size) (E_a1 : Exa Z h0 a1 "com/example/tercet/tercet/Partition") (F_size_a1 : Fld Z h0 a1 "com/example/tercet/tercet/Partition" "size" "I" (.int (5 : Int32))) (F_queueHead_a1 : Fld Z h0 a1 "com/example/tercet/tercet/Partition" "queueHead" "I" (.int (0 : Int32))) (F_order_a1 : Fld Z h0 a1 "com/example/tercet/tercet/Partition" "order" "[I" (.ref c1)) (F_cellOf_a1 : Fld Z h0 a1 "com/example/tercet/tercet/Partition" "cellOf" "[I" (.ref c2)) (F_cellEnd_a1 : Fld Z h0 a1 "com/example/tercet/tercet/Partition" "cellEnd" "[I" (.ref c3)) (F_queue_a1 : Fld Z h0 a1 "com/example/tercet/tercet/Partition" "queue" "[I" (.ref c4)) (V_c4 : Arv Z h0 c4 k_c4 .int (5 : Int32) (L_c4.map Value.int) (.int (0 : Int32))) (hl_c4 : L_c4.length = 5) (F_queued_a1 : Fld Z h0 a1 "com/example/tercet/tercet/Partition" "queued" "[Z" (.ref c5)) (V_c5 : Arv Z h0 c5 k_c5 .boolean (5 : Int32) (L_c5.map Value.int) (.int (0 : Int32))) (hl_c5 : L_c5.length = 5) (F_queueSize_a1 : Fld Z h0 a1 "com/example/tercet/tercet/Partition" "queueSize" "I" (.int w_queueSize_a1)) (F_cells_a1 : Fld Z h0 a1 "com/example/tercet/tercet/Partition" "cells" "I" u_cells_a1) (hp : ¬ (p2 < 0) ∧ p2 < (5 : Int32)) (hq : own_q w_queueSize_a1) (g_c5 : n0 ≤ c5) (ne_a1_c5 : a1 ≠ c5) (ne_c4_c5 : c4 ≠ c5) (g_c4 : n0 ≤ c4) (ne_a1_c4 : a1 ≠ c4) (g_a1 : n0 ≤ a1) :
    MetFree l (⟨"com/example/tercet/tercet/Partition", "enqueue", "(I)V"⟩ : MethodName) (head1 (Jvm.Cond.code (⟨"com/example/tercet/tercet/Partition", "enqueue", "(I)V"⟩ : MethodName) prog_36_method_22_code 2 none :: ws) ({ frames := 0, cells := 0, slots := 0, locals := 0 } : Room)) (fun a U => a = #[(.ref a1), (.int p2)] ∧ Z.Warmed39 U.vm ∧ U.heap = h0) (fun _ _ _ _ _ => True) (fun _ U o U' => ∃ v L, o = .returned v ∧ Q4 Z a1 p2 c1 c2 c3 c4 k_c4 L_c4 c5 k_c5 L_c5 w_queueSize_a1 u_cells_a1 h0 n0 v U'.heap L ∧ FrameEnd U o U' L ({ frames := 0, cells := 0, slots := 0, locals := 0 } : Room).cells ({ frames := 0, cells := 0, slots := 0, locals := 0 } : Room).slots) := by
  refine MetFree.of_bodySF (plainFor_of_name pn_4) hisR ?_
  intro p e s m args below meth c s₁ Bd hml0 hP hK
  obtain ⟨rfl, hZ, hh⟩ := hP
  skip
  skip
  skip
  skip
  skip
  skip
  have hx := Bd.exec
  have hby := Bd.bytes
  have hml : c.maxLocals = 2 := hml0
  have hown : s.vm.findClass "com/example/tercet/tercet/Partition" = some m.cls := findClass_of_methodNamed Bd.named
  have hnm := (name_of_methodNamed Bd.named Bd.method).1
  have X0 : Stand p l e ({ frames := 0, cells := 0, slots := 0, locals := 0 } : Room) s m #[(.ref a1), (.int p2)] below meth c s₁ [] 0 0 := Stand.of_body Bd
  have e0 : s₁.heap = h0 := by rw [← hh, Bd.state]; rfl
  have N0 := Fr.nil n0
  have pre0 : ∀ t, Steps p.tables e below (s₁.setTop (mkF m 0 #[.val (.ref a1), .val (.int p2)] [])) t → Steps p.tables e below (s₁.setTop (entryFrame m #[(.ref a1), (.int p2)] 2)) t := fun t k => castTop (ef_4 m a1 p2) k
  obtain ⟨T1, X1, e1, st1⟩ := getF X0 hx hZ hown (host := "") (Or.inl (hw _ (List.mem_of_getElem? (i := 34) rfl))) Via.refl e0 F_queued_a1 (g := (mkF m 1 #[.val (.ref a1), .val (.int p2)] [(.ref a1)])) rfl rfl (hb hby d4_1)
  obtain ⟨cl2, Ar2, aq2, S2, M2, H2, G2⟩ := id V_c5
  have hin2 : ¬ (p2 < 0 ∨ cl2.slots.size ≤ (p2).toNatClampNeg) := inb_of S2 (side_4_5_2 p2 L_c4 L_c5 w_queueSize_a1 hl_c4 hl_c5 hp hq)
  have hat2 : cl2.slots[(p2).toNatClampNeg]? = some (.int (own_at L_c5 p2)) := Has.at H2 hin2 (own_getD L_c5 (p2).toNatClampNeg)
  have pre3 : ∀ t, Steps p.tables e below (T1.setTop (mkF m 6 #[.val (.ref a1), .val (.int p2)] [(.int (own_at L_c5 p2))])) t → Steps p.tables e below (s₁.setTop (entryFrame m #[(.ref a1), (.int p2)] 2)) t := fun t kt => by
    refine pre0 t ?_
    show Steps p.tables e below (s₁.setTop (mkF m 0 #[.val (.ref a1), .val (.int p2)] [])) _
    refine XS.aloadN X0.here hx rfl (hb hby d4_0) rfl rfl ?_
    show Steps p.tables e below (s₁.setTop (mkF m 1 #[.val (.ref a1), .val (.int p2)] [(.ref a1)])) _
    refine st1 _ ?_
    show Steps p.tables e below (T1.setTop (mkF m 4 #[.val (.ref a1), .val (.int p2)] [(.ref c5)])) _
    refine XS.iloadN X1.here hx rfl (hb hby d4_4) rfl ?_
    show Steps p.tables e below (T1.setTop (mkF m 5 #[.val (.ref a1), .val (.int p2)] [(.int p2), (.ref c5)])) _
    refine X1.baloadBooleans hx (j := p2) (v := (.int (own_at L_c5 p2))) (by rw [e1]; exact Ar2.1) (State.isArrayOf_alike hZ.alike Ar2.2.1) Ar2.2.2 hin2 hat2 (g := (mkF m 5 #[.val (.ref a1), .val (.int p2)] [(.int p2), (.ref c5)])) rfl rfl (hb hby d4_5) _ ?_
    exact kt
  by_cases hc4 : (own_at L_c5 p2) = (0 : Int32)
  · obtain ⟨T5, X5, e5, st5⟩ := getF X1 hx hZ hown (host := "") (Or.inl (hw _ (List.mem_of_getElem? (i := 34) rfl))) Via.refl e1 F_queued_a1 (g := (mkF m 10 #[.val (.ref a1), .val (.int p2)] [(.ref a1)])) rfl rfl (hb hby d4_10)
    have sd6 : ¬ (p2 < 0) ∧ p2 < (5 : Int32) := (side_4_15_6 p2 L_c4 L_c5 w_queueSize_a1 hl_c4 hl_c5 hp hq hc4)
    have Vo6 : Arv Z h0 c5 k_c5 .boolean (5 : Int32) (L_c5.map Value.int) (.int (0 : Int32)) := V_c5
    obtain ⟨cl6, Ar6, aq6, S6, M6, H6, G6⟩ := id V_c5
    obtain ⟨T6, h6, X6, e6, W6, st6⟩ := stZ X5 hx hZ e5 Ar6 (j := p2) (inb_of S6 sd6) (g := (mkF m 15 #[.val (.ref a1), .val (.int p2)] [(.int (1 : Int32)), (.int p2), (.ref c5)])) rfl rfl (hb hby d4_15)
    have hl6 : (own_L4_0 p2 L_c4 L_c5 w_queueSize_a1).length = 5 := (List.length_set ..).trans hl_c5
    have V6 : Arv Z h6 c5 k_c5 .boolean (5 : Int32) ((own_L4_0 p2 L_c4 L_c5 w_queueSize_a1).map Value.int) (.int (0 : Int32)) := own_setZ Vo6 hl_c5 W6 sd6
    have N6 := Fr.snoc X6 N0 g_c5
    have fq7 := (Fld.other W6 F_queue_a1 (Or.inl ne_a1_c5))
    obtain ⟨T8, X8, e8, st8⟩ := getF X6 hx hZ hown (host := "") (Or.inl (hw _ (List.mem_of_getElem? (i := 31) rfl))) Via.refl e6 fq7 (g := (mkF m 17 #[.val (.ref a1), .val (.int p2)] [(.ref a1)])) rfl rfl (hb hby d4_17)
    have fq9 := (Fld.other W6 F_queueHead_a1 (Or.inl ne_a1_c5))
    obtain ⟨T10, X10, e10, st10⟩ := getF X8 hx hZ hown (host := "") (Or.inl (hw _ (List.mem_of_getElem? (i := 64) rfl))) Via.refl e8 fq9 (g := (mkF m 21 #[.val (.ref a1), .val (.int p2)] [(.ref a1), (.ref c4)])) rfl rfl (hb hby d4_21)
    have fq11 := (Fld.other W6 F_queueSize_a1 (Or.inl ne_a1_c5))
    obtain ⟨T12, X12, e12, st12⟩ := getF X10 hx hZ hown (host := "") (Or.inl (hw _ (List.mem_of_getElem? (i := 66) rfl))) Via.refl e10 fq11 (g := (mkF m 25 #[.val (.ref a1), .val (.int p2)] [(.ref a1), (.int (0 : Int32)), (.ref c4)])) rfl rfl (hb hby d4_25)
    have fq13 := (Fld.other W6 F_size_a1 (Or.inl ne_a1_c5))
    obtain ⟨T14, X14, e14, st14⟩ := getF X12 hx hZ hown (host := "") (Or.inl (hw _ (List.mem_of_getElem? (i := 15) rfl))) Via.refl e12 fq13 (g := (mkF m 30 #[.val (.ref a1), .val (.int p2)] [(.ref a1), (.int ((0 : Int32) + w_queueSize_a1)), (.ref c4)])) rfl rfl (hb hby d4_30)
    have fq15 := (V_c4.other W6 ne_c4_c5)
    have sd16 : ¬ ((((0 : Int32) + w_queueSize_a1) % (5 : Int32)) < 0) ∧ (((0 : Int32) + w_queueSize_a1) % (5 : Int32)) < (5 : Int32) := (side_4_35_16 p2 L_c4 L_c5 w_queueSize_a1 hl_c4 hl_c5 hp hq hc4)
    have Vo16 : Arv Z h6 c4 k_c4 .int (5 : Int32) (L_c4.map Value.int) (.int (0 : Int32)) := fq15
    obtain ⟨cl16, Ar16, aq16, S16, M16, H16, G16⟩ := id fq15
    obtain ⟨T16, h16, X16, e16, W16, st16⟩ := stI X14 hx hZ e14 Ar16 (j := (((0 : Int32) + w_queueSize_a1) % (5 : Int32))) (inb_of S16 sd16) (g := (mkF m 35 #[.val (.ref a1), .val (.int p2)] [(.int p2), (.int (((0 : Int32) + w_queueSize_a1) % (5 : Int32))), (.ref c4)])) rfl rfl (hb hby d4_35)
    have hl16 : (own_L4_1 p2 L_c4 L_c5 w_queueSize_a1).length = 5 := (List.length_set ..).trans hl_c4
    have V16 : Arv Z h16 c4 k_c4 .int (5 : Int32) ((own_L4_1 p2 L_c4 L_c5 w_queueSize_a1).map Value.int) (.int (0 : Int32)) := own_setL Vo16 hl_c4 W16 sd16
    have N16 := Fr.snoc X16 N6 g_c4
    have fq17 := (Fld.other W16 fq11 (Or.inl ne_a1_c4))
    obtain ⟨T18, X18, e18, st18⟩ := getF X16 hx hZ hown (host := "") (Or.inl (hw _ (List.mem_of_getElem? (i := 66) rfl))) Via.refl e16 fq17 (g := (mkF m 38 #[.val (.ref a1), .val (.int p2)] [(.ref a1), (.ref a1)])) rfl rfl (hb hby d4_38)
    have fq19 := (Exa.wr W16 (Exa.wr W6 E_a1))
    obtain ⟨T20, h20, X20, e20, W20, st20⟩ := putF X18 hx hZ hown (host := "") (Or.inl (hw _ (List.mem_of_getElem? (i := 66) rfl))) Via.refl e18 fq17 fq19 (Or.inl (hw _ (List.mem_of_getElem? (i := 67) rfl))) (hw _ (List.mem_of_getElem? (i := 7) rfl)) (ty := .int) (by decide) rfl rfl (g := (mkF m 43 #[.val (.ref a1), .val (.int p2)] [(.int (w_queueSize_a1 + (1 : Int32))), (.ref a1)])) rfl rfl (hb hby d4_43)
    have Fw20 := Fld.same W20 fq17
    have N20 := Fr.snoc X20 N16 g_a1
    have k21 : Keep h0 h20 [c5, c4, a1] := ((((Keep.refl h0 [c5, c4, a1]).wr W6 (Or.inl (by simp))).wr W16 (Or.inl (by simp))).wr W20 (Or.inl (by simp)))
    have fq22 := (Exa.wr W20 fq19)
    have fq23 := (Fld.other W20 (Fld.other W16 fq13 (Or.inl ne_a1_c4)) (Or.inr (slot_ne (Or.inr (hw _ (List.mem_of_getElem? (i := 16) rfl))) (Or.inl (hw _ (List.mem_of_getElem? (i := 67) rfl))) (by decide) (t := .int) (t' := .int) (by decide) (by decide))))
    have fq24 := (Fld.other W20 (Fld.other W16 (Fld.other W6 F_order_a1 (Or.inl ne_a1_c5)) (Or.inl ne_a1_c4)) (Or.inr (slot_ne (Or.inr (hw _ (List.mem_of_getElem? (i := 24) rfl))) (Or.inl (hw _ (List.mem_of_getElem? (i := 67) rfl))) (by decide) (t := (.array .int)) (t' := .int) (by decide) (by decide))))
    have fq25 := (Fld.other W20 (Fld.other W16 (Fld.other W6 F_cellOf_a1 (Or.inl ne_a1_c5)) (Or.inl ne_a1_c4)) (Or.inr (slot_ne (Or.inr (hw _ (List.mem_of_getElem? (i := 28) rfl))) (Or.inl (hw _ (List.mem_of_getElem? (i := 67) rfl))) (by decide) (t := (.array .int)) (t' := .int) (by decide) (by decide))))
    have fq26 := (Fld.other W20 (Fld.other W16 (Fld.other W6 F_cellEnd_a1 (Or.inl ne_a1_c5)) (Or.inl ne_a1_c4)) (Or.inr (slot_ne (Or.inr (hw _ (List.mem_of_getElem? (i := 30) rfl))) (Or.inl (hw _ (List.mem_of_getElem? (i := 67) rfl))) (by decide) (t := (.array .int)) (t' := .int) (by decide) (by decide))))
    have fq27 := (Fld.other W20 (Fld.other W16 fq7 (Or.inl ne_a1_c4)) (Or.inr (slot_ne (Or.inr (hw _ (List.mem_of_getElem? (i := 32) rfl))) (Or.inl (hw _ (List.mem_of_getElem? (i := 67) rfl))) (by decide) (t := (.array .int)) (t' := .int) (by decide) (by decide))))
    have fq28 := (Fld.other W20 (Fld.other W16 (Fld.other W6 F_queued_a1 (Or.inl ne_a1_c5)) (Or.inl ne_a1_c4)) (Or.inr (slot_ne (Or.inr (hw _ (List.mem_of_getElem? (i := 35) rfl))) (Or.inl (hw _ (List.mem_of_getElem? (i := 67) rfl))) (by decide) (t := (.array .boolean)) (t' := .int) (by decide) (by decide))))
    have fq29 := (Fld.other W20 (Fld.other W16 fq9 (Or.inl ne_a1_c4)) (Or.inr (slot_ne (Or.inl (hw _ (List.mem_of_getElem? (i := 65) rfl))) (Or.inl (hw _ (List.mem_of_getElem? (i := 67) rfl))) (by decide) (t := .int) (t' := .int) (by decide) (by decide))))
    have fq30 := (Fld.other W20 (Fld.other W16 (Fld.other W6 F_cells_a1 (Or.inl ne_a1_c5)) (Or.inl ne_a1_c4)) (Or.inr (slot_ne (Or.inl (hw _ (List.mem_of_getElem? (i := 59) rfl))) (Or.inl (hw _ (List.mem_of_getElem? (i := 67) rfl))) (by decide) (t := .int) (t' := .int) (by decide) (by decide))))
    have fq31 := (V16.other W20 (Ne.symm ne_a1_c4))
    have fq32 := ((V6.other W16 (Ne.symm ne_c4_c5)).other W20 (Ne.symm ne_a1_c5))
    obtain ⟨fs, hr, hrun, hended, hW, hsame⟩ := X20.leave (v := none) (fun _ => rfl)
    refine ⟨_, _, pre3 _ ?_, hrun, hended, _, _, rfl, ?_, ⟨_, rfl⟩, hW, hsame.mono (by decide) (by decide)⟩
    · show Steps p.tables e below (T1.setTop (mkF m 6 #[.val (.ref a1), .val (.int p2)] [(.int (own_at L_c5 p2))])) _
      refine XS.ifNo X1.here hx rfl (hb hby d4_6) rfl ((if0 _ _).trans (teq hc4).2) ?_
      show Steps p.tables e below (T1.setTop (mkF m 9 #[.val (.ref a1), .val (.int p2)] [])) _
      refine XS.aloadN X1.here hx rfl (hb hby d4_9) rfl rfl ?_
      show Steps p.tables e below (T1.setTop (mkF m 10 #[.val (.ref a1), .val (.int p2)] [(.ref a1)])) _
      refine st5 _ ?_
      show Steps p.tables e below (T5.setTop (mkF m 13 #[.val (.ref a1), .val (.int p2)] [(.ref c5)])) _
      refine XS.iloadN X5.here hx rfl (hb hby d4_13) rfl ?_
      show Steps p.tables e below (T5.setTop (mkF m 14 #[.val (.ref a1), .val (.int p2)] [(.int p2), (.ref c5)])) _
      refine XS.iconst X5.here hx rfl (hb hby d4_14) ?_
      show Steps p.tables e below (T5.setTop (mkF m 15 #[.val (.ref a1), .val (.int p2)] [(.int (1 : Int32)), (.int p2), (.ref c5)])) _
      refine st6 _ ?_
      show Steps p.tables e below (T6.setTop (mkF m 16 #[.val (.ref a1), .val (.int p2)] [])) _
      refine XS.aloadN X6.here hx rfl (hb hby d4_16) rfl rfl ?_
      show Steps p.tables e below (T6.setTop (mkF m 17 #[.val (.ref a1), .val (.int p2)] [(.ref a1)])) _
      refine st8 _ ?_
      show Steps p.tables e below (T8.setTop (mkF m 20 #[.val (.ref a1), .val (.int p2)] [(.ref c4)])) _
      refine XS.aloadN X8.here hx rfl (hb hby d4_20) rfl rfl ?_
      show Steps p.tables e below (T8.setTop (mkF m 21 #[.val (.ref a1), .val (.int p2)] [(.ref a1), (.ref c4)])) _
      refine st10 _ ?_
      show Steps p.tables e below (T10.setTop (mkF m 24 #[.val (.ref a1), .val (.int p2)] [(.int (0 : Int32)), (.ref c4)])) _
      refine XS.aloadN X10.here hx rfl (hb hby d4_24) rfl rfl ?_
      show Steps p.tables e below (T10.setTop (mkF m 25 #[.val (.ref a1), .val (.int p2)] [(.ref a1), (.int (0 : Int32)), (.ref c4)])) _
      refine st12 _ ?_
      show Steps p.tables e below (T12.setTop (mkF m 28 #[.val (.ref a1), .val (.int p2)] [(.int w_queueSize_a1), (.int (0 : Int32)), (.ref c4)])) _
      refine XS.iadd X12.here hx rfl (hb hby d4_28) rfl ?_
      show Steps p.tables e below (T12.setTop (mkF m 29 #[.val (.ref a1), .val (.int p2)] [(.int ((0 : Int32) + w_queueSize_a1)), (.ref c4)])) _
      refine XS.aloadN X12.here hx rfl (hb hby d4_29) rfl rfl ?_
      show Steps p.tables e below (T12.setTop (mkF m 30 #[.val (.ref a1), .val (.int p2)] [(.ref a1), (.int ((0 : Int32) + w_queueSize_a1)), (.ref c4)])) _
      refine st14 _ ?_
      show Steps p.tables e below (T14.setTop (mkF m 33 #[.val (.ref a1), .val (.int p2)] [(.int (5 : Int32)), (.int ((0 : Int32) + w_queueSize_a1)), (.ref c4)])) _
      refine iremM X14 hx rfl (hb hby d4_33) rfl (by decide) ?_
      show Steps p.tables e below (T14.setTop (mkF m 34 #[.val (.ref a1), .val (.int p2)] [(.int (((0 : Int32) + w_queueSize_a1) % (5 : Int32))), (.ref c4)])) _
      refine XS.iloadN X14.here hx rfl (hb hby d4_34) rfl ?_
      show Steps p.tables e below (T14.setTop (mkF m 35 #[.val (.ref a1), .val (.int p2)] [(.int p2), (.int (((0 : Int32) + w_queueSize_a1) % (5 : Int32))), (.ref c4)])) _
      refine st16 _ ?_
      show Steps p.tables e below (T16.setTop (mkF m 36 #[.val (.ref a1), .val (.int p2)] [])) _
      refine XS.aloadN X16.here hx rfl (hb hby d4_36) rfl rfl ?_
      show Steps p.tables e below (T16.setTop (mkF m 37 #[.val (.ref a1), .val (.int p2)] [(.ref a1)])) _
      refine XS.dup X16.here hx rfl (hb hby d4_37) rfl rfl ?_
      show Steps p.tables e below (T16.setTop (mkF m 38 #[.val (.ref a1), .val (.int p2)] [(.ref a1), (.ref a1)])) _
      refine st18 _ ?_
      show Steps p.tables e below (T18.setTop (mkF m 41 #[.val (.ref a1), .val (.int p2)] [(.int w_queueSize_a1), (.ref a1)])) _
      refine XS.iconst X18.here hx rfl (hb hby d4_41) ?_
      show Steps p.tables e below (T18.setTop (mkF m 42 #[.val (.ref a1), .val (.int p2)] [(.int (1 : Int32)), (.int w_queueSize_a1), (.ref a1)])) _
      refine XS.iadd X18.here hx rfl (hb hby d4_42) rfl ?_
      show Steps p.tables e below (T18.setTop (mkF m 43 #[.val (.ref a1), .val (.int p2)] [(.int (w_queueSize_a1 + (1 : Int32))), (.ref a1)])) _
      refine st20 _ ?_
      show Steps p.tables e below (T20.setTop (mkF m 46 #[.val (.ref a1), .val (.int p2)] [])) _
      exact X20.returnOut hx Bd.returns (hb hby d4_46) hr
    · show Q4 Z a1 p2 c1 c2 c3 c4 k_c4 L_c4 c5 k_c5 L_c5 w_queueSize_a1 u_cells_a1 h0 n0 _ T20.heap _
      rw [e20]
      exact ⟨rfl, N20, k21, (own_L4_1 p2 L_c4 L_c5 w_queueSize_a1), (own_L4_0 p2 L_c4 L_c5 w_queueSize_a1), _, hl16, hl6, Or.inr rfl, fq22, fq23, fq24, fq25, fq26, fq27, fq28, fq29, Fw20, fq30, fq31, fq32⟩
  · obtain ⟨fs, hr, hrun, hended, hW, hsame⟩ := X1.leave (v := none) (fun _ => rfl)
    refine ⟨_, _, pre3 _ ?_, hrun, hended, _, _, rfl, ?_, ⟨_, rfl⟩, hW, hsame.mono (by decide) (by decide)⟩
    · show Steps p.tables e below (T1.setTop (mkF m 6 #[.val (.ref a1), .val (.int p2)] [(.int (own_at L_c5 p2))])) _
      refine XS.ifYes X1.here hx rfl (pc0 := 6) (pc' := 46) rfl (hb hby d4_6) rfl ((if0 _ _).trans (feq hc4).2) (by decide) (by decide) ?_
      show Steps p.tables e below (T1.setTop (mkF m 46 #[.val (.ref a1), .val (.int p2)] [])) _
      exact X1.returnOut hx Bd.returns (hb hby d4_46) hr
    · show Q4 Z a1 p2 c1 c2 c3 c4 k_c4 L_c4 c5 k_c5 L_c5 w_queueSize_a1 u_cells_a1 h0 n0 _ T1.heap _
      rw [e1]
      exact ⟨rfl, N0, (Keep.refl h0 _), L_c4, L_c5, _, hl_c4, hl_c5, Or.inl rfl, E_a1, F_size_a1, F_order_a1, F_cellOf_a1, F_cellEnd_a1, F_queue_a1, F_queued_a1, F_queueHead_a1, F_queueSize_a1, F_cells_a1, V_c4, V_c5⟩
theorem d5_0 : decode prog_36_method_8_code 0 = .ok (.iload_n 1, 1) := by decide +kernel
theorem d5_1 : decode prog_36_method_8_code 1 = .ok (.istore_n 2, 1) := by decide +kernel
theorem d5_2 : decode prog_36_method_8_code 2 = .ok (.iload_n 2, 1) := by decide +kernel
theorem d5_3 : decode prog_36_method_8_code 3 = .ok (.aload_n 0, 1) := by decide +kernel
theorem d5_4 : decode prog_36_method_8_code 4 = .ok (.getfield 7, 3) := by decide +kernel
theorem d5_7 : decode prog_36_method_8_code 7 = .ok (.if_icmp .ge 27, 3) := by decide +kernel
theorem d5_10 : decode prog_36_method_8_code 10 = .ok (.aload_n 0, 1) := by decide +kernel
theorem d5_11 : decode prog_36_method_8_code 11 = .ok (.getfield 32, 3) := by decide +kernel
theorem d5_14 : decode prog_36_method_8_code 14 = .ok (.iload_n 2, 1) := by decide +kernel
theorem d5_15 : decode prog_36_method_8_code 15 = .ok (.iaload, 1) := by decide +kernel
theorem d5_16 : decode prog_36_method_8_code 16 = .ok (.iload_n 2, 1) := by decide +kernel
theorem d5_17 : decode prog_36_method_8_code 17 = .ok (.isub, 1) := by decide +kernel
theorem d5_18 : decode prog_36_method_8_code 18 = .ok (.iconst 1, 1) := by decide +kernel
theorem d5_19 : decode prog_36_method_8_code 19 = .ok (.if_icmp .le 5, 3) := by decide +kernel
theorem d5_22 : decode prog_36_method_8_code 22 = .ok (.iload_n 2, 1) := by decide +kernel
theorem d5_23 : decode prog_36_method_8_code 23 = .ok (.ireturn, 1) := by decide +kernel
theorem d5_24 : decode prog_36_method_8_code 24 = .ok (.aload_n 0, 1) := by decide +kernel
theorem d5_25 : decode prog_36_method_8_code 25 = .ok (.getfield 32, 3) := by decide +kernel
theorem d5_28 : decode prog_36_method_8_code 28 = .ok (.iload_n 2, 1) := by decide +kernel
theorem d5_29 : decode prog_36_method_8_code 29 = .ok (.iaload, 1) := by decide +kernel
theorem d5_30 : decode prog_36_method_8_code 30 = .ok (.istore_n 2, 1) := by decide +kernel
theorem d5_31 : decode prog_36_method_8_code 31 = .ok (.goto (-29), 3) := by decide +kernel
theorem d5_34 : decode prog_36_method_8_code 34 = .ok (.iconst (-1), 1) := by decide +kernel
theorem d5_35 : decode prog_36_method_8_code 35 = .ok (.ireturn, 1) := by decide +kernel
theorem pn_5 : plainName "com/example/tercet/tercet/Partition" = true := by first | (simp [plainName, overriddenIn]; done) | decide +kernel
theorem ef_5 (m : MethodId) (a1 : Addr) (p2 : Int32) : entryFrame m #[(.ref a1), (.int p2)] 3 = mkF m 0 #[.val (.ref a1), .val (.int p2), .unset] [] := by first | (simp [entryFrame, mkF, argsToLocals, Value.category]; done) | rfl

set_option maxRecDepth 65536 in
set_option maxHeartbeats 40000000 in
theorem side_5_15_6 (p2 : Int32) (L_c1 : List Int32) (hl_c1 : L_c1.length = 5) (hp : p2 = Int32.ofNat (p2).toNatClampNeg ∧ own_W L_c1 6 (p2).toNatClampNeg = true) (i : Nat) (hi : i ≤ 5) (hc4 : (Int32.ofNat i) < (5 : Int32)) : ¬ ((Int32.ofNat i) < 0) ∧ (Int32.ofNat i) < (5 : Int32) := by
  exact own_nb i ((own_lt5 i (own_t hi)).mp ‹Int32.ofNat i < (5 : Int32)›)
set_option maxRecDepth 65536 in
set_option maxHeartbeats 40000000 in
theorem side_5_29_10 (p2 : Int32) (L_c1 : List Int32) (hl_c1 : L_c1.length = 5) (hp : p2 = Int32.ofNat (p2).toNatClampNeg ∧ own_W L_c1 6 (p2).toNatClampNeg = true) (i : Nat) (hi : i ≤ 5) (hc4 : (Int32.ofNat i) < (5 : Int32)) (hc8 : ¬ ((1 : Int32) < ((own_at L_c1 (Int32.ofNat i)) - (Int32.ofNat i)))) : ¬ ((Int32.ofNat i) < 0) ∧ (Int32.ofNat i) < (5 : Int32) := by
  exact own_nb i ((own_lt5 i (own_t hi)).mp ‹Int32.ofNat i < (5 : Int32)›)
def Q5 (Z : State) (a1 : Addr) (p2 : Int32) (c1 : Addr) (k_c1 : ClassId) (L_c1 : List Int32) (h0 : Heap) (n0 : Nat) (v : Option Value) (h : Heap) (L : List Loc) : Prop := v = some (.int (own_fn L_c1 6 p2.toNatClampNeg)) ∧ Fr n0 L ∧ h = h0
set_option maxRecDepth 65536 in
set_option maxHeartbeats 40000000 in
theorem rm5 (l : Launch) (Z : State) (a0 : Array Value) (hw : ∀ d ∈ tables_1, d.before a0 Z = true) (ws : List Jvm.Cond) (a1 : Addr) (p2 : Int32) (c1 : Addr) (k_c1 : ClassId) (L_c1 : List Int32) (h0 : Heap) (n0 : Nat) (Z0 : n0 ≤ h0.size) (E_a1 : Exa Z h0 a1 "com/example/tercet/tercet/Partition") (F_size_a1 : Fld Z h0 a1 "com/example/tercet/tercet/Partition" "size" "I" (.int (5 : Int32))) (F_cellEnd_a1 : Fld Z h0 a1 "com/example/tercet/tercet/Partition" "cellEnd" "[I" (.ref c1)) (V_c1 : Arv Z h0 c1 k_c1 .int (5 : Int32) (L_c1.map Value.int) (.int (0 : Int32))) (hl_c1 : L_c1.length = 5) (hp : p2 = Int32.ofNat (p2).toNatClampNeg ∧ own_W L_c1 6 (p2).toNatClampNeg = true) :
    MetFree l (⟨"com/example/tercet/tercet/Partition", "firstNonSingletonCell", "(I)I"⟩ : MethodName) (head1 (Jvm.Cond.code (⟨"com/example/tercet/tercet/Partition", "firstNonSingletonCell", "(I)I"⟩ : MethodName) prog_36_method_8_code 3 (some .int) :: ws) ({ frames := 0, cells := 0, slots := 0, locals := 0 } : Room)) (fun a U => a = #[(.ref a1), (.int p2)] ∧ Z.Warmed39 U.vm ∧ U.heap = h0) (fun _ _ _ _ _ => True) (fun _ U o U' => ∃ v L, o = .returned v ∧ Q5 Z a1 p2 c1 k_c1 L_c1 h0 n0 v U'.heap L ∧ FrameEnd U o U' L ({ frames := 0, cells := 0, slots := 0, locals := 0 } : Room).cells ({ frames := 0, cells := 0, slots := 0, locals := 0 } : Room).slots) := by
  refine MetFree.of_bodySF (plainFor_of_name pn_5) hisR ?_
  intro p e s m args below meth c s₁ Bd hml0 hP hK
  obtain ⟨rfl, hZ, hh⟩ := hP
  skip
  skip
  skip
  skip
  skip
  skip
  have hx := Bd.exec
  have hby := Bd.bytes
  have hml : c.maxLocals = 3 := hml0
  have hown : s.vm.findClass "com/example/tercet/tercet/Partition" = some m.cls := findClass_of_methodNamed Bd.named
  have hnm := (name_of_methodNamed Bd.named Bd.method).1
  have X0 : Stand p l e ({ frames := 0, cells := 0, slots := 0, locals := 0 } : Room) s m #[(.ref a1), (.int p2)] below meth c s₁ [] 0 0 := Stand.of_body Bd
  have e0 : s₁.heap = h0 := by rw [← hh, Bd.state]; rfl
  have N0 := Fr.nil n0
  have pre0 : ∀ t, Steps p.tables e below (s₁.setTop (mkF m 0 #[.val (.ref a1), .val (.int p2), .unset] [])) t → Steps p.tables e below (s₁.setTop (entryFrame m #[(.ref a1), (.int p2)] 3)) t := fun t k => castTop (ef_5 m a1 p2) k
  have pre1 : ∀ t, Steps p.tables e below (s₁.setTop (mkF m 2 #[.val (.ref a1), .val (.int p2), .val (.int p2)] [])) t → Steps p.tables e below (s₁.setTop (entryFrame m #[(.ref a1), (.int p2)] 3)) t := fun t kt => by
    refine pre0 t ?_
    show Steps p.tables e below (s₁.setTop (mkF m 0 #[.val (.ref a1), .val (.int p2), .unset] [])) _
    refine XS.iloadN X0.here hx rfl (hb hby d5_0) rfl ?_
    show Steps p.tables e below (s₁.setTop (mkF m 1 #[.val (.ref a1), .val (.int p2), .unset] [(.int p2)])) _
    refine XS.istoreN X0.here hx rfl (hb hby d5_1) rfl (l' := #[.val (.ref a1), .val (.int p2), .val (.int p2)]) rfl ?_
    exact kt
  refine Classical.byContradiction fun hG => ?_
  have loop : ∀ (f i : Nat), own_W L_c1 f i = true → own_fn L_c1 f i = own_fn L_c1 6 p2.toNatClampNeg → ∀ (Tq : State) (Lq : List Loc), Stand p l e ({ frames := 0, cells := 0, slots := 0, locals := 0 } : Room) s m #[(.ref a1), (.int p2)] below meth c Tq Lq 0 0 → Tq.heap = h0 → Fr n0 Lq → (∀ t, Steps p.tables e below (Tq.setTop (mkF m 2 #[.val (.ref a1), .val (.int p2), .val (.int (Int32.ofNat i))] [])) t → Steps p.tables e below (s₁.setTop (entryFrame m #[(.ref a1), (.int p2)] 3)) t) → False := by
    intro f
    induction f with
    | zero => intro i hW; exact absurd hW Bool.false_ne_true
    | succ f ih =>
      intro i hW hR Tq Lq Xq eq Nq preq
      have hi : i ≤ 5 := own_W5 hW
      obtain ⟨T2, X2, e2, st2⟩ := getF Xq hx hZ hown (host := "") (Or.inl (hw _ (List.mem_of_getElem? (i := 15) rfl))) Via.refl eq F_size_a1 (g := (mkF m 4 #[.val (.ref a1), .val (.int p2), .val (.int (Int32.ofNat i))] [(.ref a1), (.int (Int32.ofNat i))])) rfl rfl (hb hby d5_4)
      have pre3 : ∀ t, Steps p.tables e below (T2.setTop (mkF m 7 #[.val (.ref a1), .val (.int p2), .val (.int (Int32.ofNat i))] [(.int (5 : Int32)), (.int (Int32.ofNat i))])) t → Steps p.tables e below (s₁.setTop (entryFrame m #[(.ref a1), (.int p2)] 3)) t := fun t kt => by
        refine preq t ?_
        show Steps p.tables e below (Tq.setTop (mkF m 2 #[.val (.ref a1), .val (.int p2), .val (.int (Int32.ofNat i))] [])) _
        refine XS.iloadN Xq.here hx rfl (hb hby d5_2) rfl ?_
        show Steps p.tables e below (Tq.setTop (mkF m 3 #[.val (.ref a1), .val (.int p2), .val (.int (Int32.ofNat i))] [(.int (Int32.ofNat i))])) _
        refine XS.aloadN Xq.here hx rfl (hb hby d5_3) rfl rfl ?_
        show Steps p.tables e below (Tq.setTop (mkF m 4 #[.val (.ref a1), .val (.int p2), .val (.int (Int32.ofNat i))] [(.ref a1), (.int (Int32.ofNat i))])) _
        refine st2 _ ?_
        exact kt
      by_cases hc4 : (Int32.ofNat i) < (5 : Int32)
      · obtain ⟨T5, X5, e5, st5⟩ := getF X2 hx hZ hown (host := "") (Or.inl (hw _ (List.mem_of_getElem? (i := 29) rfl))) Via.refl e2 F_cellEnd_a1 (g := (mkF m 11 #[.val (.ref a1), .val (.int p2), .val (.int (Int32.ofNat i))] [(.ref a1)])) rfl rfl (hb hby d5_11)
        obtain ⟨cl6, Ar6, aq6, S6, M6, H6, G6⟩ := id V_c1
        have hin6 : ¬ ((Int32.ofNat i) < 0 ∨ cl6.slots.size ≤ ((Int32.ofNat i)).toNatClampNeg) := inb_of S6 (side_5_15_6 p2 L_c1 hl_c1 hp i hi hc4)
        have hat6 : cl6.slots[((Int32.ofNat i)).toNatClampNeg]? = some (.int (own_at L_c1 (Int32.ofNat i))) := Has.at H6 hin6 (own_getD L_c1 ((Int32.ofNat i)).toNatClampNeg)
        have pre7 : ∀ t, Steps p.tables e below (T5.setTop (mkF m 19 #[.val (.ref a1), .val (.int p2), .val (.int (Int32.ofNat i))] [(.int (1 : Int32)), (.int ((own_at L_c1 (Int32.ofNat i)) - (Int32.ofNat i)))])) t → Steps p.tables e below (s₁.setTop (entryFrame m #[(.ref a1), (.int p2)] 3)) t := fun t kt => by
          refine pre3 t ?_
          show Steps p.tables e below (T2.setTop (mkF m 7 #[.val (.ref a1), .val (.int p2), .val (.int (Int32.ofNat i))] [(.int (5 : Int32)), (.int (Int32.ofNat i))])) _
          refine XS.icmpNo X2.here hx rfl (hb hby d5_7) rfl (tlt hc4).2.1 ?_
          show Steps p.tables e below (T2.setTop (mkF m 10 #[.val (.ref a1), .val (.int p2), .val (.int (Int32.ofNat i))] [])) _
          refine XS.aloadN X2.here hx rfl (hb hby d5_10) rfl rfl ?_
          show Steps p.tables e below (T2.setTop (mkF m 11 #[.val (.ref a1), .val (.int p2), .val (.int (Int32.ofNat i))] [(.ref a1)])) _
          refine st5 _ ?_
          show Steps p.tables e below (T5.setTop (mkF m 14 #[.val (.ref a1), .val (.int p2), .val (.int (Int32.ofNat i))] [(.ref c1)])) _
          refine XS.iloadN X5.here hx rfl (hb hby d5_14) rfl ?_
          show Steps p.tables e below (T5.setTop (mkF m 15 #[.val (.ref a1), .val (.int p2), .val (.int (Int32.ofNat i))] [(.int (Int32.ofNat i)), (.ref c1)])) _
          refine X5.iaload hx (j := (Int32.ofNat i)) (v := (.int (own_at L_c1 (Int32.ofNat i)))) (by rw [e5]; exact Ar6.1) (State.isArrayOf_alike hZ.alike Ar6.2.1) Ar6.2.2 hin6 hat6 (g := (mkF m 15 #[.val (.ref a1), .val (.int p2), .val (.int (Int32.ofNat i))] [(.int (Int32.ofNat i)), (.ref c1)])) rfl rfl (hb hby d5_15) _ ?_
          show Steps p.tables e below (T5.setTop (mkF m 16 #[.val (.ref a1), .val (.int p2), .val (.int (Int32.ofNat i))] [(.int (own_at L_c1 (Int32.ofNat i)))])) _
          refine XS.iloadN X5.here hx rfl (hb hby d5_16) rfl ?_
          show Steps p.tables e below (T5.setTop (mkF m 17 #[.val (.ref a1), .val (.int p2), .val (.int (Int32.ofNat i))] [(.int (Int32.ofNat i)), (.int (own_at L_c1 (Int32.ofNat i)))])) _
          refine XS.isub X5.here hx rfl (hb hby d5_17) rfl ?_
          show Steps p.tables e below (T5.setTop (mkF m 18 #[.val (.ref a1), .val (.int p2), .val (.int (Int32.ofNat i))] [(.int ((own_at L_c1 (Int32.ofNat i)) - (Int32.ofNat i)))])) _
          refine XS.iconst X5.here hx rfl (hb hby d5_18) ?_
          exact kt
        by_cases hc8 : (1 : Int32) < ((own_at L_c1 (Int32.ofNat i)) - (Int32.ofNat i))
        · refine hG ?_
          obtain ⟨fs, hr, hrun, hended, hW, hsame⟩ := X5.leave (v := some (.int (Int32.ofNat i))) (fun h => by rw [Bd.returns] at h; cases h)
          refine ⟨_, _, pre7 _ ?_, hrun, hended, _, _, rfl, ?_, ⟨_, rfl⟩, hW, hsame.mono (by decide) (by decide)⟩
          · show Steps p.tables e below (T5.setTop (mkF m 19 #[.val (.ref a1), .val (.int p2), .val (.int (Int32.ofNat i))] [(.int (1 : Int32)), (.int ((own_at L_c1 (Int32.ofNat i)) - (Int32.ofNat i)))])) _
            refine XS.icmpNo X5.here hx rfl (hb hby d5_19) rfl (tlt hc8).2.2.2 ?_
            show Steps p.tables e below (T5.setTop (mkF m 22 #[.val (.ref a1), .val (.int p2), .val (.int (Int32.ofNat i))] [])) _
            refine XS.iloadN X5.here hx rfl (hb hby d5_22) rfl ?_
            show Steps p.tables e below (T5.setTop (mkF m 23 #[.val (.ref a1), .val (.int p2), .val (.int (Int32.ofNat i))] [(.int (Int32.ofNat i))])) _
            exact retI X5 hx Bd.returns (hb hby d5_23) hr
          · show Q5 Z a1 p2 c1 k_c1 L_c1 h0 n0 _ T5.heap _
            rw [e5]
            refine ⟨?_, Nq, rfl⟩
            rw [← hR, own_fn, if_pos ((own_lt5 i (own_t hi)).mp hc4), if_pos hc8]
        · obtain ⟨T9, X9, e9, st9⟩ := getF X5 hx hZ hown (host := "") (Or.inl (hw _ (List.mem_of_getElem? (i := 29) rfl))) Via.refl e5 F_cellEnd_a1 (g := (mkF m 25 #[.val (.ref a1), .val (.int p2), .val (.int (Int32.ofNat i))] [(.ref a1)])) rfl rfl (hb hby d5_25)
          obtain ⟨cl10, Ar10, aq10, S10, M10, H10, G10⟩ := id V_c1
          have hin10 : ¬ ((Int32.ofNat i) < 0 ∨ cl10.slots.size ≤ ((Int32.ofNat i)).toNatClampNeg) := inb_of S10 (side_5_29_10 p2 L_c1 hl_c1 hp i hi hc4 hc8)
          have hat10 : cl10.slots[((Int32.ofNat i)).toNatClampNeg]? = some (.int (own_at L_c1 (Int32.ofNat i))) := Has.at H10 hin10 (own_getD L_c1 ((Int32.ofNat i)).toNatClampNeg)
          have pre11 : ∀ t, Steps p.tables e below (T9.setTop (mkF m 2 #[.val (.ref a1), .val (.int p2), .val (.int (own_at L_c1 (Int32.ofNat i)))] [])) t → Steps p.tables e below (s₁.setTop (entryFrame m #[(.ref a1), (.int p2)] 3)) t := fun t kt => by
            refine pre7 t ?_
            show Steps p.tables e below (T5.setTop (mkF m 19 #[.val (.ref a1), .val (.int p2), .val (.int (Int32.ofNat i))] [(.int (1 : Int32)), (.int ((own_at L_c1 (Int32.ofNat i)) - (Int32.ofNat i)))])) _
            refine XS.icmpYes X5.here hx rfl (pc0 := 19) (pc' := 24) rfl (hb hby d5_19) rfl (flt hc8).2.2.2 (by decide) (by decide) ?_
            show Steps p.tables e below (T5.setTop (mkF m 24 #[.val (.ref a1), .val (.int p2), .val (.int (Int32.ofNat i))] [])) _
            refine XS.aloadN X5.here hx rfl (hb hby d5_24) rfl rfl ?_
            show Steps p.tables e below (T5.setTop (mkF m 25 #[.val (.ref a1), .val (.int p2), .val (.int (Int32.ofNat i))] [(.ref a1)])) _
            refine st9 _ ?_
            show Steps p.tables e below (T9.setTop (mkF m 28 #[.val (.ref a1), .val (.int p2), .val (.int (Int32.ofNat i))] [(.ref c1)])) _
            refine XS.iloadN X9.here hx rfl (hb hby d5_28) rfl ?_
            show Steps p.tables e below (T9.setTop (mkF m 29 #[.val (.ref a1), .val (.int p2), .val (.int (Int32.ofNat i))] [(.int (Int32.ofNat i)), (.ref c1)])) _
            refine X9.iaload hx (j := (Int32.ofNat i)) (v := (.int (own_at L_c1 (Int32.ofNat i)))) (by rw [e9]; exact Ar10.1) (State.isArrayOf_alike hZ.alike Ar10.2.1) Ar10.2.2 hin10 hat10 (g := (mkF m 29 #[.val (.ref a1), .val (.int p2), .val (.int (Int32.ofNat i))] [(.int (Int32.ofNat i)), (.ref c1)])) rfl rfl (hb hby d5_29) _ ?_
            show Steps p.tables e below (T9.setTop (mkF m 30 #[.val (.ref a1), .val (.int p2), .val (.int (Int32.ofNat i))] [(.int (own_at L_c1 (Int32.ofNat i)))])) _
            refine XS.istoreN X9.here hx rfl (hb hby d5_30) rfl (l' := #[.val (.ref a1), .val (.int p2), .val (.int (own_at L_c1 (Int32.ofNat i)))]) rfl ?_
            show Steps p.tables e below (T9.setTop (mkF m 31 #[.val (.ref a1), .val (.int p2), .val (.int (own_at L_c1 (Int32.ofNat i)))] [])) _
            refine XS.goto X9.here hx rfl (pc0 := 31) (pc' := 2) rfl (hb hby d5_31) (by decide) (by decide) ?_
            exact kt
          have h5 : i < 5 := (own_lt5 i (own_t hi)).mp hc4
          have w := own_Ws hW h5
          have z := pre11
          rw [w.1] at z
          exact ih _ w.2 (by rw [← hR, own_fn, if_pos h5, if_neg hc8]) _ _ X9 e9 Nq z
      · refine hG ?_
        obtain ⟨fs, hr, hrun, hended, hW, hsame⟩ := X2.leave (v := some (.int (-1 : Int32))) (fun h => by rw [Bd.returns] at h; cases h)
        refine ⟨_, _, pre3 _ ?_, hrun, hended, _, _, rfl, ?_, ⟨_, rfl⟩, hW, hsame.mono (by decide) (by decide)⟩
        · show Steps p.tables e below (T2.setTop (mkF m 7 #[.val (.ref a1), .val (.int p2), .val (.int (Int32.ofNat i))] [(.int (5 : Int32)), (.int (Int32.ofNat i))])) _
          refine XS.icmpYes X2.here hx rfl (pc0 := 7) (pc' := 34) rfl (hb hby d5_7) rfl (flt hc4).2.1 (by decide) (by decide) ?_
          show Steps p.tables e below (T2.setTop (mkF m 34 #[.val (.ref a1), .val (.int p2), .val (.int (Int32.ofNat i))] [])) _
          refine XS.iconst X2.here hx rfl (hb hby d5_34) ?_
          show Steps p.tables e below (T2.setTop (mkF m 35 #[.val (.ref a1), .val (.int p2), .val (.int (Int32.ofNat i))] [(.int (-1 : Int32))])) _
          exact retI X2 hx Bd.returns (hb hby d5_35) hr
        · show Q5 Z a1 p2 c1 k_c1 L_c1 h0 n0 _ T2.heap _
          rw [e2]
          refine ⟨?_, Nq, rfl⟩
          rw [← hR, own_fn, if_neg (fun q => hc4 ((own_lt5 i (own_t hi)).mpr q))]
  have z := pre1
  rw [show #[.val (.ref a1), .val (.int p2), .val (.int p2)] = #[Slot.val (.ref a1), .val (.int p2), .val (.int (Int32.ofNat p2.toNatClampNeg))] by rw [← hp.1]] at z
  exact loop 6 p2.toNatClampNeg hp.2 rfl _ _ X0 e0 N0 z
theorem d2_0 : decode prog_36_method_1_code 0 = .ok (.aload_n 0, 1) := by decide +kernel
theorem d2_1 : decode prog_36_method_1_code 1 = .ok (.invokespecial 1, 3) := by decide +kernel
theorem d2_4 : decode prog_36_method_1_code 4 = .ok (.aload_n 0, 1) := by decide +kernel
theorem d2_5 : decode prog_36_method_1_code 5 = .ok (.aload_n 1, 1) := by decide +kernel
theorem d2_6 : decode prog_36_method_1_code 6 = .ok (.arraylength, 1) := by decide +kernel
theorem d2_7 : decode prog_36_method_1_code 7 = .ok (.putfield 7, 3) := by decide +kernel
theorem d2_10 : decode prog_36_method_1_code 10 = .ok (.aload_n 0, 1) := by decide +kernel
theorem d2_11 : decode prog_36_method_1_code 11 = .ok (.aload_n 2, 1) := by decide +kernel
theorem d2_12 : decode prog_36_method_1_code 12 = .ok (.putfield 13, 3) := by decide +kernel
theorem d2_15 : decode prog_36_method_1_code 15 = .ok (.aload_n 0, 1) := by decide +kernel
theorem d2_16 : decode prog_36_method_1_code 16 = .ok (.aload_n 3, 1) := by decide +kernel
theorem d2_17 : decode prog_36_method_1_code 17 = .ok (.putfield 17, 3) := by decide +kernel
theorem d2_20 : decode prog_36_method_1_code 20 = .ok (.aload_n 0, 1) := by decide +kernel
theorem d2_21 : decode prog_36_method_1_code 21 = .ok (.aload 4, 2) := by decide +kernel
theorem d2_23 : decode prog_36_method_1_code 23 = .ok (.putfield 20, 3) := by decide +kernel
theorem d2_26 : decode prog_36_method_1_code 26 = .ok (.aload_n 0, 1) := by decide +kernel
theorem d2_27 : decode prog_36_method_1_code 27 = .ok (.aload_n 0, 1) := by decide +kernel
theorem d2_28 : decode prog_36_method_1_code 28 = .ok (.getfield 7, 3) := by decide +kernel
theorem d2_31 : decode prog_36_method_1_code 31 = .ok (.newarray .int, 2) := by decide +kernel
theorem d2_33 : decode prog_36_method_1_code 33 = .ok (.putfield 23, 3) := by decide +kernel
theorem d2_36 : decode prog_36_method_1_code 36 = .ok (.aload_n 0, 1) := by decide +kernel
theorem d2_37 : decode prog_36_method_1_code 37 = .ok (.aload_n 0, 1) := by decide +kernel
theorem d2_38 : decode prog_36_method_1_code 38 = .ok (.getfield 7, 3) := by decide +kernel
theorem d2_41 : decode prog_36_method_1_code 41 = .ok (.newarray .int, 2) := by decide +kernel
theorem d2_43 : decode prog_36_method_1_code 43 = .ok (.putfield 26, 3) := by decide +kernel
theorem d2_46 : decode prog_36_method_1_code 46 = .ok (.aload_n 0, 1) := by decide +kernel
theorem d2_47 : decode prog_36_method_1_code 47 = .ok (.aload_n 0, 1) := by decide +kernel
theorem d2_48 : decode prog_36_method_1_code 48 = .ok (.getfield 7, 3) := by decide +kernel
theorem d2_51 : decode prog_36_method_1_code 51 = .ok (.newarray .int, 2) := by decide +kernel
theorem d2_53 : decode prog_36_method_1_code 53 = .ok (.putfield 29, 3) := by decide +kernel
theorem d2_56 : decode prog_36_method_1_code 56 = .ok (.aload_n 0, 1) := by decide +kernel
theorem d2_57 : decode prog_36_method_1_code 57 = .ok (.aload_n 0, 1) := by decide +kernel
theorem d2_58 : decode prog_36_method_1_code 58 = .ok (.getfield 7, 3) := by decide +kernel
theorem d2_61 : decode prog_36_method_1_code 61 = .ok (.newarray .int, 2) := by decide +kernel
theorem d2_63 : decode prog_36_method_1_code 63 = .ok (.putfield 32, 3) := by decide +kernel
theorem d2_66 : decode prog_36_method_1_code 66 = .ok (.aload_n 0, 1) := by decide +kernel
theorem d2_67 : decode prog_36_method_1_code 67 = .ok (.aload_n 0, 1) := by decide +kernel
theorem d2_68 : decode prog_36_method_1_code 68 = .ok (.getfield 7, 3) := by decide +kernel
theorem d2_71 : decode prog_36_method_1_code 71 = .ok (.newarray .int, 2) := by decide +kernel
theorem d2_73 : decode prog_36_method_1_code 73 = .ok (.putfield 35, 3) := by decide +kernel
theorem d2_76 : decode prog_36_method_1_code 76 = .ok (.aload_n 0, 1) := by decide +kernel
theorem d2_77 : decode prog_36_method_1_code 77 = .ok (.aload_n 0, 1) := by decide +kernel
theorem d2_78 : decode prog_36_method_1_code 78 = .ok (.getfield 7, 3) := by decide +kernel
theorem d2_81 : decode prog_36_method_1_code 81 = .ok (.newarray .boolean, 2) := by decide +kernel
theorem d2_83 : decode prog_36_method_1_code 83 = .ok (.putfield 38, 3) := by decide +kernel
theorem d2_86 : decode prog_36_method_1_code 86 = .ok (.aload_n 0, 1) := by decide +kernel
theorem d2_87 : decode prog_36_method_1_code 87 = .ok (.aload_n 0, 1) := by decide +kernel
theorem d2_88 : decode prog_36_method_1_code 88 = .ok (.getfield 7, 3) := by decide +kernel
theorem d2_91 : decode prog_36_method_1_code 91 = .ok (.newarray .int, 2) := by decide +kernel
theorem d2_93 : decode prog_36_method_1_code 93 = .ok (.putfield 42, 3) := by decide +kernel
theorem d2_96 : decode prog_36_method_1_code 96 = .ok (.aload_n 0, 1) := by decide +kernel
theorem d2_97 : decode prog_36_method_1_code 97 = .ok (.aload_n 0, 1) := by decide +kernel
theorem d2_98 : decode prog_36_method_1_code 98 = .ok (.getfield 7, 3) := by decide +kernel
theorem d2_101 : decode prog_36_method_1_code 101 = .ok (.newarray .int, 2) := by decide +kernel
theorem d2_103 : decode prog_36_method_1_code 103 = .ok (.putfield 45, 3) := by decide +kernel
theorem d2_106 : decode prog_36_method_1_code 106 = .ok (.aload_n 0, 1) := by decide +kernel
theorem d2_107 : decode prog_36_method_1_code 107 = .ok (.aload_n 0, 1) := by decide +kernel
theorem d2_108 : decode prog_36_method_1_code 108 = .ok (.getfield 7, 3) := by decide +kernel
theorem d2_111 : decode prog_36_method_1_code 111 = .ok (.newarray .int, 2) := by decide +kernel
theorem d2_113 : decode prog_36_method_1_code 113 = .ok (.putfield 48, 3) := by decide +kernel
theorem d2_116 : decode prog_36_method_1_code 116 = .ok (.aload_n 0, 1) := by decide +kernel
theorem d2_117 : decode prog_36_method_1_code 117 = .ok (.aload_n 3, 1) := by decide +kernel
theorem d2_118 : decode prog_36_method_1_code 118 = .ok (.arraylength, 1) := by decide +kernel
theorem d2_119 : decode prog_36_method_1_code 119 = .ok (.newarray .int, 2) := by decide +kernel
theorem d2_121 : decode prog_36_method_1_code 121 = .ok (.putfield 51, 3) := by decide +kernel
theorem d2_124 : decode prog_36_method_1_code 124 = .ok (.aload_n 0, 1) := by decide +kernel
theorem d2_125 : decode prog_36_method_1_code 125 = .ok (.aload_n 0, 1) := by decide +kernel
theorem d2_126 : decode prog_36_method_1_code 126 = .ok (.getfield 7, 3) := by decide +kernel
theorem d2_129 : decode prog_36_method_1_code 129 = .ok (.newarray .int, 2) := by decide +kernel
theorem d2_131 : decode prog_36_method_1_code 131 = .ok (.putfield 54, 3) := by decide +kernel
theorem d2_134 : decode prog_36_method_1_code 134 = .ok (.aload_n 0, 1) := by decide +kernel
theorem d2_135 : decode prog_36_method_1_code 135 = .ok (.aload_n 0, 1) := by decide +kernel
theorem d2_136 : decode prog_36_method_1_code 136 = .ok (.getfield 7, 3) := by decide +kernel
theorem d2_139 : decode prog_36_method_1_code 139 = .ok (.newarray .int, 2) := by decide +kernel
theorem d2_141 : decode prog_36_method_1_code 141 = .ok (.putfield 57, 3) := by decide +kernel
theorem d2_144 : decode prog_36_method_1_code 144 = .ok (.aload_n 0, 1) := by decide +kernel
theorem d2_145 : decode prog_36_method_1_code 145 = .ok (.aload_n 0, 1) := by decide +kernel
theorem d2_146 : decode prog_36_method_1_code 146 = .ok (.getfield 7, 3) := by decide +kernel
theorem d2_149 : decode prog_36_method_1_code 149 = .ok (.newarray .int, 2) := by decide +kernel
theorem d2_151 : decode prog_36_method_1_code 151 = .ok (.putfield 60, 3) := by decide +kernel
theorem d2_154 : decode prog_36_method_1_code 154 = .ok (.aload_n 0, 1) := by decide +kernel
theorem d2_155 : decode prog_36_method_1_code 155 = .ok (.aload_n 0, 1) := by decide +kernel
theorem d2_156 : decode prog_36_method_1_code 156 = .ok (.getfield 7, 3) := by decide +kernel
theorem d2_159 : decode prog_36_method_1_code 159 = .ok (.newarray .int, 2) := by decide +kernel
theorem d2_161 : decode prog_36_method_1_code 161 = .ok (.putfield 63, 3) := by decide +kernel
theorem d2_164 : decode prog_36_method_1_code 164 = .ok (.aload_n 0, 1) := by decide +kernel
theorem d2_165 : decode prog_36_method_1_code 165 = .ok (.aload_n 0, 1) := by decide +kernel
theorem d2_166 : decode prog_36_method_1_code 166 = .ok (.getfield 7, 3) := by decide +kernel
theorem d2_169 : decode prog_36_method_1_code 169 = .ok (.newarray .int, 2) := by decide +kernel
theorem d2_171 : decode prog_36_method_1_code 171 = .ok (.putfield 66, 3) := by decide +kernel
theorem d2_174 : decode prog_36_method_1_code 174 = .ok (.aload_n 0, 1) := by decide +kernel
theorem d2_175 : decode prog_36_method_1_code 175 = .ok (.aload_n 0, 1) := by decide +kernel
theorem d2_176 : decode prog_36_method_1_code 176 = .ok (.getfield 7, 3) := by decide +kernel
theorem d2_179 : decode prog_36_method_1_code 179 = .ok (.newarray .int, 2) := by decide +kernel
theorem d2_181 : decode prog_36_method_1_code 181 = .ok (.putfield 69, 3) := by decide +kernel
theorem d2_184 : decode prog_36_method_1_code 184 = .ok (.aload_n 0, 1) := by decide +kernel
theorem d2_185 : decode prog_36_method_1_code 185 = .ok (.aload_n 0, 1) := by decide +kernel
theorem d2_186 : decode prog_36_method_1_code 186 = .ok (.getfield 7, 3) := by decide +kernel
theorem d2_189 : decode prog_36_method_1_code 189 = .ok (.newarray .int, 2) := by decide +kernel
theorem d2_191 : decode prog_36_method_1_code 191 = .ok (.putfield 72, 3) := by decide +kernel
theorem d2_194 : decode prog_36_method_1_code 194 = .ok (.aload_n 0, 1) := by decide +kernel
theorem d2_195 : decode prog_36_method_1_code 195 = .ok (.getfield 7, 3) := by decide +kernel
theorem d2_198 : decode prog_36_method_1_code 198 = .ok (.iconst 1, 1) := by decide +kernel
theorem d2_199 : decode prog_36_method_1_code 199 = .ok (.iadd, 1) := by decide +kernel
theorem d2_200 : decode prog_36_method_1_code 200 = .ok (.newarray .int, 2) := by decide +kernel
theorem d2_202 : decode prog_36_method_1_code 202 = .ok (.astore 5, 2) := by decide +kernel
theorem d2_204 : decode prog_36_method_1_code 204 = .ok (.aload_n 1, 1) := by decide +kernel
theorem d2_205 : decode prog_36_method_1_code 205 = .ok (.astore 6, 2) := by decide +kernel
theorem d2_207 : decode prog_36_method_1_code 207 = .ok (.aload 6, 2) := by decide +kernel
theorem d2_209 : decode prog_36_method_1_code 209 = .ok (.arraylength, 1) := by decide +kernel
theorem d2_210 : decode prog_36_method_1_code 210 = .ok (.istore 7, 2) := by decide +kernel
theorem d2_212 : decode prog_36_method_1_code 212 = .ok (.iconst 0, 1) := by decide +kernel
theorem d2_213 : decode prog_36_method_1_code 213 = .ok (.istore 8, 2) := by decide +kernel
theorem d2_215 : decode prog_36_method_1_code 215 = .ok (.iload 8, 2) := by decide +kernel
theorem d2_217 : decode prog_36_method_1_code 217 = .ok (.iload 7, 2) := by decide +kernel
theorem d2_219 : decode prog_36_method_1_code 219 = .ok (.if_icmp .ge 27, 3) := by decide +kernel
theorem d2_222 : decode prog_36_method_1_code 222 = .ok (.aload 6, 2) := by decide +kernel
theorem d2_224 : decode prog_36_method_1_code 224 = .ok (.iload 8, 2) := by decide +kernel
theorem d2_226 : decode prog_36_method_1_code 226 = .ok (.iaload, 1) := by decide +kernel
theorem d2_227 : decode prog_36_method_1_code 227 = .ok (.istore 9, 2) := by decide +kernel
theorem d2_229 : decode prog_36_method_1_code 229 = .ok (.aload 5, 2) := by decide +kernel
theorem d2_231 : decode prog_36_method_1_code 231 = .ok (.iload 9, 2) := by decide +kernel
theorem d2_233 : decode prog_36_method_1_code 233 = .ok (.iconst 1, 1) := by decide +kernel
theorem d2_234 : decode prog_36_method_1_code 234 = .ok (.iadd, 1) := by decide +kernel
theorem d2_235 : decode prog_36_method_1_code 235 = .ok (.dup2, 1) := by decide +kernel
theorem d2_236 : decode prog_36_method_1_code 236 = .ok (.iaload, 1) := by decide +kernel
theorem d2_237 : decode prog_36_method_1_code 237 = .ok (.iconst 1, 1) := by decide +kernel
theorem d2_238 : decode prog_36_method_1_code 238 = .ok (.iadd, 1) := by decide +kernel
theorem d2_239 : decode prog_36_method_1_code 239 = .ok (.iastore, 1) := by decide +kernel
theorem d2_240 : decode prog_36_method_1_code 240 = .ok (.iinc 8 1, 3) := by decide +kernel
theorem d2_243 : decode prog_36_method_1_code 243 = .ok (.goto (-28), 3) := by decide +kernel
theorem d2_246 : decode prog_36_method_1_code 246 = .ok (.iconst 0, 1) := by decide +kernel
theorem d2_247 : decode prog_36_method_1_code 247 = .ok (.istore 6, 2) := by decide +kernel
theorem d2_249 : decode prog_36_method_1_code 249 = .ok (.iload 6, 2) := by decide +kernel
theorem d2_251 : decode prog_36_method_1_code 251 = .ok (.aload_n 0, 1) := by decide +kernel
theorem d2_252 : decode prog_36_method_1_code 252 = .ok (.getfield 7, 3) := by decide +kernel
theorem d2_255 : decode prog_36_method_1_code 255 = .ok (.if_icmp .ge 24, 3) := by decide +kernel
theorem d2_258 : decode prog_36_method_1_code 258 = .ok (.aload 5, 2) := by decide +kernel
theorem d2_260 : decode prog_36_method_1_code 260 = .ok (.iload 6, 2) := by decide +kernel
theorem d2_262 : decode prog_36_method_1_code 262 = .ok (.iconst 1, 1) := by decide +kernel
theorem d2_263 : decode prog_36_method_1_code 263 = .ok (.iadd, 1) := by decide +kernel
theorem d2_264 : decode prog_36_method_1_code 264 = .ok (.dup2, 1) := by decide +kernel
theorem d2_265 : decode prog_36_method_1_code 265 = .ok (.iaload, 1) := by decide +kernel
theorem d2_266 : decode prog_36_method_1_code 266 = .ok (.aload 5, 2) := by decide +kernel
theorem d2_268 : decode prog_36_method_1_code 268 = .ok (.iload 6, 2) := by decide +kernel
theorem d2_270 : decode prog_36_method_1_code 270 = .ok (.iaload, 1) := by decide +kernel
theorem d2_271 : decode prog_36_method_1_code 271 = .ok (.iadd, 1) := by decide +kernel
theorem d2_272 : decode prog_36_method_1_code 272 = .ok (.iastore, 1) := by decide +kernel
theorem d2_273 : decode prog_36_method_1_code 273 = .ok (.iinc 6 1, 3) := by decide +kernel
theorem d2_276 : decode prog_36_method_1_code 276 = .ok (.goto (-27), 3) := by decide +kernel
theorem d2_279 : decode prog_36_method_1_code 279 = .ok (.iconst 0, 1) := by decide +kernel
theorem d2_280 : decode prog_36_method_1_code 280 = .ok (.istore 6, 2) := by decide +kernel
theorem d2_282 : decode prog_36_method_1_code 282 = .ok (.iload 6, 2) := by decide +kernel
theorem d2_284 : decode prog_36_method_1_code 284 = .ok (.aload_n 0, 1) := by decide +kernel
theorem d2_285 : decode prog_36_method_1_code 285 = .ok (.getfield 7, 3) := by decide +kernel
theorem d2_288 : decode prog_36_method_1_code 288 = .ok (.if_icmp .ge 41, 3) := by decide +kernel
theorem d2_291 : decode prog_36_method_1_code 291 = .ok (.aload 5, 2) := by decide +kernel
theorem d2_293 : decode prog_36_method_1_code 293 = .ok (.aload_n 1, 1) := by decide +kernel
theorem d2_294 : decode prog_36_method_1_code 294 = .ok (.iload 6, 2) := by decide +kernel
theorem d2_296 : decode prog_36_method_1_code 296 = .ok (.iaload, 1) := by decide +kernel
theorem d2_297 : decode prog_36_method_1_code 297 = .ok (.dup2, 1) := by decide +kernel
theorem d2_298 : decode prog_36_method_1_code 298 = .ok (.iaload, 1) := by decide +kernel
theorem d2_299 : decode prog_36_method_1_code 299 = .ok (.dup_x2, 1) := by decide +kernel
theorem d2_300 : decode prog_36_method_1_code 300 = .ok (.iconst 1, 1) := by decide +kernel
theorem d2_301 : decode prog_36_method_1_code 301 = .ok (.iadd, 1) := by decide +kernel
theorem d2_302 : decode prog_36_method_1_code 302 = .ok (.iastore, 1) := by decide +kernel
theorem d2_303 : decode prog_36_method_1_code 303 = .ok (.istore 7, 2) := by decide +kernel
theorem d2_305 : decode prog_36_method_1_code 305 = .ok (.aload_n 0, 1) := by decide +kernel
theorem d2_306 : decode prog_36_method_1_code 306 = .ok (.getfield 23, 3) := by decide +kernel
theorem d2_309 : decode prog_36_method_1_code 309 = .ok (.iload 7, 2) := by decide +kernel
theorem d2_311 : decode prog_36_method_1_code 311 = .ok (.iload 6, 2) := by decide +kernel
theorem d2_313 : decode prog_36_method_1_code 313 = .ok (.iastore, 1) := by decide +kernel
theorem d2_314 : decode prog_36_method_1_code 314 = .ok (.aload_n 0, 1) := by decide +kernel
theorem d2_315 : decode prog_36_method_1_code 315 = .ok (.getfield 26, 3) := by decide +kernel
theorem d2_318 : decode prog_36_method_1_code 318 = .ok (.iload 6, 2) := by decide +kernel
theorem d2_320 : decode prog_36_method_1_code 320 = .ok (.iload 7, 2) := by decide +kernel
theorem d2_322 : decode prog_36_method_1_code 322 = .ok (.iastore, 1) := by decide +kernel
theorem d2_323 : decode prog_36_method_1_code 323 = .ok (.iinc 6 1, 3) := by decide +kernel
theorem d2_326 : decode prog_36_method_1_code 326 = .ok (.goto (-44), 3) := by decide +kernel
theorem d2_329 : decode prog_36_method_1_code 329 = .ok (.iconst 0, 1) := by decide +kernel
theorem d2_330 : decode prog_36_method_1_code 330 = .ok (.istore 6, 2) := by decide +kernel
theorem d2_332 : decode prog_36_method_1_code 332 = .ok (.iload 6, 2) := by decide +kernel
theorem d2_334 : decode prog_36_method_1_code 334 = .ok (.aload_n 0, 1) := by decide +kernel
theorem d2_335 : decode prog_36_method_1_code 335 = .ok (.getfield 7, 3) := by decide +kernel
theorem d2_338 : decode prog_36_method_1_code 338 = .ok (.if_icmp .ge 113, 3) := by decide +kernel
theorem d2_341 : decode prog_36_method_1_code 341 = .ok (.iload 6, 2) := by decide +kernel
theorem d2_343 : decode prog_36_method_1_code 343 = .ok (.iconst 1, 1) := by decide +kernel
theorem d2_344 : decode prog_36_method_1_code 344 = .ok (.iadd, 1) := by decide +kernel
theorem d2_345 : decode prog_36_method_1_code 345 = .ok (.istore 7, 2) := by decide +kernel
theorem d2_347 : decode prog_36_method_1_code 347 = .ok (.iload 7, 2) := by decide +kernel
theorem d2_349 : decode prog_36_method_1_code 349 = .ok (.aload_n 0, 1) := by decide +kernel
theorem d2_350 : decode prog_36_method_1_code 350 = .ok (.getfield 7, 3) := by decide +kernel
theorem d2_353 : decode prog_36_method_1_code 353 = .ok (.if_icmp .ge 30, 3) := by decide +kernel
theorem d2_356 : decode prog_36_method_1_code 356 = .ok (.aload_n 1, 1) := by decide +kernel
theorem d2_357 : decode prog_36_method_1_code 357 = .ok (.aload_n 0, 1) := by decide +kernel
theorem d2_358 : decode prog_36_method_1_code 358 = .ok (.getfield 23, 3) := by decide +kernel
theorem d2_361 : decode prog_36_method_1_code 361 = .ok (.iload 7, 2) := by decide +kernel
theorem d2_363 : decode prog_36_method_1_code 363 = .ok (.iaload, 1) := by decide +kernel
theorem d2_364 : decode prog_36_method_1_code 364 = .ok (.iaload, 1) := by decide +kernel
theorem d2_365 : decode prog_36_method_1_code 365 = .ok (.aload_n 1, 1) := by decide +kernel
theorem d2_366 : decode prog_36_method_1_code 366 = .ok (.aload_n 0, 1) := by decide +kernel
theorem d2_367 : decode prog_36_method_1_code 367 = .ok (.getfield 23, 3) := by decide +kernel
theorem d2_370 : decode prog_36_method_1_code 370 = .ok (.iload 6, 2) := by decide +kernel
theorem d2_372 : decode prog_36_method_1_code 372 = .ok (.iaload, 1) := by decide +kernel
theorem d2_373 : decode prog_36_method_1_code 373 = .ok (.iaload, 1) := by decide +kernel
theorem d2_374 : decode prog_36_method_1_code 374 = .ok (.if_icmp .ne 9, 3) := by decide +kernel
theorem d2_377 : decode prog_36_method_1_code 377 = .ok (.iinc 7 1, 3) := by decide +kernel
theorem d2_380 : decode prog_36_method_1_code 380 = .ok (.goto (-33), 3) := by decide +kernel
theorem d2_383 : decode prog_36_method_1_code 383 = .ok (.aload_n 0, 1) := by decide +kernel
theorem d2_384 : decode prog_36_method_1_code 384 = .ok (.getfield 32, 3) := by decide +kernel
theorem d2_387 : decode prog_36_method_1_code 387 = .ok (.iload 6, 2) := by decide +kernel
theorem d2_389 : decode prog_36_method_1_code 389 = .ok (.iload 7, 2) := by decide +kernel
theorem d2_391 : decode prog_36_method_1_code 391 = .ok (.iastore, 1) := by decide +kernel
theorem d2_392 : decode prog_36_method_1_code 392 = .ok (.iload 6, 2) := by decide +kernel
theorem d2_394 : decode prog_36_method_1_code 394 = .ok (.istore 8, 2) := by decide +kernel
theorem d2_396 : decode prog_36_method_1_code 396 = .ok (.iload 8, 2) := by decide +kernel
theorem d2_398 : decode prog_36_method_1_code 398 = .ok (.iload 7, 2) := by decide +kernel
theorem d2_400 : decode prog_36_method_1_code 400 = .ok (.if_icmp .ge 23, 3) := by decide +kernel
theorem d2_403 : decode prog_36_method_1_code 403 = .ok (.aload_n 0, 1) := by decide +kernel
theorem d2_404 : decode prog_36_method_1_code 404 = .ok (.getfield 29, 3) := by decide +kernel
theorem d2_407 : decode prog_36_method_1_code 407 = .ok (.aload_n 0, 1) := by decide +kernel
theorem d2_408 : decode prog_36_method_1_code 408 = .ok (.getfield 23, 3) := by decide +kernel
theorem d2_411 : decode prog_36_method_1_code 411 = .ok (.iload 8, 2) := by decide +kernel
theorem d2_413 : decode prog_36_method_1_code 413 = .ok (.iaload, 1) := by decide +kernel
theorem d2_414 : decode prog_36_method_1_code 414 = .ok (.iload 6, 2) := by decide +kernel
theorem d2_416 : decode prog_36_method_1_code 416 = .ok (.iastore, 1) := by decide +kernel
theorem d2_417 : decode prog_36_method_1_code 417 = .ok (.iinc 8 1, 3) := by decide +kernel
theorem d2_420 : decode prog_36_method_1_code 420 = .ok (.goto (-24), 3) := by decide +kernel
theorem d2_423 : decode prog_36_method_1_code 423 = .ok (.aload_n 0, 1) := by decide +kernel
theorem d2_424 : decode prog_36_method_1_code 424 = .ok (.dup, 1) := by decide +kernel
theorem d2_425 : decode prog_36_method_1_code 425 = .ok (.getfield 75, 3) := by decide +kernel
theorem d2_428 : decode prog_36_method_1_code 428 = .ok (.iconst 1, 1) := by decide +kernel
theorem d2_429 : decode prog_36_method_1_code 429 = .ok (.iadd, 1) := by decide +kernel
theorem d2_430 : decode prog_36_method_1_code 430 = .ok (.putfield 75, 3) := by decide +kernel
theorem d2_433 : decode prog_36_method_1_code 433 = .ok (.aload_n 0, 1) := by decide +kernel
theorem d2_434 : decode prog_36_method_1_code 434 = .ok (.iload 6, 2) := by decide +kernel
theorem d2_436 : decode prog_36_method_1_code 436 = .ok (.invokevirtual 78, 3) := by decide +kernel
theorem d2_439 : decode prog_36_method_1_code 439 = .ok (.aload_n 0, 1) := by decide +kernel
theorem d2_440 : decode prog_36_method_1_code 440 = .ok (.getfield 32, 3) := by decide +kernel
theorem d2_443 : decode prog_36_method_1_code 443 = .ok (.iload 6, 2) := by decide +kernel
theorem d2_445 : decode prog_36_method_1_code 445 = .ok (.iaload, 1) := by decide +kernel
theorem d2_446 : decode prog_36_method_1_code 446 = .ok (.istore 6, 2) := by decide +kernel
theorem d2_448 : decode prog_36_method_1_code 448 = .ok (.goto (-116), 3) := by decide +kernel
theorem d2_451 : decode prog_36_method_1_code 451 = .ok (.return_, 1) := by decide +kernel
theorem pn_2 : plainName "com/example/tercet/tercet/Partition" = true := by first | (simp [plainName, overriddenIn]; done) | decide +kernel
theorem pd_2_3 : parseMethodDescriptor "(I)V" = some ⟨[.int], none⟩ := by decide +kernel
theorem ef_2 (m : MethodId) (a1 : Addr) (a2 : Addr) (a3 : Addr) (a4 : Addr) (a5 : Addr) : entryFrame m #[(.ref a1), (.ref a2), (.ref a3), (.ref a4), (.ref a5)] 10 = mkF m 0 #[.val (.ref a1), .val (.ref a2), .val (.ref a3), .val (.ref a4), .val (.ref a5), .unset, .unset, .unset, .unset, .unset] [] := by first | (simp [entryFrame, mkF, argsToLocals, Value.category]; done) | rfl
def own_tab_2_236 : List Int32 := [(0 : Int32), (0 : Int32), (0 : Int32), (0 : Int32), (0 : Int32), (0 : Int32)]
def own_L2_0 (e_a2_0 : Int32) (e_a2_1 : Int32) (e_a2_2 : Int32) (e_a2_3 : Int32) (e_a2_4 : Int32) : List Int32 := ([(0 : Int32), (0 : Int32), (0 : Int32), (0 : Int32), (0 : Int32), (0 : Int32)] : List Int32).set ((e_a2_0 + (1 : Int32))).toNatClampNeg ((own_at own_tab_2_236 (e_a2_0 + (1 : Int32))) + (1 : Int32))
def own_L2_1 (e_a2_0 : Int32) (e_a2_1 : Int32) (e_a2_2 : Int32) (e_a2_3 : Int32) (e_a2_4 : Int32) : List Int32 := (own_L2_0 e_a2_0 e_a2_1 e_a2_2 e_a2_3 e_a2_4).set ((e_a2_1 + (1 : Int32))).toNatClampNeg ((own_at (own_L2_0 e_a2_0 e_a2_1 e_a2_2 e_a2_3 e_a2_4) (e_a2_1 + (1 : Int32))) + (1 : Int32))
def own_L2_2 (e_a2_0 : Int32) (e_a2_1 : Int32) (e_a2_2 : Int32) (e_a2_3 : Int32) (e_a2_4 : Int32) : List Int32 := (own_L2_1 e_a2_0 e_a2_1 e_a2_2 e_a2_3 e_a2_4).set ((e_a2_2 + (1 : Int32))).toNatClampNeg ((own_at (own_L2_1 e_a2_0 e_a2_1 e_a2_2 e_a2_3 e_a2_4) (e_a2_2 + (1 : Int32))) + (1 : Int32))
def own_L2_3 (e_a2_0 : Int32) (e_a2_1 : Int32) (e_a2_2 : Int32) (e_a2_3 : Int32) (e_a2_4 : Int32) : List Int32 := (own_L2_2 e_a2_0 e_a2_1 e_a2_2 e_a2_3 e_a2_4).set ((e_a2_3 + (1 : Int32))).toNatClampNeg ((own_at (own_L2_2 e_a2_0 e_a2_1 e_a2_2 e_a2_3 e_a2_4) (e_a2_3 + (1 : Int32))) + (1 : Int32))
def own_L2_4 (e_a2_0 : Int32) (e_a2_1 : Int32) (e_a2_2 : Int32) (e_a2_3 : Int32) (e_a2_4 : Int32) : List Int32 := (own_L2_3 e_a2_0 e_a2_1 e_a2_2 e_a2_3 e_a2_4).set ((e_a2_4 + (1 : Int32))).toNatClampNeg ((own_at (own_L2_3 e_a2_0 e_a2_1 e_a2_2 e_a2_3 e_a2_4) (e_a2_4 + (1 : Int32))) + (1 : Int32))
def own_L2_5 (e_a2_0 : Int32) (e_a2_1 : Int32) (e_a2_2 : Int32) (e_a2_3 : Int32) (e_a2_4 : Int32) : List Int32 := (own_L2_4 e_a2_0 e_a2_1 e_a2_2 e_a2_3 e_a2_4).set ((1 : Int32)).toNatClampNeg ((own_at (own_L2_4 e_a2_0 e_a2_1 e_a2_2 e_a2_3 e_a2_4) (1 : Int32)) + (own_at (own_L2_4 e_a2_0 e_a2_1 e_a2_2 e_a2_3 e_a2_4) (0 : Int32)))
def own_L2_6 (e_a2_0 : Int32) (e_a2_1 : Int32) (e_a2_2 : Int32) (e_a2_3 : Int32) (e_a2_4 : Int32) : List Int32 := (own_L2_5 e_a2_0 e_a2_1 e_a2_2 e_a2_3 e_a2_4).set ((2 : Int32)).toNatClampNeg ((own_at (own_L2_5 e_a2_0 e_a2_1 e_a2_2 e_a2_3 e_a2_4) (2 : Int32)) + (own_at (own_L2_5 e_a2_0 e_a2_1 e_a2_2 e_a2_3 e_a2_4) (1 : Int32)))
def own_L2_7 (e_a2_0 : Int32) (e_a2_1 : Int32) (e_a2_2 : Int32) (e_a2_3 : Int32) (e_a2_4 : Int32) : List Int32 := (own_L2_6 e_a2_0 e_a2_1 e_a2_2 e_a2_3 e_a2_4).set ((3 : Int32)).toNatClampNeg ((own_at (own_L2_6 e_a2_0 e_a2_1 e_a2_2 e_a2_3 e_a2_4) (3 : Int32)) + (own_at (own_L2_6 e_a2_0 e_a2_1 e_a2_2 e_a2_3 e_a2_4) (2 : Int32)))
def own_L2_8 (e_a2_0 : Int32) (e_a2_1 : Int32) (e_a2_2 : Int32) (e_a2_3 : Int32) (e_a2_4 : Int32) : List Int32 := (own_L2_7 e_a2_0 e_a2_1 e_a2_2 e_a2_3 e_a2_4).set ((4 : Int32)).toNatClampNeg ((own_at (own_L2_7 e_a2_0 e_a2_1 e_a2_2 e_a2_3 e_a2_4) (4 : Int32)) + (own_at (own_L2_7 e_a2_0 e_a2_1 e_a2_2 e_a2_3 e_a2_4) (3 : Int32)))
def own_L2_9 (e_a2_0 : Int32) (e_a2_1 : Int32) (e_a2_2 : Int32) (e_a2_3 : Int32) (e_a2_4 : Int32) : List Int32 := (own_L2_8 e_a2_0 e_a2_1 e_a2_2 e_a2_3 e_a2_4).set ((5 : Int32)).toNatClampNeg ((own_at (own_L2_8 e_a2_0 e_a2_1 e_a2_2 e_a2_3 e_a2_4) (5 : Int32)) + (own_at (own_L2_8 e_a2_0 e_a2_1 e_a2_2 e_a2_3 e_a2_4) (4 : Int32)))
def own_L2_10 (e_a2_0 : Int32) (e_a2_1 : Int32) (e_a2_2 : Int32) (e_a2_3 : Int32) (e_a2_4 : Int32) : List Int32 := (own_L2_9 e_a2_0 e_a2_1 e_a2_2 e_a2_3 e_a2_4).set (e_a2_0).toNatClampNeg ((own_at (own_L2_9 e_a2_0 e_a2_1 e_a2_2 e_a2_3 e_a2_4) e_a2_0) + (1 : Int32))
def own_L2_11 (e_a2_0 : Int32) (e_a2_1 : Int32) (e_a2_2 : Int32) (e_a2_3 : Int32) (e_a2_4 : Int32) : List Int32 := ([(0 : Int32), (0 : Int32), (0 : Int32), (0 : Int32), (0 : Int32)] : List Int32).set ((own_at (own_L2_9 e_a2_0 e_a2_1 e_a2_2 e_a2_3 e_a2_4) e_a2_0)).toNatClampNeg (0 : Int32)
def own_L2_12 (e_a2_0 : Int32) (e_a2_1 : Int32) (e_a2_2 : Int32) (e_a2_3 : Int32) (e_a2_4 : Int32) : List Int32 := (own_L2_10 e_a2_0 e_a2_1 e_a2_2 e_a2_3 e_a2_4).set (e_a2_1).toNatClampNeg ((own_at (own_L2_10 e_a2_0 e_a2_1 e_a2_2 e_a2_3 e_a2_4) e_a2_1) + (1 : Int32))
def own_L2_13 (e_a2_0 : Int32) (e_a2_1 : Int32) (e_a2_2 : Int32) (e_a2_3 : Int32) (e_a2_4 : Int32) : List Int32 := (own_L2_11 e_a2_0 e_a2_1 e_a2_2 e_a2_3 e_a2_4).set ((own_at (own_L2_10 e_a2_0 e_a2_1 e_a2_2 e_a2_3 e_a2_4) e_a2_1)).toNatClampNeg (1 : Int32)
def own_L2_14 (e_a2_0 : Int32) (e_a2_1 : Int32) (e_a2_2 : Int32) (e_a2_3 : Int32) (e_a2_4 : Int32) : List Int32 := (own_L2_12 e_a2_0 e_a2_1 e_a2_2 e_a2_3 e_a2_4).set (e_a2_2).toNatClampNeg ((own_at (own_L2_12 e_a2_0 e_a2_1 e_a2_2 e_a2_3 e_a2_4) e_a2_2) + (1 : Int32))
def own_L2_15 (e_a2_0 : Int32) (e_a2_1 : Int32) (e_a2_2 : Int32) (e_a2_3 : Int32) (e_a2_4 : Int32) : List Int32 := (own_L2_13 e_a2_0 e_a2_1 e_a2_2 e_a2_3 e_a2_4).set ((own_at (own_L2_12 e_a2_0 e_a2_1 e_a2_2 e_a2_3 e_a2_4) e_a2_2)).toNatClampNeg (2 : Int32)
def own_L2_16 (e_a2_0 : Int32) (e_a2_1 : Int32) (e_a2_2 : Int32) (e_a2_3 : Int32) (e_a2_4 : Int32) : List Int32 := (own_L2_14 e_a2_0 e_a2_1 e_a2_2 e_a2_3 e_a2_4).set (e_a2_3).toNatClampNeg ((own_at (own_L2_14 e_a2_0 e_a2_1 e_a2_2 e_a2_3 e_a2_4) e_a2_3) + (1 : Int32))
def own_L2_17 (e_a2_0 : Int32) (e_a2_1 : Int32) (e_a2_2 : Int32) (e_a2_3 : Int32) (e_a2_4 : Int32) : List Int32 := (own_L2_15 e_a2_0 e_a2_1 e_a2_2 e_a2_3 e_a2_4).set ((own_at (own_L2_14 e_a2_0 e_a2_1 e_a2_2 e_a2_3 e_a2_4) e_a2_3)).toNatClampNeg (3 : Int32)
def own_L2_18 (e_a2_0 : Int32) (e_a2_1 : Int32) (e_a2_2 : Int32) (e_a2_3 : Int32) (e_a2_4 : Int32) : List Int32 := (own_L2_16 e_a2_0 e_a2_1 e_a2_2 e_a2_3 e_a2_4).set (e_a2_4).toNatClampNeg ((own_at (own_L2_16 e_a2_0 e_a2_1 e_a2_2 e_a2_3 e_a2_4) e_a2_4) + (1 : Int32))
def own_L2_19 (e_a2_0 : Int32) (e_a2_1 : Int32) (e_a2_2 : Int32) (e_a2_3 : Int32) (e_a2_4 : Int32) : List Int32 := (own_L2_17 e_a2_0 e_a2_1 e_a2_2 e_a2_3 e_a2_4).set ((own_at (own_L2_16 e_a2_0 e_a2_1 e_a2_2 e_a2_3 e_a2_4) e_a2_4)).toNatClampNeg (4 : Int32)

def own_okB (e_a2_0 e_a2_1 e_a2_2 e_a2_3 e_a2_4 : Int32) : Bool := own_in (own_at (own_L2_9 e_a2_0 e_a2_1 e_a2_2 e_a2_3 e_a2_4) e_a2_0) && own_in (own_at (own_L2_10 e_a2_0 e_a2_1 e_a2_2 e_a2_3 e_a2_4) e_a2_1) && own_in (own_at (own_L2_12 e_a2_0 e_a2_1 e_a2_2 e_a2_3 e_a2_4) e_a2_2) && own_in (own_at (own_L2_14 e_a2_0 e_a2_1 e_a2_2 e_a2_3 e_a2_4) e_a2_3) && own_in (own_at (own_L2_16 e_a2_0 e_a2_1 e_a2_2 e_a2_3 e_a2_4) e_a2_4) && decide ((own_L2_19 e_a2_0 e_a2_1 e_a2_2 e_a2_3 e_a2_4).length = 5) && (List.range 5).all (fun i => own_in (own_at (own_L2_19 e_a2_0 e_a2_1 e_a2_2 e_a2_3 e_a2_4) (Int32.ofNat i)))
set_option maxRecDepth 100000 in
theorem own_okA : ∀ (a : Nat), a < 5 → ∀ (b : Nat), b < 5 → ∀ (c : Nat), c < 5 → ∀ (d : Nat), d < 5 → ∀ (e : Nat), e < 5 → own_okB (Int32.ofNat a) (Int32.ofNat b) (Int32.ofNat c) (Int32.ofNat d) (Int32.ofNat e) = true := by decide +kernel
theorem own_ok (e_a2_0 e_a2_1 e_a2_2 e_a2_3 e_a2_4 : Int32) (hC : own_C e_a2_0 e_a2_1 e_a2_2 e_a2_3 e_a2_4) : (own_in (own_at (own_L2_9 e_a2_0 e_a2_1 e_a2_2 e_a2_3 e_a2_4) e_a2_0) = true ∧ own_in (own_at (own_L2_10 e_a2_0 e_a2_1 e_a2_2 e_a2_3 e_a2_4) e_a2_1) = true ∧ own_in (own_at (own_L2_12 e_a2_0 e_a2_1 e_a2_2 e_a2_3 e_a2_4) e_a2_2) = true ∧ own_in (own_at (own_L2_14 e_a2_0 e_a2_1 e_a2_2 e_a2_3 e_a2_4) e_a2_3) = true ∧ own_in (own_at (own_L2_16 e_a2_0 e_a2_1 e_a2_2 e_a2_3 e_a2_4) e_a2_4) = true) ∧ (own_L2_19 e_a2_0 e_a2_1 e_a2_2 e_a2_3 e_a2_4).length = 5 ∧ ∀ i, i < 5 → own_in (own_at (own_L2_19 e_a2_0 e_a2_1 e_a2_2 e_a2_3 e_a2_4) (Int32.ofNat i)) = true := by
  have h := own_fin (P := fun a b c d e => own_okB a b c d e = true) own_okA hC
  simp only [own_okB, Bool.and_eq_true, decide_eq_true_eq] at h
  exact ⟨⟨h.1.1.1.1.1.1, h.1.1.1.1.1.2, h.1.1.1.1.2, h.1.1.1.2, h.1.1.2⟩, h.1.2, fun i hi => List.all_eq_true.mp h.2 i (List.mem_range.mpr hi)⟩
theorem own_or (e_a2_0 e_a2_1 e_a2_2 e_a2_3 e_a2_4 : Int32) (hC : own_C e_a2_0 e_a2_1 e_a2_2 e_a2_3 e_a2_4) : own_Or (own_L2_19 e_a2_0 e_a2_1 e_a2_2 e_a2_3 e_a2_4) := by
  have h := own_ok e_a2_0 e_a2_1 e_a2_2 e_a2_3 e_a2_4 hC
  exact ⟨h.2.1, fun i hi => of_decide_eq_true (h.2.2 i hi)⟩
def own_CE (e_a2_0 e_a2_1 e_a2_2 e_a2_3 e_a2_4 : Int32) : List Int32 := own_ce [e_a2_0, e_a2_1, e_a2_2, e_a2_3, e_a2_4] (own_L2_19 e_a2_0 e_a2_1 e_a2_2 e_a2_3 e_a2_4) 6 0 [0, 0, 0, 0, 0]
theorem own_cel (A O : List Int32) : ∀ (f i : Nat) (E : List Int32), (own_ce A O f i E).length = E.length := by
  intro f
  induction f with
  | zero => intro i E; rfl
  | succ f ih =>
    intro i E
    rw [own_ce]; split
    · rw [ih, List.length_set]
    · rfl
theorem own_CEl (e_a2_0 e_a2_1 e_a2_2 e_a2_3 e_a2_4 : Int32) : (own_CE e_a2_0 e_a2_1 e_a2_2 e_a2_3 e_a2_4).length = 5 := own_cel ..

set_option maxRecDepth 65536 in
set_option maxHeartbeats 40000000 in
theorem side_2_236 (e_a2_0 : Int32) (e_a2_1 : Int32) (e_a2_2 : Int32) (e_a2_3 : Int32) (e_a2_4 : Int32) (hC : own_C e_a2_0 e_a2_1 e_a2_2 e_a2_3 e_a2_4) : ¬ ((e_a2_0 + (1 : Int32)) < 0) ∧ (e_a2_0 + (1 : Int32)) < (6 : Int32) := by
  exact (own_c6 hC.1).1
set_option maxRecDepth 65536 in
set_option maxHeartbeats 40000000 in
theorem side_2_239_474 (e_a2_0 : Int32) (e_a2_1 : Int32) (e_a2_2 : Int32) (e_a2_3 : Int32) (e_a2_4 : Int32) (hC : own_C e_a2_0 e_a2_1 e_a2_2 e_a2_3 e_a2_4) : ¬ ((e_a2_0 + (1 : Int32)) < 0) ∧ (e_a2_0 + (1 : Int32)) < (6 : Int32) := by
  exact (own_c6 hC.1).1
set_option maxRecDepth 65536 in
set_option maxHeartbeats 40000000 in
theorem side_2_236_498 (e_a2_0 : Int32) (e_a2_1 : Int32) (e_a2_2 : Int32) (e_a2_3 : Int32) (e_a2_4 : Int32) (hC : own_C e_a2_0 e_a2_1 e_a2_2 e_a2_3 e_a2_4) : ¬ ((e_a2_1 + (1 : Int32)) < 0) ∧ (e_a2_1 + (1 : Int32)) < (6 : Int32) := by
  exact (own_c6 hC.2.1).1
set_option maxRecDepth 65536 in
set_option maxHeartbeats 40000000 in
theorem side_2_239_499 (e_a2_0 : Int32) (e_a2_1 : Int32) (e_a2_2 : Int32) (e_a2_3 : Int32) (e_a2_4 : Int32) (hC : own_C e_a2_0 e_a2_1 e_a2_2 e_a2_3 e_a2_4) : ¬ ((e_a2_1 + (1 : Int32)) < 0) ∧ (e_a2_1 + (1 : Int32)) < (6 : Int32) := by
  exact (own_c6 hC.2.1).1
set_option maxRecDepth 65536 in
set_option maxHeartbeats 40000000 in
theorem side_2_236_523 (e_a2_0 : Int32) (e_a2_1 : Int32) (e_a2_2 : Int32) (e_a2_3 : Int32) (e_a2_4 : Int32) (hC : own_C e_a2_0 e_a2_1 e_a2_2 e_a2_3 e_a2_4) : ¬ ((e_a2_2 + (1 : Int32)) < 0) ∧ (e_a2_2 + (1 : Int32)) < (6 : Int32) := by
  exact (own_c6 hC.2.2.1).1
set_option maxRecDepth 65536 in
set_option maxHeartbeats 40000000 in
theorem side_2_239_524 (e_a2_0 : Int32) (e_a2_1 : Int32) (e_a2_2 : Int32) (e_a2_3 : Int32) (e_a2_4 : Int32) (hC : own_C e_a2_0 e_a2_1 e_a2_2 e_a2_3 e_a2_4) : ¬ ((e_a2_2 + (1 : Int32)) < 0) ∧ (e_a2_2 + (1 : Int32)) < (6 : Int32) := by
  exact (own_c6 hC.2.2.1).1
set_option maxRecDepth 65536 in
set_option maxHeartbeats 40000000 in
theorem side_2_236_548 (e_a2_0 : Int32) (e_a2_1 : Int32) (e_a2_2 : Int32) (e_a2_3 : Int32) (e_a2_4 : Int32) (hC : own_C e_a2_0 e_a2_1 e_a2_2 e_a2_3 e_a2_4) : ¬ ((e_a2_3 + (1 : Int32)) < 0) ∧ (e_a2_3 + (1 : Int32)) < (6 : Int32) := by
  exact (own_c6 hC.2.2.2.1).1
set_option maxRecDepth 65536 in
set_option maxHeartbeats 40000000 in
theorem side_2_239_549 (e_a2_0 : Int32) (e_a2_1 : Int32) (e_a2_2 : Int32) (e_a2_3 : Int32) (e_a2_4 : Int32) (hC : own_C e_a2_0 e_a2_1 e_a2_2 e_a2_3 e_a2_4) : ¬ ((e_a2_3 + (1 : Int32)) < 0) ∧ (e_a2_3 + (1 : Int32)) < (6 : Int32) := by
  exact (own_c6 hC.2.2.2.1).1
set_option maxRecDepth 65536 in
set_option maxHeartbeats 40000000 in
theorem side_2_236_573 (e_a2_0 : Int32) (e_a2_1 : Int32) (e_a2_2 : Int32) (e_a2_3 : Int32) (e_a2_4 : Int32) (hC : own_C e_a2_0 e_a2_1 e_a2_2 e_a2_3 e_a2_4) : ¬ ((e_a2_4 + (1 : Int32)) < 0) ∧ (e_a2_4 + (1 : Int32)) < (6 : Int32) := by
  exact (own_c6 hC.2.2.2.2).1
set_option maxRecDepth 65536 in
set_option maxHeartbeats 40000000 in
theorem side_2_239_574 (e_a2_0 : Int32) (e_a2_1 : Int32) (e_a2_2 : Int32) (e_a2_3 : Int32) (e_a2_4 : Int32) (hC : own_C e_a2_0 e_a2_1 e_a2_2 e_a2_3 e_a2_4) : ¬ ((e_a2_4 + (1 : Int32)) < 0) ∧ (e_a2_4 + (1 : Int32)) < (6 : Int32) := by
  exact (own_c6 hC.2.2.2.2).1
set_option maxRecDepth 65536 in
set_option maxHeartbeats 40000000 in
theorem side_2_298_734 (e_a2_0 : Int32) (e_a2_1 : Int32) (e_a2_2 : Int32) (e_a2_3 : Int32) (e_a2_4 : Int32) (hC : own_C e_a2_0 e_a2_1 e_a2_2 e_a2_3 e_a2_4) : ¬ (e_a2_0 < 0) ∧ e_a2_0 < (6 : Int32) := by
  exact (own_c6 hC.1).2
set_option maxRecDepth 65536 in
set_option maxHeartbeats 40000000 in
theorem side_2_302_735 (e_a2_0 : Int32) (e_a2_1 : Int32) (e_a2_2 : Int32) (e_a2_3 : Int32) (e_a2_4 : Int32) (hC : own_C e_a2_0 e_a2_1 e_a2_2 e_a2_3 e_a2_4) : ¬ (e_a2_0 < 0) ∧ e_a2_0 < (6 : Int32) := by
  exact (own_c6 hC.1).2
set_option maxRecDepth 65536 in
set_option maxHeartbeats 40000000 in
theorem side_2_313_739 (e_a2_0 : Int32) (e_a2_1 : Int32) (e_a2_2 : Int32) (e_a2_3 : Int32) (e_a2_4 : Int32) (hC : own_C e_a2_0 e_a2_1 e_a2_2 e_a2_3 e_a2_4) : ¬ ((own_at (own_L2_9 e_a2_0 e_a2_1 e_a2_2 e_a2_3 e_a2_4) e_a2_0) < 0) ∧ (own_at (own_L2_9 e_a2_0 e_a2_1 e_a2_2 e_a2_3 e_a2_4) e_a2_0) < (5 : Int32) := by
  exact of_decide_eq_true (own_ok e_a2_0 e_a2_1 e_a2_2 e_a2_3 e_a2_4 hC).1.1
set_option maxRecDepth 65536 in
set_option maxHeartbeats 40000000 in
theorem side_2_298_768 (e_a2_0 : Int32) (e_a2_1 : Int32) (e_a2_2 : Int32) (e_a2_3 : Int32) (e_a2_4 : Int32) (hC : own_C e_a2_0 e_a2_1 e_a2_2 e_a2_3 e_a2_4) : ¬ (e_a2_1 < 0) ∧ e_a2_1 < (6 : Int32) := by
  exact (own_c6 hC.2.1).2
set_option maxRecDepth 65536 in
set_option maxHeartbeats 40000000 in
theorem side_2_302_769 (e_a2_0 : Int32) (e_a2_1 : Int32) (e_a2_2 : Int32) (e_a2_3 : Int32) (e_a2_4 : Int32) (hC : own_C e_a2_0 e_a2_1 e_a2_2 e_a2_3 e_a2_4) : ¬ (e_a2_1 < 0) ∧ e_a2_1 < (6 : Int32) := by
  exact (own_c6 hC.2.1).2
set_option maxRecDepth 65536 in
set_option maxHeartbeats 40000000 in
theorem side_2_313_773 (e_a2_0 : Int32) (e_a2_1 : Int32) (e_a2_2 : Int32) (e_a2_3 : Int32) (e_a2_4 : Int32) (hC : own_C e_a2_0 e_a2_1 e_a2_2 e_a2_3 e_a2_4) : ¬ ((own_at (own_L2_10 e_a2_0 e_a2_1 e_a2_2 e_a2_3 e_a2_4) e_a2_1) < 0) ∧ (own_at (own_L2_10 e_a2_0 e_a2_1 e_a2_2 e_a2_3 e_a2_4) e_a2_1) < (5 : Int32) := by
  exact of_decide_eq_true (own_ok e_a2_0 e_a2_1 e_a2_2 e_a2_3 e_a2_4 hC).1.2.1
set_option maxRecDepth 65536 in
set_option maxHeartbeats 40000000 in
theorem side_2_298_802 (e_a2_0 : Int32) (e_a2_1 : Int32) (e_a2_2 : Int32) (e_a2_3 : Int32) (e_a2_4 : Int32) (hC : own_C e_a2_0 e_a2_1 e_a2_2 e_a2_3 e_a2_4) : ¬ (e_a2_2 < 0) ∧ e_a2_2 < (6 : Int32) := by
  exact (own_c6 hC.2.2.1).2
set_option maxRecDepth 65536 in
set_option maxHeartbeats 40000000 in
theorem side_2_302_803 (e_a2_0 : Int32) (e_a2_1 : Int32) (e_a2_2 : Int32) (e_a2_3 : Int32) (e_a2_4 : Int32) (hC : own_C e_a2_0 e_a2_1 e_a2_2 e_a2_3 e_a2_4) : ¬ (e_a2_2 < 0) ∧ e_a2_2 < (6 : Int32) := by
  exact (own_c6 hC.2.2.1).2
set_option maxRecDepth 65536 in
set_option maxHeartbeats 40000000 in
theorem side_2_313_807 (e_a2_0 : Int32) (e_a2_1 : Int32) (e_a2_2 : Int32) (e_a2_3 : Int32) (e_a2_4 : Int32) (hC : own_C e_a2_0 e_a2_1 e_a2_2 e_a2_3 e_a2_4) : ¬ ((own_at (own_L2_12 e_a2_0 e_a2_1 e_a2_2 e_a2_3 e_a2_4) e_a2_2) < 0) ∧ (own_at (own_L2_12 e_a2_0 e_a2_1 e_a2_2 e_a2_3 e_a2_4) e_a2_2) < (5 : Int32) := by
  exact of_decide_eq_true (own_ok e_a2_0 e_a2_1 e_a2_2 e_a2_3 e_a2_4 hC).1.2.2.1
set_option maxRecDepth 65536 in
set_option maxHeartbeats 40000000 in
theorem side_2_298_836 (e_a2_0 : Int32) (e_a2_1 : Int32) (e_a2_2 : Int32) (e_a2_3 : Int32) (e_a2_4 : Int32) (hC : own_C e_a2_0 e_a2_1 e_a2_2 e_a2_3 e_a2_4) : ¬ (e_a2_3 < 0) ∧ e_a2_3 < (6 : Int32) := by
  exact (own_c6 hC.2.2.2.1).2
set_option maxRecDepth 65536 in
set_option maxHeartbeats 40000000 in
theorem side_2_302_837 (e_a2_0 : Int32) (e_a2_1 : Int32) (e_a2_2 : Int32) (e_a2_3 : Int32) (e_a2_4 : Int32) (hC : own_C e_a2_0 e_a2_1 e_a2_2 e_a2_3 e_a2_4) : ¬ (e_a2_3 < 0) ∧ e_a2_3 < (6 : Int32) := by
  exact (own_c6 hC.2.2.2.1).2
set_option maxRecDepth 65536 in
set_option maxHeartbeats 40000000 in
theorem side_2_313_841 (e_a2_0 : Int32) (e_a2_1 : Int32) (e_a2_2 : Int32) (e_a2_3 : Int32) (e_a2_4 : Int32) (hC : own_C e_a2_0 e_a2_1 e_a2_2 e_a2_3 e_a2_4) : ¬ ((own_at (own_L2_14 e_a2_0 e_a2_1 e_a2_2 e_a2_3 e_a2_4) e_a2_3) < 0) ∧ (own_at (own_L2_14 e_a2_0 e_a2_1 e_a2_2 e_a2_3 e_a2_4) e_a2_3) < (5 : Int32) := by
  exact of_decide_eq_true (own_ok e_a2_0 e_a2_1 e_a2_2 e_a2_3 e_a2_4 hC).1.2.2.2.1
set_option maxRecDepth 65536 in
set_option maxHeartbeats 40000000 in
theorem side_2_298_870 (e_a2_0 : Int32) (e_a2_1 : Int32) (e_a2_2 : Int32) (e_a2_3 : Int32) (e_a2_4 : Int32) (hC : own_C e_a2_0 e_a2_1 e_a2_2 e_a2_3 e_a2_4) : ¬ (e_a2_4 < 0) ∧ e_a2_4 < (6 : Int32) := by
  exact (own_c6 hC.2.2.2.2).2
set_option maxRecDepth 65536 in
set_option maxHeartbeats 40000000 in
theorem side_2_302_871 (e_a2_0 : Int32) (e_a2_1 : Int32) (e_a2_2 : Int32) (e_a2_3 : Int32) (e_a2_4 : Int32) (hC : own_C e_a2_0 e_a2_1 e_a2_2 e_a2_3 e_a2_4) : ¬ (e_a2_4 < 0) ∧ e_a2_4 < (6 : Int32) := by
  exact (own_c6 hC.2.2.2.2).2
set_option maxRecDepth 65536 in
set_option maxHeartbeats 40000000 in
theorem side_2_313_875 (e_a2_0 : Int32) (e_a2_1 : Int32) (e_a2_2 : Int32) (e_a2_3 : Int32) (e_a2_4 : Int32) (hC : own_C e_a2_0 e_a2_1 e_a2_2 e_a2_3 e_a2_4) : ¬ ((own_at (own_L2_16 e_a2_0 e_a2_1 e_a2_2 e_a2_3 e_a2_4) e_a2_4) < 0) ∧ (own_at (own_L2_16 e_a2_0 e_a2_1 e_a2_2 e_a2_3 e_a2_4) e_a2_4) < (5 : Int32) := by
  exact of_decide_eq_true (own_ok e_a2_0 e_a2_1 e_a2_2 e_a2_3 e_a2_4 hC).1.2.2.2.2
set_option maxRecDepth 65536 in
set_option maxHeartbeats 40000000 in
theorem side_2_391_911 (e_a2_0 : Int32) (e_a2_1 : Int32) (e_a2_2 : Int32) (e_a2_3 : Int32) (e_a2_4 : Int32) (hC : own_C e_a2_0 e_a2_1 e_a2_2 e_a2_3 e_a2_4) (A : List Int32) (O : List Int32) (hOr : own_Or O) (i : Nat) (hi : i ≤ 5) (r : Int32) (hr : 0 ≤ r.toInt ∧ r.toInt ≤ i) (hc908 : (Int32.ofNat i) < (5 : Int32)) (h5 : i < 5) (j : Nat) (hij : i < j) (hj5 : j ≤ 5) : ¬ ((Int32.ofNat i) < 0) ∧ (Int32.ofNat i) < (5 : Int32) := by
  exact own_nb i h5
set_option maxRecDepth 65536 in
set_option maxHeartbeats 40000000 in
theorem side_2_413_933 (e_a2_0 : Int32) (e_a2_1 : Int32) (e_a2_2 : Int32) (e_a2_3 : Int32) (e_a2_4 : Int32) (hC : own_C e_a2_0 e_a2_1 e_a2_2 e_a2_3 e_a2_4) (A : List Int32) (O : List Int32) (hOr : own_Or O) (i : Nat) (hi : i ≤ 5) (r : Int32) (hr : 0 ≤ r.toInt ∧ r.toInt ≤ i) (hc908 : (Int32.ofNat i) < (5 : Int32)) (h5 : i < 5) (j : Nat) (hij : i < j) (hj5 : j ≤ 5) (k : Nat) (hkj : k ≤ j) (hc930 : (Int32.ofNat k) < (Int32.ofNat j)) : ¬ ((Int32.ofNat k) < 0) ∧ (Int32.ofNat k) < (5 : Int32) := by
  exact own_nb k (by have := (own_lt k j (by omega) (by omega)).mp ‹Int32.ofNat k < Int32.ofNat j›; omega)
set_option maxRecDepth 65536 in
set_option maxHeartbeats 40000000 in
theorem side_2_416_934 (e_a2_0 : Int32) (e_a2_1 : Int32) (e_a2_2 : Int32) (e_a2_3 : Int32) (e_a2_4 : Int32) (hC : own_C e_a2_0 e_a2_1 e_a2_2 e_a2_3 e_a2_4) (A : List Int32) (O : List Int32) (hOr : own_Or O) (i : Nat) (hi : i ≤ 5) (r : Int32) (hr : 0 ≤ r.toInt ∧ r.toInt ≤ i) (hc908 : (Int32.ofNat i) < (5 : Int32)) (h5 : i < 5) (j : Nat) (hij : i < j) (hj5 : j ≤ 5) (k : Nat) (hkj : k ≤ j) (hc930 : (Int32.ofNat k) < (Int32.ofNat j)) : ¬ ((own_at O (Int32.ofNat k)) < 0) ∧ (own_at O (Int32.ofNat k)) < (5 : Int32) := by
  exact hOr.2 k (by have := (own_lt k j (by omega) (by omega)).mp ‹Int32.ofNat k < Int32.ofNat j›; omega)
set_option maxRecDepth 65536 in
set_option maxHeartbeats 40000000 in
theorem side_2_436 (e_a2_0 : Int32) (e_a2_1 : Int32) (e_a2_2 : Int32) (e_a2_3 : Int32) (e_a2_4 : Int32) (hC : own_C e_a2_0 e_a2_1 e_a2_2 e_a2_3 e_a2_4) (A : List Int32) (O : List Int32) (hOr : own_Or O) (i : Nat) (hi : i ≤ 5) (r : Int32) (hr : 0 ≤ r.toInt ∧ r.toInt ≤ i) (hc908 : (Int32.ofNat i) < (5 : Int32)) (h5 : i < 5) (j : Nat) (hij : i < j) (hj5 : j ≤ 5) (k : Nat) (hkj : k ≤ j) (hc930 : ¬ ((Int32.ofNat k) < (Int32.ofNat j))) : ¬ ((Int32.ofNat i) < 0) ∧ (Int32.ofNat i) < (5 : Int32) := by
  exact own_nb i h5
set_option maxRecDepth 65536 in
set_option maxHeartbeats 40000000 in
theorem side_2_436_2 (e_a2_0 : Int32) (e_a2_1 : Int32) (e_a2_2 : Int32) (e_a2_3 : Int32) (e_a2_4 : Int32) (hC : own_C e_a2_0 e_a2_1 e_a2_2 e_a2_3 e_a2_4) (A : List Int32) (O : List Int32) (hOr : own_Or O) (i : Nat) (hi : i ≤ 5) (r : Int32) (hr : 0 ≤ r.toInt ∧ r.toInt ≤ i) (hc908 : (Int32.ofNat i) < (5 : Int32)) (h5 : i < 5) (j : Nat) (hij : i < j) (hj5 : j ≤ 5) (k : Nat) (hkj : k ≤ j) (hc930 : ¬ ((Int32.ofNat k) < (Int32.ofNat j))) : own_q r := by
  exact ⟨hr.1, by omega⟩
set_option maxRecDepth 65536 in
set_option maxHeartbeats 40000000 in
theorem side_2_445_969 (e_a2_0 : Int32) (e_a2_1 : Int32) (e_a2_2 : Int32) (e_a2_3 : Int32) (e_a2_4 : Int32) (hC : own_C e_a2_0 e_a2_1 e_a2_2 e_a2_3 e_a2_4) (A : List Int32) (O : List Int32) (hOr : own_Or O) (i : Nat) (hi : i ≤ 5) (r : Int32) (hr : 0 ≤ r.toInt ∧ r.toInt ≤ i) (hc908 : (Int32.ofNat i) < (5 : Int32)) (h5 : i < 5) (j : Nat) (hij : i < j) (hj5 : j ≤ 5) (k : Nat) (hkj : k ≤ j) (hc930 : ¬ ((Int32.ofNat k) < (Int32.ofNat j))) : ¬ ((Int32.ofNat i) < 0) ∧ (Int32.ofNat i) < (5 : Int32) := by
  exact own_nb i h5
set_option maxRecDepth 65536 in
set_option maxHeartbeats 40000000 in
theorem side_2_363_979 (e_a2_0 : Int32) (e_a2_1 : Int32) (e_a2_2 : Int32) (e_a2_3 : Int32) (e_a2_4 : Int32) (hC : own_C e_a2_0 e_a2_1 e_a2_2 e_a2_3 e_a2_4) (A : List Int32) (O : List Int32) (hOr : own_Or O) (i : Nat) (hi : i ≤ 5) (r : Int32) (hr : 0 ≤ r.toInt ∧ r.toInt ≤ i) (hc908 : (Int32.ofNat i) < (5 : Int32)) (h5 : i < 5) (j : Nat) (hij : i < j) (hj5 : j ≤ 5) (hc977 : (Int32.ofNat j) < (5 : Int32)) : ¬ ((Int32.ofNat j) < 0) ∧ (Int32.ofNat j) < (5 : Int32) := by
  exact own_nb j ((own_lt5 j (by omega)).mp ‹Int32.ofNat j < (5 : Int32)›)
set_option maxRecDepth 65536 in
set_option maxHeartbeats 40000000 in
theorem side_2_364_980 (e_a2_0 : Int32) (e_a2_1 : Int32) (e_a2_2 : Int32) (e_a2_3 : Int32) (e_a2_4 : Int32) (hC : own_C e_a2_0 e_a2_1 e_a2_2 e_a2_3 e_a2_4) (A : List Int32) (O : List Int32) (hOr : own_Or O) (i : Nat) (hi : i ≤ 5) (r : Int32) (hr : 0 ≤ r.toInt ∧ r.toInt ≤ i) (hc908 : (Int32.ofNat i) < (5 : Int32)) (h5 : i < 5) (j : Nat) (hij : i < j) (hj5 : j ≤ 5) (hc977 : (Int32.ofNat j) < (5 : Int32)) : ¬ ((own_at O (Int32.ofNat j)) < 0) ∧ (own_at O (Int32.ofNat j)) < (5 : Int32) := by
  exact hOr.2 j ((own_lt5 j (by omega)).mp ‹Int32.ofNat j < (5 : Int32)›)
set_option maxRecDepth 65536 in
set_option maxHeartbeats 40000000 in
theorem side_2_372_982 (e_a2_0 : Int32) (e_a2_1 : Int32) (e_a2_2 : Int32) (e_a2_3 : Int32) (e_a2_4 : Int32) (hC : own_C e_a2_0 e_a2_1 e_a2_2 e_a2_3 e_a2_4) (A : List Int32) (O : List Int32) (hOr : own_Or O) (i : Nat) (hi : i ≤ 5) (r : Int32) (hr : 0 ≤ r.toInt ∧ r.toInt ≤ i) (hc908 : (Int32.ofNat i) < (5 : Int32)) (h5 : i < 5) (j : Nat) (hij : i < j) (hj5 : j ≤ 5) (hc977 : (Int32.ofNat j) < (5 : Int32)) : ¬ ((Int32.ofNat i) < 0) ∧ (Int32.ofNat i) < (5 : Int32) := by
  exact own_nb i h5
set_option maxRecDepth 65536 in
set_option maxHeartbeats 40000000 in
theorem side_2_373_983 (e_a2_0 : Int32) (e_a2_1 : Int32) (e_a2_2 : Int32) (e_a2_3 : Int32) (e_a2_4 : Int32) (hC : own_C e_a2_0 e_a2_1 e_a2_2 e_a2_3 e_a2_4) (A : List Int32) (O : List Int32) (hOr : own_Or O) (i : Nat) (hi : i ≤ 5) (r : Int32) (hr : 0 ≤ r.toInt ∧ r.toInt ≤ i) (hc908 : (Int32.ofNat i) < (5 : Int32)) (h5 : i < 5) (j : Nat) (hij : i < j) (hj5 : j ≤ 5) (hc977 : (Int32.ofNat j) < (5 : Int32)) : ¬ ((own_at O (Int32.ofNat i)) < 0) ∧ (own_at O (Int32.ofNat i)) < (5 : Int32) := by
  exact hOr.2 i h5
def Q2 (Z : State) (a1 : Addr) (a2 : Addr) (a3 : Addr) (a4 : Addr) (a5 : Addr) (u_size_a1 : Value) (u_arcStart_a1 : Value) (u_arcKeys_a1 : Value) (u_arcNodes_a1 : Value) (u_order_a1 : Value) (u_position_a1 : Value) (u_cellOf_a1 : Value) (u_cellEnd_a1 : Value) (u_queue_a1 : Value) (u_queued_a1 : Value) (u_trail_a1 : Value) (u_trailParent_a1 : Value) (u_reached_a1 : Value) (u_hitKeys_a1 : Value) (u_keysStart_a1 : Value) (u_keysEnd_a1 : Value) (u_cellsReached_a1 : Value) (u_reachedInCell_a1 : Value) (u_byCell_a1 : Value) (u_mergeBuffer_a1 : Value) (u_groupStarts_a1 : Value) (k_a2 : ClassId) (e_a2_0 : Int32) (e_a2_1 : Int32) (e_a2_2 : Int32) (e_a2_3 : Int32) (e_a2_4 : Int32) (k_a3 : ClassId) (k_a4 : ClassId) (k_a5 : ClassId) (h0 : Heap) (n0 : Nat) (v : Option Value) (h : Heap) (L : List Loc) : Prop := v = none ∧ Fr n0 L ∧ n0 ≤ h.size ∧ ∃ (ce : Addr) (kc : ClassId), Exa Z h a1 "com/example/tercet/tercet/Partition" ∧ Fld Z h a1 "com/example/tercet/tercet/Partition" "size" "I" (.int (5 : Int32)) ∧ Fld Z h a1 "com/example/tercet/tercet/Partition" "cellEnd" "[I" (.ref ce) ∧ Arv Z h ce kc .int (5 : Int32) ((own_CE e_a2_0 e_a2_1 e_a2_2 e_a2_3 e_a2_4).map Value.int) (.int (0 : Int32))
set_option maxRecDepth 65536 in
set_option maxHeartbeats 40000000 in
theorem rm2 (l : Launch) (Z : State) (a0 : Array Value) (hw : ∀ d ∈ tables_1, d.before a0 Z = true) (ws : List Jvm.Cond) (a1 : Addr) (a2 : Addr) (a3 : Addr) (a4 : Addr) (a5 : Addr) (u_size_a1 : Value) (u_arcStart_a1 : Value) (u_arcKeys_a1 : Value) (u_arcNodes_a1 : Value) (u_order_a1 : Value) (u_position_a1 : Value) (u_cellOf_a1 : Value) (u_cellEnd_a1 : Value) (u_queue_a1 : Value) (u_queued_a1 : Value) (u_trail_a1 : Value) (u_trailParent_a1 : Value) (u_reached_a1 : Value) (u_hitKeys_a1 : Value) (u_keysStart_a1 : Value) (u_keysEnd_a1 : Value) (u_cellsReached_a1 : Value) (u_reachedInCell_a1 : Value) (u_byCell_a1 : Value) (u_mergeBuffer_a1 : Value) (u_groupStarts_a1 : Value) (k_a2 : ClassId) (e_a2_0 : Int32) (e_a2_1 : Int32) (e_a2_2 : Int32) (e_a2_3 : Int32) (e_a2_4 : Int32) (k_a3 : ClassId) (k_a4 : ClassId) (k_a5 : ClassId) (h0 : Heap) (n0 : Nat) (Z0 : n0 ≤ h0.size) (E_a1 : Exa Z h0 a1 "com/example/tercet/tercet/Partition") (F_queueHead_a1 : Fld Z h0 a1 "com/example/tercet/tercet/Partition" "queueHead" "I" (.int (0 : Int32))) (F_queueSize_a1 : Fld Z h0 a1 "com/example/tercet/tercet/Partition" "queueSize" "I" (.int (0 : Int32))) (F_cells_a1 : Fld Z h0 a1 "com/example/tercet/tercet/Partition" "cells" "I" (.int (0 : Int32))) (F_size_a1 : Fld Z h0 a1 "com/example/tercet/tercet/Partition" "size" "I" u_size_a1) (F_arcStart_a1 : Fld Z h0 a1 "com/example/tercet/tercet/Partition" "arcStart" "[I" u_arcStart_a1) (F_arcKeys_a1 : Fld Z h0 a1 "com/example/tercet/tercet/Partition" "arcKeys" "[I" u_arcKeys_a1) (F_arcNodes_a1 : Fld Z h0 a1 "com/example/tercet/tercet/Partition" "arcNodes" "[I" u_arcNodes_a1) (F_order_a1 : Fld Z h0 a1 "com/example/tercet/tercet/Partition" "order" "[I" u_order_a1) (F_position_a1 : Fld Z h0 a1 "com/example/tercet/tercet/Partition" "position" "[I" u_position_a1) (F_cellOf_a1 : Fld Z h0 a1 "com/example/tercet/tercet/Partition" "cellOf" "[I" u_cellOf_a1) (F_cellEnd_a1 : Fld Z h0 a1 "com/example/tercet/tercet/Partition" "cellEnd" "[I" u_cellEnd_a1) (F_queue_a1 : Fld Z h0 a1 "com/example/tercet/tercet/Partition" "queue" "[I" u_queue_a1) (F_queued_a1 : Fld Z h0 a1 "com/example/tercet/tercet/Partition" "queued" "[Z" u_queued_a1) (F_trail_a1 : Fld Z h0 a1 "com/example/tercet/tercet/Partition" "trail" "[I" u_trail_a1) (F_trailParent_a1 : Fld Z h0 a1 "com/example/tercet/tercet/Partition" "trailParent" "[I" u_trailParent_a1) (F_reached_a1 : Fld Z h0 a1 "com/example/tercet/tercet/Partition" "reached" "[I" u_reached_a1) (F_hitKeys_a1 : Fld Z h0 a1 "com/example/tercet/tercet/Partition" "hitKeys" "[I" u_hitKeys_a1) (F_keysStart_a1 : Fld Z h0 a1 "com/example/tercet/tercet/Partition" "keysStart" "[I" u_keysStart_a1) (F_keysEnd_a1 : Fld Z h0 a1 "com/example/tercet/tercet/Partition" "keysEnd" "[I" u_keysEnd_a1) (F_cellsReached_a1 : Fld Z h0 a1 "com/example/tercet/tercet/Partition" "cellsReached" "[I" u_cellsReached_a1) (F_reachedInCell_a1 : Fld Z h0 a1 "com/example/tercet/tercet/Partition" "reachedInCell" "[I" u_reachedInCell_a1) (F_byCell_a1 : Fld Z h0 a1 "com/example/tercet/tercet/Partition" "byCell" "[I" u_byCell_a1) (F_mergeBuffer_a1 : Fld Z h0 a1 "com/example/tercet/tercet/Partition" "mergeBuffer" "[I" u_mergeBuffer_a1) (F_groupStarts_a1 : Fld Z h0 a1 "com/example/tercet/tercet/Partition" "groupStarts" "[I" u_groupStarts_a1) (V_a2 : Arv Z h0 a2 k_a2 .int (5 : Int32) [(.int e_a2_0), (.int e_a2_1), (.int e_a2_2), (.int e_a2_3), (.int e_a2_4)] (.int (0 : Int32))) (V_a3 : Arv Z h0 a3 k_a3 .int (6 : Int32) [(.int (0 : Int32)), (.int (0 : Int32)), (.int (0 : Int32)), (.int (0 : Int32)), (.int (0 : Int32)), (.int (0 : Int32))] (.int (0 : Int32))) (V_a4 : Arv Z h0 a4 k_a4 .int (0 : Int32) [] (.int (0 : Int32))) (V_a5 : Arv Z h0 a5 k_a5 .int (0 : Int32) [] (.int (0 : Int32))) (hC : own_C e_a2_0 e_a2_1 e_a2_2 e_a2_3 e_a2_4) (g_a1 : n0 ≤ a1) (ne_a2_a1 : a2 ≠ a1) (ne_a4_a1 : a4 ≠ a1) :
    MetFree l (⟨"com/example/tercet/tercet/Partition", "<init>", "([I[I[I[I)V"⟩ : MethodName) (head1 (Jvm.Cond.code (⟨"com/example/tercet/tercet/Partition", "<init>", "([I[I[I[I)V"⟩ : MethodName) prog_36_method_1_code 10 none :: ws) ({ frames := 1, cells := 18, slots := 86, locals := 13 } : Room)) (fun a U => a = #[(.ref a1), (.ref a2), (.ref a3), (.ref a4), (.ref a5)] ∧ Z.Warmed39 U.vm ∧ U.heap = h0) (fun _ _ _ _ _ => True) (fun _ U o U' => ∃ v L, o = .returned v ∧ Q2 Z a1 a2 a3 a4 a5 u_size_a1 u_arcStart_a1 u_arcKeys_a1 u_arcNodes_a1 u_order_a1 u_position_a1 u_cellOf_a1 u_cellEnd_a1 u_queue_a1 u_queued_a1 u_trail_a1 u_trailParent_a1 u_reached_a1 u_hitKeys_a1 u_keysStart_a1 u_keysEnd_a1 u_cellsReached_a1 u_reachedInCell_a1 u_byCell_a1 u_mergeBuffer_a1 u_groupStarts_a1 k_a2 e_a2_0 e_a2_1 e_a2_2 e_a2_3 e_a2_4 k_a3 k_a4 k_a5 h0 n0 v U'.heap L ∧ FrameEnd U o U' L ({ frames := 1, cells := 18, slots := 86, locals := 13 } : Room).cells ({ frames := 1, cells := 18, slots := 86, locals := 13 } : Room).slots) := by
  refine MetFree.of_bodySF (plainFor_of_name pn_2) hisR ?_
  intro p e s m args below meth c s₁ Bd hml0 hP hK
  obtain ⟨rfl, hZ, hh⟩ := hP
  skip
  skip
  skip
  skip
  skip
  skip
  have hx := Bd.exec
  have hby := Bd.bytes
  have hml : c.maxLocals = 10 := hml0
  have hown : s.vm.findClass "com/example/tercet/tercet/Partition" = some m.cls := findClass_of_methodNamed Bd.named
  have hnm := (name_of_methodNamed Bd.named Bd.method).1
  have X0 : Stand p l e ({ frames := 1, cells := 18, slots := 86, locals := 13 } : Room) s m #[(.ref a1), (.ref a2), (.ref a3), (.ref a4), (.ref a5)] below meth c s₁ [] 0 0 := Stand.of_body Bd
  have e0 : s₁.heap = h0 := by rw [← hh, Bd.state]; rfl
  have N0 := Fr.nil n0
  have pre0 : ∀ t, Steps p.tables e below (s₁.setTop (mkF m 0 #[.val (.ref a1), .val (.ref a2), .val (.ref a3), .val (.ref a4), .val (.ref a5), .unset, .unset, .unset, .unset, .unset] [])) t → Steps p.tables e below (s₁.setTop (entryFrame m #[(.ref a1), (.ref a2), (.ref a3), (.ref a4), (.ref a5)] 10)) t := fun t k => castTop (ef_2 m a1 a2 a3 a4 a5) k
  have hlk : meth.locks = false := by first | exact BodyLoose.notSynchronized Bd | exact Body.notSynchronized Bd
  have hw7 : (Jvm.Cond.instantiable "com/example/tercet/tercet/Partition" (26 : Nat)).before a0 Z = true := hw _ (List.mem_of_getElem? (i := 7) rfl)
  have hw8 : (Jvm.Cond.initialized "com/example/tercet/tercet/Partition").before a0 Z = true := hw _ (List.mem_of_getElem? (i := 8) rfl)
  have hw12 : (Jvm.Cond.methodLink "com/example/tercet/tercet/Partition" (1 : Nat) ({ cls := "java/lang/Object", name := "<init>", desc := "()V" } : Jvm.MethodName)).before a0 Z = true := hw _ (List.mem_of_getElem? (i := 12) rfl)
  have hw13 : (Jvm.Cond.instanceMethod ({ cls := "java/lang/Object", name := "<init>", desc := "()V" } : Jvm.MethodName)).before a0 Z = true := hw _ (List.mem_of_getElem? (i := 13) rfl)
  have hw14 : (Jvm.Cond.code ({ cls := "java/lang/Object", name := "<init>", desc := "()V" } : Jvm.MethodName) object_method_1_code (1 : Nat) (Option.none : Option Jvm.ClassFile.FieldType)).before a0 Z = true := hw _ (List.mem_of_getElem? (i := 14) rfl)
  have hw15 : (Jvm.Cond.fieldLink "com/example/tercet/tercet/Partition" (7 : Nat) "com/example/tercet/tercet/Partition" "size" "I").before a0 Z = true := hw _ (List.mem_of_getElem? (i := 15) rfl)
  have hw16 : (Jvm.Cond.laysFinal "com/example/tercet/tercet/Partition" "com/example/tercet/tercet/Partition" "size" "I").before a0 Z = true := hw _ (List.mem_of_getElem? (i := 16) rfl)
  have hw17 : (Jvm.Cond.fieldLink "com/example/tercet/tercet/Partition" (13 : Nat) "com/example/tercet/tercet/Partition" "arcStart" "[I").before a0 Z = true := hw _ (List.mem_of_getElem? (i := 17) rfl)
  have hw18 : (Jvm.Cond.laysFinal "com/example/tercet/tercet/Partition" "com/example/tercet/tercet/Partition" "arcStart" "[I").before a0 Z = true := hw _ (List.mem_of_getElem? (i := 18) rfl)
  have hw19 : (Jvm.Cond.fieldLink "com/example/tercet/tercet/Partition" (17 : Nat) "com/example/tercet/tercet/Partition" "arcKeys" "[I").before a0 Z = true := hw _ (List.mem_of_getElem? (i := 19) rfl)
  have hw20 : (Jvm.Cond.laysFinal "com/example/tercet/tercet/Partition" "com/example/tercet/tercet/Partition" "arcKeys" "[I").before a0 Z = true := hw _ (List.mem_of_getElem? (i := 20) rfl)
  have hw21 : (Jvm.Cond.fieldLink "com/example/tercet/tercet/Partition" (20 : Nat) "com/example/tercet/tercet/Partition" "arcNodes" "[I").before a0 Z = true := hw _ (List.mem_of_getElem? (i := 21) rfl)
  have hw22 : (Jvm.Cond.laysFinal "com/example/tercet/tercet/Partition" "com/example/tercet/tercet/Partition" "arcNodes" "[I").before a0 Z = true := hw _ (List.mem_of_getElem? (i := 22) rfl)
  have hw23 : (Jvm.Cond.fieldLink "com/example/tercet/tercet/Partition" (23 : Nat) "com/example/tercet/tercet/Partition" "order" "[I").before a0 Z = true := hw _ (List.mem_of_getElem? (i := 23) rfl)
  have hw24 : (Jvm.Cond.laysFinal "com/example/tercet/tercet/Partition" "com/example/tercet/tercet/Partition" "order" "[I").before a0 Z = true := hw _ (List.mem_of_getElem? (i := 24) rfl)
  have hw25 : (Jvm.Cond.fieldLink "com/example/tercet/tercet/Partition" (26 : Nat) "com/example/tercet/tercet/Partition" "position" "[I").before a0 Z = true := hw _ (List.mem_of_getElem? (i := 25) rfl)
  have hw26 : (Jvm.Cond.laysFinal "com/example/tercet/tercet/Partition" "com/example/tercet/tercet/Partition" "position" "[I").before a0 Z = true := hw _ (List.mem_of_getElem? (i := 26) rfl)
  have hw27 : (Jvm.Cond.fieldLink "com/example/tercet/tercet/Partition" (29 : Nat) "com/example/tercet/tercet/Partition" "cellOf" "[I").before a0 Z = true := hw _ (List.mem_of_getElem? (i := 27) rfl)
  have hw28 : (Jvm.Cond.laysFinal "com/example/tercet/tercet/Partition" "com/example/tercet/tercet/Partition" "cellOf" "[I").before a0 Z = true := hw _ (List.mem_of_getElem? (i := 28) rfl)
  have hw29 : (Jvm.Cond.fieldLink "com/example/tercet/tercet/Partition" (32 : Nat) "com/example/tercet/tercet/Partition" "cellEnd" "[I").before a0 Z = true := hw _ (List.mem_of_getElem? (i := 29) rfl)
  have hw30 : (Jvm.Cond.laysFinal "com/example/tercet/tercet/Partition" "com/example/tercet/tercet/Partition" "cellEnd" "[I").before a0 Z = true := hw _ (List.mem_of_getElem? (i := 30) rfl)
  have hw31 : (Jvm.Cond.fieldLink "com/example/tercet/tercet/Partition" (35 : Nat) "com/example/tercet/tercet/Partition" "queue" "[I").before a0 Z = true := hw _ (List.mem_of_getElem? (i := 31) rfl)
  have hw32 : (Jvm.Cond.laysFinal "com/example/tercet/tercet/Partition" "com/example/tercet/tercet/Partition" "queue" "[I").before a0 Z = true := hw _ (List.mem_of_getElem? (i := 32) rfl)
  have hw34 : (Jvm.Cond.fieldLink "com/example/tercet/tercet/Partition" (38 : Nat) "com/example/tercet/tercet/Partition" "queued" "[Z").before a0 Z = true := hw _ (List.mem_of_getElem? (i := 34) rfl)
  have hw35 : (Jvm.Cond.laysFinal "com/example/tercet/tercet/Partition" "com/example/tercet/tercet/Partition" "queued" "[Z").before a0 Z = true := hw _ (List.mem_of_getElem? (i := 35) rfl)
  have hw36 : (Jvm.Cond.fieldLink "com/example/tercet/tercet/Partition" (42 : Nat) "com/example/tercet/tercet/Partition" "trail" "[I").before a0 Z = true := hw _ (List.mem_of_getElem? (i := 36) rfl)
  have hw37 : (Jvm.Cond.laysFinal "com/example/tercet/tercet/Partition" "com/example/tercet/tercet/Partition" "trail" "[I").before a0 Z = true := hw _ (List.mem_of_getElem? (i := 37) rfl)
  have hw38 : (Jvm.Cond.fieldLink "com/example/tercet/tercet/Partition" (45 : Nat) "com/example/tercet/tercet/Partition" "trailParent" "[I").before a0 Z = true := hw _ (List.mem_of_getElem? (i := 38) rfl)
  have hw39 : (Jvm.Cond.laysFinal "com/example/tercet/tercet/Partition" "com/example/tercet/tercet/Partition" "trailParent" "[I").before a0 Z = true := hw _ (List.mem_of_getElem? (i := 39) rfl)
  have hw40 : (Jvm.Cond.fieldLink "com/example/tercet/tercet/Partition" (48 : Nat) "com/example/tercet/tercet/Partition" "reached" "[I").before a0 Z = true := hw _ (List.mem_of_getElem? (i := 40) rfl)
  have hw41 : (Jvm.Cond.laysFinal "com/example/tercet/tercet/Partition" "com/example/tercet/tercet/Partition" "reached" "[I").before a0 Z = true := hw _ (List.mem_of_getElem? (i := 41) rfl)
  have hw42 : (Jvm.Cond.fieldLink "com/example/tercet/tercet/Partition" (51 : Nat) "com/example/tercet/tercet/Partition" "hitKeys" "[I").before a0 Z = true := hw _ (List.mem_of_getElem? (i := 42) rfl)
  have hw43 : (Jvm.Cond.laysFinal "com/example/tercet/tercet/Partition" "com/example/tercet/tercet/Partition" "hitKeys" "[I").before a0 Z = true := hw _ (List.mem_of_getElem? (i := 43) rfl)
  have hw44 : (Jvm.Cond.fieldLink "com/example/tercet/tercet/Partition" (54 : Nat) "com/example/tercet/tercet/Partition" "keysStart" "[I").before a0 Z = true := hw _ (List.mem_of_getElem? (i := 44) rfl)
  have hw45 : (Jvm.Cond.laysFinal "com/example/tercet/tercet/Partition" "com/example/tercet/tercet/Partition" "keysStart" "[I").before a0 Z = true := hw _ (List.mem_of_getElem? (i := 45) rfl)
  have hw46 : (Jvm.Cond.fieldLink "com/example/tercet/tercet/Partition" (57 : Nat) "com/example/tercet/tercet/Partition" "keysEnd" "[I").before a0 Z = true := hw _ (List.mem_of_getElem? (i := 46) rfl)
  have hw47 : (Jvm.Cond.laysFinal "com/example/tercet/tercet/Partition" "com/example/tercet/tercet/Partition" "keysEnd" "[I").before a0 Z = true := hw _ (List.mem_of_getElem? (i := 47) rfl)
  have hw48 : (Jvm.Cond.fieldLink "com/example/tercet/tercet/Partition" (60 : Nat) "com/example/tercet/tercet/Partition" "cellsReached" "[I").before a0 Z = true := hw _ (List.mem_of_getElem? (i := 48) rfl)
  have hw49 : (Jvm.Cond.laysFinal "com/example/tercet/tercet/Partition" "com/example/tercet/tercet/Partition" "cellsReached" "[I").before a0 Z = true := hw _ (List.mem_of_getElem? (i := 49) rfl)
  have hw50 : (Jvm.Cond.fieldLink "com/example/tercet/tercet/Partition" (63 : Nat) "com/example/tercet/tercet/Partition" "reachedInCell" "[I").before a0 Z = true := hw _ (List.mem_of_getElem? (i := 50) rfl)
  have hw51 : (Jvm.Cond.laysFinal "com/example/tercet/tercet/Partition" "com/example/tercet/tercet/Partition" "reachedInCell" "[I").before a0 Z = true := hw _ (List.mem_of_getElem? (i := 51) rfl)
  have hw52 : (Jvm.Cond.fieldLink "com/example/tercet/tercet/Partition" (66 : Nat) "com/example/tercet/tercet/Partition" "byCell" "[I").before a0 Z = true := hw _ (List.mem_of_getElem? (i := 52) rfl)
  have hw53 : (Jvm.Cond.laysFinal "com/example/tercet/tercet/Partition" "com/example/tercet/tercet/Partition" "byCell" "[I").before a0 Z = true := hw _ (List.mem_of_getElem? (i := 53) rfl)
  have hw54 : (Jvm.Cond.fieldLink "com/example/tercet/tercet/Partition" (69 : Nat) "com/example/tercet/tercet/Partition" "mergeBuffer" "[I").before a0 Z = true := hw _ (List.mem_of_getElem? (i := 54) rfl)
  have hw55 : (Jvm.Cond.laysFinal "com/example/tercet/tercet/Partition" "com/example/tercet/tercet/Partition" "mergeBuffer" "[I").before a0 Z = true := hw _ (List.mem_of_getElem? (i := 55) rfl)
  have hw56 : (Jvm.Cond.fieldLink "com/example/tercet/tercet/Partition" (72 : Nat) "com/example/tercet/tercet/Partition" "groupStarts" "[I").before a0 Z = true := hw _ (List.mem_of_getElem? (i := 56) rfl)
  have hw57 : (Jvm.Cond.laysFinal "com/example/tercet/tercet/Partition" "com/example/tercet/tercet/Partition" "groupStarts" "[I").before a0 Z = true := hw _ (List.mem_of_getElem? (i := 57) rfl)
  have hw58 : (Jvm.Cond.fieldLink "com/example/tercet/tercet/Partition" (75 : Nat) "com/example/tercet/tercet/Partition" "cells" "I").before a0 Z = true := hw _ (List.mem_of_getElem? (i := 58) rfl)
  have hw59 : (Jvm.Cond.lays "com/example/tercet/tercet/Partition" "com/example/tercet/tercet/Partition" "cells" "I").before a0 Z = true := hw _ (List.mem_of_getElem? (i := 59) rfl)
  have hw60 : (Jvm.Cond.methodLink "com/example/tercet/tercet/Partition" (78 : Nat) ({ cls := "com/example/tercet/tercet/Partition", name := "enqueue", desc := "(I)V" } : Jvm.MethodName)).before a0 Z = true := hw _ (List.mem_of_getElem? (i := 60) rfl)
  have hw61 : (Jvm.Cond.instanceMethod ({ cls := "com/example/tercet/tercet/Partition", name := "enqueue", desc := "(I)V" } : Jvm.MethodName)).before a0 Z = true := hw _ (List.mem_of_getElem? (i := 61) rfl)
  have hw62 : (Jvm.Cond.privateMethod ({ cls := "com/example/tercet/tercet/Partition", name := "enqueue", desc := "(I)V" } : Jvm.MethodName)).before a0 Z = true := hw _ (List.mem_of_getElem? (i := 62) rfl)
  have hw63 : (Jvm.Cond.code ({ cls := "com/example/tercet/tercet/Partition", name := "enqueue", desc := "(I)V" } : Jvm.MethodName) prog_36_method_22_code (2 : Nat) (Option.none : Option Jvm.ClassFile.FieldType)).before a0 Z = true := hw _ (List.mem_of_getElem? (i := 63) rfl)
  have hw65 : (Jvm.Cond.lays "com/example/tercet/tercet/Partition" "com/example/tercet/tercet/Partition" "queueHead" "I").before a0 Z = true := hw _ (List.mem_of_getElem? (i := 65) rfl)
  have hw67 : (Jvm.Cond.lays "com/example/tercet/tercet/Partition" "com/example/tercet/tercet/Partition" "queueSize" "I").before a0 Z = true := hw _ (List.mem_of_getElem? (i := 67) rfl)
  have hw71 : (Jvm.Cond.selects "com/example/tercet/tercet/Partition" ({ cls := "com/example/tercet/tercet/Partition", name := "firstNonSingletonCell", desc := "(I)I" } : Jvm.MethodName) ({ cls := "com/example/tercet/tercet/Partition", name := "firstNonSingletonCell", desc := "(I)I" } : Jvm.MethodName)).before a0 Z = true := hw _ (List.mem_of_getElem? (i := 71) rfl)
  obtain ⟨T1, X1, e1, st1⟩ := initO X0 hx hZ hown hw12 hw13 hw14 e0 (g := (mkF m 1 #[.val (.ref a1), .val (.ref a2), .val (.ref a3), .val (.ref a4), .val (.ref a5), .unset, .unset, .unset, .unset, .unset] [(.ref a1)])) rfl (by rw [hml]; rfl) rfl (hb hby d2_1) (by decide) (W := 0) (by show 2 * 0 + _ ≤ _; exact Nat.le_of_eq rfl) (by decide)
  obtain ⟨cl2, Ar2, aq2, S2, M2, H2, G2⟩ := id V_a2
  obtain ⟨T3, h3, X3, e3, W3, st3⟩ := putF X1 hx hZ hown (host := "") (Or.inl hw15) Via.refl e1 F_size_a1 E_a1 (Or.inr ⟨hw16, rfl, hnm⟩) hw7 (ty := .int) (by decide) rfl rfl (g := (mkF m 7 #[.val (.ref a1), .val (.ref a2), .val (.ref a3), .val (.ref a4), .val (.ref a5), .unset, .unset, .unset, .unset, .unset] [(.int (5 : Int32)), (.ref a1)])) rfl rfl (hb hby d2_7)
  have Fw3 := Fld.same W3 F_size_a1
  have N3 := Fr.snoc X3 N0 g_a1
  have fq4 := (Exa.wr W3 E_a1)
  have fq5 := (Fld.other W3 F_arcStart_a1 (Or.inr (slot_ne (Or.inr hw18) (Or.inr hw16) (by decide) (t := (.array .int)) (t' := .int) (by decide) (by decide))))
  obtain ⟨T6, h6, X6, e6, W6, st6⟩ := putF X3 hx hZ hown (host := "") (Or.inl hw17) Via.refl e3 fq5 fq4 (Or.inr ⟨hw18, rfl, hnm⟩) hw7 (ty := (.array .int)) (by decide) rfl rfl (g := (mkF m 12 #[.val (.ref a1), .val (.ref a2), .val (.ref a3), .val (.ref a4), .val (.ref a5), .unset, .unset, .unset, .unset, .unset] [(.ref a3), (.ref a1)])) rfl rfl (hb hby d2_12)
  have Fw6 := Fld.same W6 fq5
  have N6 := Fr.snoc X6 N3 g_a1
  have fq7 := (Exa.wr W6 fq4)
  have fq8 := (Fld.other W6 (Fld.other W3 F_arcKeys_a1 (Or.inr (slot_ne (Or.inr hw20) (Or.inr hw16) (by decide) (t := (.array .int)) (t' := .int) (by decide) (by decide)))) (Or.inr (slot_ne (Or.inr hw20) (Or.inr hw18) (by decide) (t := (.array .int)) (t' := (.array .int)) (by decide) (by decide))))
  obtain ⟨T9, h9, X9, e9, W9, st9⟩ := putF X6 hx hZ hown (host := "") (Or.inl hw19) Via.refl e6 fq8 fq7 (Or.inr ⟨hw20, rfl, hnm⟩) hw7 (ty := (.array .int)) (by decide) rfl rfl (g := (mkF m 17 #[.val (.ref a1), .val (.ref a2), .val (.ref a3), .val (.ref a4), .val (.ref a5), .unset, .unset, .unset, .unset, .unset] [(.ref a4), (.ref a1)])) rfl rfl (hb hby d2_17)
  have Fw9 := Fld.same W9 fq8
  have N9 := Fr.snoc X9 N6 g_a1
  have fq10 := (Exa.wr W9 fq7)
  have fq11 := (Fld.other W9 (Fld.other W6 (Fld.other W3 F_arcNodes_a1 (Or.inr (slot_ne (Or.inr hw22) (Or.inr hw16) (by decide) (t := (.array .int)) (t' := .int) (by decide) (by decide)))) (Or.inr (slot_ne (Or.inr hw22) (Or.inr hw18) (by decide) (t := (.array .int)) (t' := (.array .int)) (by decide) (by decide)))) (Or.inr (slot_ne (Or.inr hw22) (Or.inr hw20) (by decide) (t := (.array .int)) (t' := (.array .int)) (by decide) (by decide))))
  obtain ⟨T12, h12, X12, e12, W12, st12⟩ := putF X9 hx hZ hown (host := "") (Or.inl hw21) Via.refl e9 fq11 fq10 (Or.inr ⟨hw22, rfl, hnm⟩) hw7 (ty := (.array .int)) (by decide) rfl rfl (g := (mkF m 23 #[.val (.ref a1), .val (.ref a2), .val (.ref a3), .val (.ref a4), .val (.ref a5), .unset, .unset, .unset, .unset, .unset] [(.ref a5), (.ref a1)])) rfl rfl (hb hby d2_23)
  have Fw12 := Fld.same W12 fq11
  have N12 := Fr.snoc X12 N9 g_a1
  have pre13 : ∀ t, Steps p.tables e below (T12.setTop (mkF m 26 #[.val (.ref a1), .val (.ref a2), .val (.ref a3), .val (.ref a4), .val (.ref a5), .unset, .unset, .unset, .unset, .unset] [])) t → Steps p.tables e below (s₁.setTop (entryFrame m #[(.ref a1), (.ref a2), (.ref a3), (.ref a4), (.ref a5)] 10)) t := fun t kt => by
    refine pre0 t ?_
    show Steps p.tables e below (s₁.setTop (mkF m 0 #[.val (.ref a1), .val (.ref a2), .val (.ref a3), .val (.ref a4), .val (.ref a5), .unset, .unset, .unset, .unset, .unset] [])) _
    refine XS.aloadN X0.here hx rfl (hb hby d2_0) rfl rfl ?_
    show Steps p.tables e below (s₁.setTop (mkF m 1 #[.val (.ref a1), .val (.ref a2), .val (.ref a3), .val (.ref a4), .val (.ref a5), .unset, .unset, .unset, .unset, .unset] [(.ref a1)])) _
    refine st1 _ ?_
    show Steps p.tables e below (T1.setTop (mkF m 4 #[.val (.ref a1), .val (.ref a2), .val (.ref a3), .val (.ref a4), .val (.ref a5), .unset, .unset, .unset, .unset, .unset] [])) _
    refine XS.aloadN X1.here hx rfl (hb hby d2_4) rfl rfl ?_
    show Steps p.tables e below (T1.setTop (mkF m 5 #[.val (.ref a1), .val (.ref a2), .val (.ref a3), .val (.ref a4), .val (.ref a5), .unset, .unset, .unset, .unset, .unset] [(.ref a1)])) _
    refine XS.aloadN X1.here hx rfl (hb hby d2_5) rfl rfl ?_
    show Steps p.tables e below (T1.setTop (mkF m 6 #[.val (.ref a1), .val (.ref a2), .val (.ref a3), .val (.ref a4), .val (.ref a5), .unset, .unset, .unset, .unset, .unset] [(.ref a2), (.ref a1)])) _
    refine X1.arraylength hx (by rw [e1]; exact Ar2.1) (State.isArrayOf_alike hZ.alike Ar2.2.1) (g := (mkF m 6 #[.val (.ref a1), .val (.ref a2), .val (.ref a3), .val (.ref a4), .val (.ref a5), .unset, .unset, .unset, .unset, .unset] [(.ref a2), (.ref a1)])) rfl rfl (hb hby d2_6) _ ?_
    rw [len_of S2 M2]
    show Steps p.tables e below (T1.setTop (mkF m 7 #[.val (.ref a1), .val (.ref a2), .val (.ref a3), .val (.ref a4), .val (.ref a5), .unset, .unset, .unset, .unset, .unset] [(.int (5 : Int32)), (.ref a1)])) _
    refine st3 _ ?_
    show Steps p.tables e below (T3.setTop (mkF m 10 #[.val (.ref a1), .val (.ref a2), .val (.ref a3), .val (.ref a4), .val (.ref a5), .unset, .unset, .unset, .unset, .unset] [])) _
    refine XS.aloadN X3.here hx rfl (hb hby d2_10) rfl rfl ?_
    show Steps p.tables e below (T3.setTop (mkF m 11 #[.val (.ref a1), .val (.ref a2), .val (.ref a3), .val (.ref a4), .val (.ref a5), .unset, .unset, .unset, .unset, .unset] [(.ref a1)])) _
    refine XS.aloadN X3.here hx rfl (hb hby d2_11) rfl rfl ?_
    show Steps p.tables e below (T3.setTop (mkF m 12 #[.val (.ref a1), .val (.ref a2), .val (.ref a3), .val (.ref a4), .val (.ref a5), .unset, .unset, .unset, .unset, .unset] [(.ref a3), (.ref a1)])) _
    refine st6 _ ?_
    show Steps p.tables e below (T6.setTop (mkF m 15 #[.val (.ref a1), .val (.ref a2), .val (.ref a3), .val (.ref a4), .val (.ref a5), .unset, .unset, .unset, .unset, .unset] [])) _
    refine XS.aloadN X6.here hx rfl (hb hby d2_15) rfl rfl ?_
    show Steps p.tables e below (T6.setTop (mkF m 16 #[.val (.ref a1), .val (.ref a2), .val (.ref a3), .val (.ref a4), .val (.ref a5), .unset, .unset, .unset, .unset, .unset] [(.ref a1)])) _
    refine XS.aloadN X6.here hx rfl (hb hby d2_16) rfl rfl ?_
    show Steps p.tables e below (T6.setTop (mkF m 17 #[.val (.ref a1), .val (.ref a2), .val (.ref a3), .val (.ref a4), .val (.ref a5), .unset, .unset, .unset, .unset, .unset] [(.ref a4), (.ref a1)])) _
    refine st9 _ ?_
    show Steps p.tables e below (T9.setTop (mkF m 20 #[.val (.ref a1), .val (.ref a2), .val (.ref a3), .val (.ref a4), .val (.ref a5), .unset, .unset, .unset, .unset, .unset] [])) _
    refine XS.aloadN X9.here hx rfl (hb hby d2_20) rfl rfl ?_
    show Steps p.tables e below (T9.setTop (mkF m 21 #[.val (.ref a1), .val (.ref a2), .val (.ref a3), .val (.ref a4), .val (.ref a5), .unset, .unset, .unset, .unset, .unset] [(.ref a1)])) _
    refine XS.aload X9.here hx rfl (hb hby d2_21) rfl rfl ?_
    show Steps p.tables e below (T9.setTop (mkF m 23 #[.val (.ref a1), .val (.ref a2), .val (.ref a3), .val (.ref a4), .val (.ref a5), .unset, .unset, .unset, .unset, .unset] [(.ref a5), (.ref a1)])) _
    refine st12 _ ?_
    exact kt
  have fq14 := (Exa.wr W12 fq10)
  have fq15 := (Fld.other W12 (Fld.other W9 (Fld.other W6 (Fld.other W3 F_queueHead_a1 (Or.inr (slot_ne (Or.inl hw65) (Or.inr hw16) (by decide) (t := .int) (t' := .int) (by decide) (by decide)))) (Or.inr (slot_ne (Or.inl hw65) (Or.inr hw18) (by decide) (t := .int) (t' := (.array .int)) (by decide) (by decide)))) (Or.inr (slot_ne (Or.inl hw65) (Or.inr hw20) (by decide) (t := .int) (t' := (.array .int)) (by decide) (by decide)))) (Or.inr (slot_ne (Or.inl hw65) (Or.inr hw22) (by decide) (t := .int) (t' := (.array .int)) (by decide) (by decide))))
  have fq16 := (Fld.other W12 (Fld.other W9 (Fld.other W6 (Fld.other W3 F_queueSize_a1 (Or.inr (slot_ne (Or.inl hw67) (Or.inr hw16) (by decide) (t := .int) (t' := .int) (by decide) (by decide)))) (Or.inr (slot_ne (Or.inl hw67) (Or.inr hw18) (by decide) (t := .int) (t' := (.array .int)) (by decide) (by decide)))) (Or.inr (slot_ne (Or.inl hw67) (Or.inr hw20) (by decide) (t := .int) (t' := (.array .int)) (by decide) (by decide)))) (Or.inr (slot_ne (Or.inl hw67) (Or.inr hw22) (by decide) (t := .int) (t' := (.array .int)) (by decide) (by decide))))
  have fq17 := (Fld.other W12 (Fld.other W9 (Fld.other W6 (Fld.other W3 F_cells_a1 (Or.inr (slot_ne (Or.inl hw59) (Or.inr hw16) (by decide) (t := .int) (t' := .int) (by decide) (by decide)))) (Or.inr (slot_ne (Or.inl hw59) (Or.inr hw18) (by decide) (t := .int) (t' := (.array .int)) (by decide) (by decide)))) (Or.inr (slot_ne (Or.inl hw59) (Or.inr hw20) (by decide) (t := .int) (t' := (.array .int)) (by decide) (by decide)))) (Or.inr (slot_ne (Or.inl hw59) (Or.inr hw22) (by decide) (t := .int) (t' := (.array .int)) (by decide) (by decide))))
  have fq18 := (Fld.other W12 (Fld.other W9 (Fld.other W6 Fw3 (Or.inr (slot_ne (Or.inr hw16) (Or.inr hw18) (by decide) (t := .int) (t' := (.array .int)) (by decide) (by decide)))) (Or.inr (slot_ne (Or.inr hw16) (Or.inr hw20) (by decide) (t := .int) (t' := (.array .int)) (by decide) (by decide)))) (Or.inr (slot_ne (Or.inr hw16) (Or.inr hw22) (by decide) (t := .int) (t' := (.array .int)) (by decide) (by decide))))
  have fq19 := (Fld.other W12 (Fld.other W9 (Fld.other W6 (Fld.other W3 F_order_a1 (Or.inr (slot_ne (Or.inr hw24) (Or.inr hw16) (by decide) (t := (.array .int)) (t' := .int) (by decide) (by decide)))) (Or.inr (slot_ne (Or.inr hw24) (Or.inr hw18) (by decide) (t := (.array .int)) (t' := (.array .int)) (by decide) (by decide)))) (Or.inr (slot_ne (Or.inr hw24) (Or.inr hw20) (by decide) (t := (.array .int)) (t' := (.array .int)) (by decide) (by decide)))) (Or.inr (slot_ne (Or.inr hw24) (Or.inr hw22) (by decide) (t := (.array .int)) (t' := (.array .int)) (by decide) (by decide))))
  have fq20 := (Fld.other W12 (Fld.other W9 (Fld.other W6 (Fld.other W3 F_position_a1 (Or.inr (slot_ne (Or.inr hw26) (Or.inr hw16) (by decide) (t := (.array .int)) (t' := .int) (by decide) (by decide)))) (Or.inr (slot_ne (Or.inr hw26) (Or.inr hw18) (by decide) (t := (.array .int)) (t' := (.array .int)) (by decide) (by decide)))) (Or.inr (slot_ne (Or.inr hw26) (Or.inr hw20) (by decide) (t := (.array .int)) (t' := (.array .int)) (by decide) (by decide)))) (Or.inr (slot_ne (Or.inr hw26) (Or.inr hw22) (by decide) (t := (.array .int)) (t' := (.array .int)) (by decide) (by decide))))
  have fq21 := (Fld.other W12 (Fld.other W9 (Fld.other W6 (Fld.other W3 F_cellOf_a1 (Or.inr (slot_ne (Or.inr hw28) (Or.inr hw16) (by decide) (t := (.array .int)) (t' := .int) (by decide) (by decide)))) (Or.inr (slot_ne (Or.inr hw28) (Or.inr hw18) (by decide) (t := (.array .int)) (t' := (.array .int)) (by decide) (by decide)))) (Or.inr (slot_ne (Or.inr hw28) (Or.inr hw20) (by decide) (t := (.array .int)) (t' := (.array .int)) (by decide) (by decide)))) (Or.inr (slot_ne (Or.inr hw28) (Or.inr hw22) (by decide) (t := (.array .int)) (t' := (.array .int)) (by decide) (by decide))))
  have fq22 := (Fld.other W12 (Fld.other W9 (Fld.other W6 (Fld.other W3 F_cellEnd_a1 (Or.inr (slot_ne (Or.inr hw30) (Or.inr hw16) (by decide) (t := (.array .int)) (t' := .int) (by decide) (by decide)))) (Or.inr (slot_ne (Or.inr hw30) (Or.inr hw18) (by decide) (t := (.array .int)) (t' := (.array .int)) (by decide) (by decide)))) (Or.inr (slot_ne (Or.inr hw30) (Or.inr hw20) (by decide) (t := (.array .int)) (t' := (.array .int)) (by decide) (by decide)))) (Or.inr (slot_ne (Or.inr hw30) (Or.inr hw22) (by decide) (t := (.array .int)) (t' := (.array .int)) (by decide) (by decide))))
  have fq23 := (Fld.other W12 (Fld.other W9 (Fld.other W6 (Fld.other W3 F_queue_a1 (Or.inr (slot_ne (Or.inr hw32) (Or.inr hw16) (by decide) (t := (.array .int)) (t' := .int) (by decide) (by decide)))) (Or.inr (slot_ne (Or.inr hw32) (Or.inr hw18) (by decide) (t := (.array .int)) (t' := (.array .int)) (by decide) (by decide)))) (Or.inr (slot_ne (Or.inr hw32) (Or.inr hw20) (by decide) (t := (.array .int)) (t' := (.array .int)) (by decide) (by decide)))) (Or.inr (slot_ne (Or.inr hw32) (Or.inr hw22) (by decide) (t := (.array .int)) (t' := (.array .int)) (by decide) (by decide))))
  have fq24 := (Fld.other W12 (Fld.other W9 (Fld.other W6 (Fld.other W3 F_queued_a1 (Or.inr (slot_ne (Or.inr hw35) (Or.inr hw16) (by decide) (t := (.array .boolean)) (t' := .int) (by decide) (by decide)))) (Or.inr (slot_ne (Or.inr hw35) (Or.inr hw18) (by decide) (t := (.array .boolean)) (t' := (.array .int)) (by decide) (by decide)))) (Or.inr (slot_ne (Or.inr hw35) (Or.inr hw20) (by decide) (t := (.array .boolean)) (t' := (.array .int)) (by decide) (by decide)))) (Or.inr (slot_ne (Or.inr hw35) (Or.inr hw22) (by decide) (t := (.array .boolean)) (t' := (.array .int)) (by decide) (by decide))))
  have fq25 := (Fld.other W12 (Fld.other W9 (Fld.other W6 (Fld.other W3 F_trail_a1 (Or.inr (slot_ne (Or.inr hw37) (Or.inr hw16) (by decide) (t := (.array .int)) (t' := .int) (by decide) (by decide)))) (Or.inr (slot_ne (Or.inr hw37) (Or.inr hw18) (by decide) (t := (.array .int)) (t' := (.array .int)) (by decide) (by decide)))) (Or.inr (slot_ne (Or.inr hw37) (Or.inr hw20) (by decide) (t := (.array .int)) (t' := (.array .int)) (by decide) (by decide)))) (Or.inr (slot_ne (Or.inr hw37) (Or.inr hw22) (by decide) (t := (.array .int)) (t' := (.array .int)) (by decide) (by decide))))
  have fq26 := (Fld.other W12 (Fld.other W9 (Fld.other W6 (Fld.other W3 F_trailParent_a1 (Or.inr (slot_ne (Or.inr hw39) (Or.inr hw16) (by decide) (t := (.array .int)) (t' := .int) (by decide) (by decide)))) (Or.inr (slot_ne (Or.inr hw39) (Or.inr hw18) (by decide) (t := (.array .int)) (t' := (.array .int)) (by decide) (by decide)))) (Or.inr (slot_ne (Or.inr hw39) (Or.inr hw20) (by decide) (t := (.array .int)) (t' := (.array .int)) (by decide) (by decide)))) (Or.inr (slot_ne (Or.inr hw39) (Or.inr hw22) (by decide) (t := (.array .int)) (t' := (.array .int)) (by decide) (by decide))))
  have fq27 := (Fld.other W12 (Fld.other W9 (Fld.other W6 (Fld.other W3 F_reached_a1 (Or.inr (slot_ne (Or.inr hw41) (Or.inr hw16) (by decide) (t := (.array .int)) (t' := .int) (by decide) (by decide)))) (Or.inr (slot_ne (Or.inr hw41) (Or.inr hw18) (by decide) (t := (.array .int)) (t' := (.array .int)) (by decide) (by decide)))) (Or.inr (slot_ne (Or.inr hw41) (Or.inr hw20) (by decide) (t := (.array .int)) (t' := (.array .int)) (by decide) (by decide)))) (Or.inr (slot_ne (Or.inr hw41) (Or.inr hw22) (by decide) (t := (.array .int)) (t' := (.array .int)) (by decide) (by decide))))
  have fq28 := (Fld.other W12 (Fld.other W9 (Fld.other W6 (Fld.other W3 F_hitKeys_a1 (Or.inr (slot_ne (Or.inr hw43) (Or.inr hw16) (by decide) (t := (.array .int)) (t' := .int) (by decide) (by decide)))) (Or.inr (slot_ne (Or.inr hw43) (Or.inr hw18) (by decide) (t := (.array .int)) (t' := (.array .int)) (by decide) (by decide)))) (Or.inr (slot_ne (Or.inr hw43) (Or.inr hw20) (by decide) (t := (.array .int)) (t' := (.array .int)) (by decide) (by decide)))) (Or.inr (slot_ne (Or.inr hw43) (Or.inr hw22) (by decide) (t := (.array .int)) (t' := (.array .int)) (by decide) (by decide))))
  have fq29 := (Fld.other W12 (Fld.other W9 (Fld.other W6 (Fld.other W3 F_keysStart_a1 (Or.inr (slot_ne (Or.inr hw45) (Or.inr hw16) (by decide) (t := (.array .int)) (t' := .int) (by decide) (by decide)))) (Or.inr (slot_ne (Or.inr hw45) (Or.inr hw18) (by decide) (t := (.array .int)) (t' := (.array .int)) (by decide) (by decide)))) (Or.inr (slot_ne (Or.inr hw45) (Or.inr hw20) (by decide) (t := (.array .int)) (t' := (.array .int)) (by decide) (by decide)))) (Or.inr (slot_ne (Or.inr hw45) (Or.inr hw22) (by decide) (t := (.array .int)) (t' := (.array .int)) (by decide) (by decide))))
  have fq30 := (Fld.other W12 (Fld.other W9 (Fld.other W6 (Fld.other W3 F_keysEnd_a1 (Or.inr (slot_ne (Or.inr hw47) (Or.inr hw16) (by decide) (t := (.array .int)) (t' := .int) (by decide) (by decide)))) (Or.inr (slot_ne (Or.inr hw47) (Or.inr hw18) (by decide) (t := (.array .int)) (t' := (.array .int)) (by decide) (by decide)))) (Or.inr (slot_ne (Or.inr hw47) (Or.inr hw20) (by decide) (t := (.array .int)) (t' := (.array .int)) (by decide) (by decide)))) (Or.inr (slot_ne (Or.inr hw47) (Or.inr hw22) (by decide) (t := (.array .int)) (t' := (.array .int)) (by decide) (by decide))))
  have fq31 := (Fld.other W12 (Fld.other W9 (Fld.other W6 (Fld.other W3 F_cellsReached_a1 (Or.inr (slot_ne (Or.inr hw49) (Or.inr hw16) (by decide) (t := (.array .int)) (t' := .int) (by decide) (by decide)))) (Or.inr (slot_ne (Or.inr hw49) (Or.inr hw18) (by decide) (t := (.array .int)) (t' := (.array .int)) (by decide) (by decide)))) (Or.inr (slot_ne (Or.inr hw49) (Or.inr hw20) (by decide) (t := (.array .int)) (t' := (.array .int)) (by decide) (by decide)))) (Or.inr (slot_ne (Or.inr hw49) (Or.inr hw22) (by decide) (t := (.array .int)) (t' := (.array .int)) (by decide) (by decide))))
  have fq32 := (Fld.other W12 (Fld.other W9 (Fld.other W6 (Fld.other W3 F_reachedInCell_a1 (Or.inr (slot_ne (Or.inr hw51) (Or.inr hw16) (by decide) (t := (.array .int)) (t' := .int) (by decide) (by decide)))) (Or.inr (slot_ne (Or.inr hw51) (Or.inr hw18) (by decide) (t := (.array .int)) (t' := (.array .int)) (by decide) (by decide)))) (Or.inr (slot_ne (Or.inr hw51) (Or.inr hw20) (by decide) (t := (.array .int)) (t' := (.array .int)) (by decide) (by decide)))) (Or.inr (slot_ne (Or.inr hw51) (Or.inr hw22) (by decide) (t := (.array .int)) (t' := (.array .int)) (by decide) (by decide))))
  have fq33 := (Fld.other W12 (Fld.other W9 (Fld.other W6 (Fld.other W3 F_byCell_a1 (Or.inr (slot_ne (Or.inr hw53) (Or.inr hw16) (by decide) (t := (.array .int)) (t' := .int) (by decide) (by decide)))) (Or.inr (slot_ne (Or.inr hw53) (Or.inr hw18) (by decide) (t := (.array .int)) (t' := (.array .int)) (by decide) (by decide)))) (Or.inr (slot_ne (Or.inr hw53) (Or.inr hw20) (by decide) (t := (.array .int)) (t' := (.array .int)) (by decide) (by decide)))) (Or.inr (slot_ne (Or.inr hw53) (Or.inr hw22) (by decide) (t := (.array .int)) (t' := (.array .int)) (by decide) (by decide))))
  have fq34 := (Fld.other W12 (Fld.other W9 (Fld.other W6 (Fld.other W3 F_mergeBuffer_a1 (Or.inr (slot_ne (Or.inr hw55) (Or.inr hw16) (by decide) (t := (.array .int)) (t' := .int) (by decide) (by decide)))) (Or.inr (slot_ne (Or.inr hw55) (Or.inr hw18) (by decide) (t := (.array .int)) (t' := (.array .int)) (by decide) (by decide)))) (Or.inr (slot_ne (Or.inr hw55) (Or.inr hw20) (by decide) (t := (.array .int)) (t' := (.array .int)) (by decide) (by decide)))) (Or.inr (slot_ne (Or.inr hw55) (Or.inr hw22) (by decide) (t := (.array .int)) (t' := (.array .int)) (by decide) (by decide))))
  have fq35 := (Fld.other W12 (Fld.other W9 (Fld.other W6 (Fld.other W3 F_groupStarts_a1 (Or.inr (slot_ne (Or.inr hw57) (Or.inr hw16) (by decide) (t := (.array .int)) (t' := .int) (by decide) (by decide)))) (Or.inr (slot_ne (Or.inr hw57) (Or.inr hw18) (by decide) (t := (.array .int)) (t' := (.array .int)) (by decide) (by decide)))) (Or.inr (slot_ne (Or.inr hw57) (Or.inr hw20) (by decide) (t := (.array .int)) (t' := (.array .int)) (by decide) (by decide)))) (Or.inr (slot_ne (Or.inr hw57) (Or.inr hw22) (by decide) (t := (.array .int)) (t' := (.array .int)) (by decide) (by decide))))
  have fq36 := ((((V_a2.other W3 ne_a2_a1).other W6 ne_a2_a1).other W9 ne_a2_a1).other W12 ne_a2_a1)
  have fq37 := ((((V_a4.other W3 ne_a4_a1).other W6 ne_a4_a1).other W9 ne_a4_a1).other W12 ne_a4_a1)
  have z38 : n0 ≤ h12.size := (Nat.le_trans (Nat.le_trans (Nat.le_trans (Nat.le_trans Z0 (Keep.of_wr W3).1) (Keep.of_wr W6).1) (Keep.of_wr W9).1) (Keep.of_wr W12).1)
  obtain ⟨Lc39, Xc39, Nc39⟩ : ∃ L, Stand p l e ({ frames := 1, cells := 18, slots := 86, locals := 13 } : Room) s m #[(.ref a1), (.ref a2), (.ref a3), (.ref a4), (.ref a5)] below meth c T12 L 0 0 ∧ Fr n0 L := ⟨_, X12, N12⟩
  clear X1 e1 st1 Ar2 aq2 S2 M2 H2 G2 X3 e3 W3 st3 Fw3 N3 fq4 fq5 X6 e6 W6 st6 Fw6 N6 fq7 fq8 X9 e9 W9 st9 Fw9 N9 fq10 fq11 X12 W12 st12 Fw12 N12
  try clear h9
  try clear T9
  try clear h6
  try clear T6
  try clear h3
  try clear T3
  try clear cl2
  try clear T1
  as_aux_lemma =>
    obtain ⟨T40, X40, e40, st40⟩ := getF Xc39 hx hZ hown (host := "") (Or.inl hw15) Via.refl e12 fq18 (g := (mkF m 28 #[.val (.ref a1), .val (.ref a2), .val (.ref a3), .val (.ref a4), .val (.ref a5), .unset, .unset, .unset, .unset, .unset] [(.ref a1), (.ref a1)])) rfl rfl (hb hby d2_28)
    obtain ⟨b41, g41⟩ : ∃ z, z = h12.size := ⟨_, rfl⟩
    obtain ⟨T41, h41, k41, X41, e41, E41, A41, st41⟩ := newP X40 hx hZ (hw _ (List.mem_of_getElem? (i := 0) rfl)) e40 (g := (mkF m 31 #[.val (.ref a1), .val (.ref a2), .val (.ref a3), .val (.ref a4), .val (.ref a5), .unset, .unset, .unset, .unset, .unset] [(.int (5 : Int32)), (.ref a1)])) rfl (hb hby d2_31) rfl (by decide) (cap := 5) (by decide) (by decide) (by decide) (by decide)
    rw [← g41] at A41 st41
    have g_b41 : n0 ≤ b41 := Nat.le_trans z38 (Nat.le_of_eq g41.symm)
    have ne_a1_b41 : a1 ≠ b41 := Nat.ne_of_lt (Nat.lt_of_lt_of_le fq14.lt (Nat.le_of_eq g41.symm))
    have ne_a2_b41 : a2 ≠ b41 := Nat.ne_of_lt (Nat.lt_of_lt_of_le fq36.lt (Nat.le_of_eq g41.symm))
    have ne_a4_b41 : a4 ≠ b41 := Nat.ne_of_lt (Nat.lt_of_lt_of_le fq37.lt (Nat.le_of_eq g41.symm))
    have V41 : Arv Z h41 b41 k41 .int (5 : Int32) [(.int (0 : Int32)), (.int (0 : Int32)), (.int (0 : Int32)), (.int (0 : Int32)), (.int (0 : Int32))] (.int (0 : Int32)) := (Arv.new A41 (by decide)).pad (pad_rep [] (.int (0 : Int32)) 5)
    have fq42 := (Exa.ext E41 fq14)
    have fq43 := (Fld.ext E41 fq19)
    obtain ⟨T44, h44, X44, e44, W44, st44⟩ := putF X41 hx hZ hown (host := "") (Or.inl hw23) Via.refl e41 fq43 fq42 (Or.inr ⟨hw24, rfl, hnm⟩) hw7 (ty := (.array .int)) (by decide) rfl rfl (g := (mkF m 33 #[.val (.ref a1), .val (.ref a2), .val (.ref a3), .val (.ref a4), .val (.ref a5), .unset, .unset, .unset, .unset, .unset] [(.ref b41), (.ref a1)])) rfl rfl (hb hby d2_33)
    have Fw44 := Fld.same W44 fq43
    have N44 := Fr.snoc X44 Nc39 g_a1
    have fq45 := (Fld.other W44 (Fld.ext E41 fq18) (Or.inr (slot_ne (Or.inr hw16) (Or.inr hw24) (by decide) (t := .int) (t' := (.array .int)) (by decide) (by decide))))
    obtain ⟨T46, X46, e46, st46⟩ := getF X44 hx hZ hown (host := "") (Or.inl hw15) Via.refl e44 fq45 (g := (mkF m 38 #[.val (.ref a1), .val (.ref a2), .val (.ref a3), .val (.ref a4), .val (.ref a5), .unset, .unset, .unset, .unset, .unset] [(.ref a1), (.ref a1)])) rfl rfl (hb hby d2_38)
    have fq48 := (Exa.wr W44 fq42)
    have fq49 := ((fq36.ext E41).other W44 ne_a2_a1)
    have fq50 := ((fq37.ext E41).other W44 ne_a4_a1)
    have fq51 := (V41.other W44 (Ne.symm ne_a1_b41))
    have z52 : n0 ≤ h44.size := (Nat.le_trans (Nat.le_trans z38 E41.1) (Keep.of_wr W44).1)
    obtain ⟨b47, g47⟩ : ∃ z, z = h44.size := ⟨_, rfl⟩
    obtain ⟨T47, h47, k47, X47, e47, E47, A47, st47⟩ := newP X46 hx hZ (hw _ (List.mem_of_getElem? (i := 0) rfl)) e46 (g := (mkF m 41 #[.val (.ref a1), .val (.ref a2), .val (.ref a3), .val (.ref a4), .val (.ref a5), .unset, .unset, .unset, .unset, .unset] [(.int (5 : Int32)), (.ref a1)])) rfl (hb hby d2_41) rfl (by decide) (cap := 5) (by decide) (by decide) (by decide) (by decide)
    rw [← g47] at A47 st47
    have g_b47 : n0 ≤ b47 := Nat.le_trans z52 (Nat.le_of_eq g47.symm)
    have ne_a1_b47 : a1 ≠ b47 := Nat.ne_of_lt (Nat.lt_of_lt_of_le fq48.lt (Nat.le_of_eq g47.symm))
    have ne_a2_b47 : a2 ≠ b47 := Nat.ne_of_lt (Nat.lt_of_lt_of_le fq49.lt (Nat.le_of_eq g47.symm))
    have ne_a4_b47 : a4 ≠ b47 := Nat.ne_of_lt (Nat.lt_of_lt_of_le fq50.lt (Nat.le_of_eq g47.symm))
    have ne_b41_b47 : b41 ≠ b47 := Nat.ne_of_lt (Nat.lt_of_lt_of_le fq51.lt (Nat.le_of_eq g47.symm))
    have V47 : Arv Z h47 b47 k47 .int (5 : Int32) [(.int (0 : Int32)), (.int (0 : Int32)), (.int (0 : Int32)), (.int (0 : Int32)), (.int (0 : Int32))] (.int (0 : Int32)) := (Arv.new A47 (by decide)).pad (pad_rep [] (.int (0 : Int32)) 5)
    have fq53 := (Exa.ext E47 fq48)
    have fq54 := (Fld.ext E47 (Fld.other W44 (Fld.ext E41 fq20) (Or.inr (slot_ne (Or.inr hw26) (Or.inr hw24) (by decide) (t := (.array .int)) (t' := (.array .int)) (by decide) (by decide)))))
    obtain ⟨T55, h55, X55, e55, W55, st55⟩ := putF X47 hx hZ hown (host := "") (Or.inl hw25) Via.refl e47 fq54 fq53 (Or.inr ⟨hw26, rfl, hnm⟩) hw7 (ty := (.array .int)) (by decide) rfl rfl (g := (mkF m 43 #[.val (.ref a1), .val (.ref a2), .val (.ref a3), .val (.ref a4), .val (.ref a5), .unset, .unset, .unset, .unset, .unset] [(.ref b47), (.ref a1)])) rfl rfl (hb hby d2_43)
    have Fw55 := Fld.same W55 fq54
    have N55 := Fr.snoc X55 N44 g_a1
    have pre56 : ∀ t, Steps p.tables e below (T55.setTop (mkF m 46 #[.val (.ref a1), .val (.ref a2), .val (.ref a3), .val (.ref a4), .val (.ref a5), .unset, .unset, .unset, .unset, .unset] [])) t → Steps p.tables e below (s₁.setTop (entryFrame m #[(.ref a1), (.ref a2), (.ref a3), (.ref a4), (.ref a5)] 10)) t := fun t kt => by
      refine pre13 t ?_
      show Steps p.tables e below (T12.setTop (mkF m 26 #[.val (.ref a1), .val (.ref a2), .val (.ref a3), .val (.ref a4), .val (.ref a5), .unset, .unset, .unset, .unset, .unset] [])) _
      refine XS.aloadN Xc39.here hx rfl (hb hby d2_26) rfl rfl ?_
      show Steps p.tables e below (T12.setTop (mkF m 27 #[.val (.ref a1), .val (.ref a2), .val (.ref a3), .val (.ref a4), .val (.ref a5), .unset, .unset, .unset, .unset, .unset] [(.ref a1)])) _
      refine XS.aloadN Xc39.here hx rfl (hb hby d2_27) rfl rfl ?_
      show Steps p.tables e below (T12.setTop (mkF m 28 #[.val (.ref a1), .val (.ref a2), .val (.ref a3), .val (.ref a4), .val (.ref a5), .unset, .unset, .unset, .unset, .unset] [(.ref a1), (.ref a1)])) _
      refine st40 _ ?_
      show Steps p.tables e below (T40.setTop (mkF m 31 #[.val (.ref a1), .val (.ref a2), .val (.ref a3), .val (.ref a4), .val (.ref a5), .unset, .unset, .unset, .unset, .unset] [(.int (5 : Int32)), (.ref a1)])) _
      refine st41 _ ?_
      show Steps p.tables e below (T41.setTop (mkF m 33 #[.val (.ref a1), .val (.ref a2), .val (.ref a3), .val (.ref a4), .val (.ref a5), .unset, .unset, .unset, .unset, .unset] [(.ref b41), (.ref a1)])) _
      refine st44 _ ?_
      show Steps p.tables e below (T44.setTop (mkF m 36 #[.val (.ref a1), .val (.ref a2), .val (.ref a3), .val (.ref a4), .val (.ref a5), .unset, .unset, .unset, .unset, .unset] [])) _
      refine XS.aloadN X44.here hx rfl (hb hby d2_36) rfl rfl ?_
      show Steps p.tables e below (T44.setTop (mkF m 37 #[.val (.ref a1), .val (.ref a2), .val (.ref a3), .val (.ref a4), .val (.ref a5), .unset, .unset, .unset, .unset, .unset] [(.ref a1)])) _
      refine XS.aloadN X44.here hx rfl (hb hby d2_37) rfl rfl ?_
      show Steps p.tables e below (T44.setTop (mkF m 38 #[.val (.ref a1), .val (.ref a2), .val (.ref a3), .val (.ref a4), .val (.ref a5), .unset, .unset, .unset, .unset, .unset] [(.ref a1), (.ref a1)])) _
      refine st46 _ ?_
      show Steps p.tables e below (T46.setTop (mkF m 41 #[.val (.ref a1), .val (.ref a2), .val (.ref a3), .val (.ref a4), .val (.ref a5), .unset, .unset, .unset, .unset, .unset] [(.int (5 : Int32)), (.ref a1)])) _
      refine st47 _ ?_
      show Steps p.tables e below (T47.setTop (mkF m 43 #[.val (.ref a1), .val (.ref a2), .val (.ref a3), .val (.ref a4), .val (.ref a5), .unset, .unset, .unset, .unset, .unset] [(.ref b47), (.ref a1)])) _
      refine st55 _ ?_
      exact kt
    have fq57 := (Exa.wr W55 fq53)
    have fq58 := (Fld.other W55 (Fld.ext E47 (Fld.other W44 (Fld.ext E41 fq15) (Or.inr (slot_ne (Or.inl hw65) (Or.inr hw24) (by decide) (t := .int) (t' := (.array .int)) (by decide) (by decide))))) (Or.inr (slot_ne (Or.inl hw65) (Or.inr hw26) (by decide) (t := .int) (t' := (.array .int)) (by decide) (by decide))))
    have fq59 := (Fld.other W55 (Fld.ext E47 (Fld.other W44 (Fld.ext E41 fq16) (Or.inr (slot_ne (Or.inl hw67) (Or.inr hw24) (by decide) (t := .int) (t' := (.array .int)) (by decide) (by decide))))) (Or.inr (slot_ne (Or.inl hw67) (Or.inr hw26) (by decide) (t := .int) (t' := (.array .int)) (by decide) (by decide))))
    have fq60 := (Fld.other W55 (Fld.ext E47 (Fld.other W44 (Fld.ext E41 fq17) (Or.inr (slot_ne (Or.inl hw59) (Or.inr hw24) (by decide) (t := .int) (t' := (.array .int)) (by decide) (by decide))))) (Or.inr (slot_ne (Or.inl hw59) (Or.inr hw26) (by decide) (t := .int) (t' := (.array .int)) (by decide) (by decide))))
    have fq61 := (Fld.other W55 (Fld.ext E47 fq45) (Or.inr (slot_ne (Or.inr hw16) (Or.inr hw26) (by decide) (t := .int) (t' := (.array .int)) (by decide) (by decide))))
    have fq62 := (Fld.other W55 (Fld.ext E47 Fw44) (Or.inr (slot_ne (Or.inr hw24) (Or.inr hw26) (by decide) (t := (.array .int)) (t' := (.array .int)) (by decide) (by decide))))
    have fq63 := (Fld.other W55 (Fld.ext E47 (Fld.other W44 (Fld.ext E41 fq21) (Or.inr (slot_ne (Or.inr hw28) (Or.inr hw24) (by decide) (t := (.array .int)) (t' := (.array .int)) (by decide) (by decide))))) (Or.inr (slot_ne (Or.inr hw28) (Or.inr hw26) (by decide) (t := (.array .int)) (t' := (.array .int)) (by decide) (by decide))))
    have fq64 := (Fld.other W55 (Fld.ext E47 (Fld.other W44 (Fld.ext E41 fq22) (Or.inr (slot_ne (Or.inr hw30) (Or.inr hw24) (by decide) (t := (.array .int)) (t' := (.array .int)) (by decide) (by decide))))) (Or.inr (slot_ne (Or.inr hw30) (Or.inr hw26) (by decide) (t := (.array .int)) (t' := (.array .int)) (by decide) (by decide))))
    have fq65 := (Fld.other W55 (Fld.ext E47 (Fld.other W44 (Fld.ext E41 fq23) (Or.inr (slot_ne (Or.inr hw32) (Or.inr hw24) (by decide) (t := (.array .int)) (t' := (.array .int)) (by decide) (by decide))))) (Or.inr (slot_ne (Or.inr hw32) (Or.inr hw26) (by decide) (t := (.array .int)) (t' := (.array .int)) (by decide) (by decide))))
    have fq66 := (Fld.other W55 (Fld.ext E47 (Fld.other W44 (Fld.ext E41 fq24) (Or.inr (slot_ne (Or.inr hw35) (Or.inr hw24) (by decide) (t := (.array .boolean)) (t' := (.array .int)) (by decide) (by decide))))) (Or.inr (slot_ne (Or.inr hw35) (Or.inr hw26) (by decide) (t := (.array .boolean)) (t' := (.array .int)) (by decide) (by decide))))
    have fq67 := (Fld.other W55 (Fld.ext E47 (Fld.other W44 (Fld.ext E41 fq25) (Or.inr (slot_ne (Or.inr hw37) (Or.inr hw24) (by decide) (t := (.array .int)) (t' := (.array .int)) (by decide) (by decide))))) (Or.inr (slot_ne (Or.inr hw37) (Or.inr hw26) (by decide) (t := (.array .int)) (t' := (.array .int)) (by decide) (by decide))))
    have fq68 := (Fld.other W55 (Fld.ext E47 (Fld.other W44 (Fld.ext E41 fq26) (Or.inr (slot_ne (Or.inr hw39) (Or.inr hw24) (by decide) (t := (.array .int)) (t' := (.array .int)) (by decide) (by decide))))) (Or.inr (slot_ne (Or.inr hw39) (Or.inr hw26) (by decide) (t := (.array .int)) (t' := (.array .int)) (by decide) (by decide))))
    have fq69 := (Fld.other W55 (Fld.ext E47 (Fld.other W44 (Fld.ext E41 fq27) (Or.inr (slot_ne (Or.inr hw41) (Or.inr hw24) (by decide) (t := (.array .int)) (t' := (.array .int)) (by decide) (by decide))))) (Or.inr (slot_ne (Or.inr hw41) (Or.inr hw26) (by decide) (t := (.array .int)) (t' := (.array .int)) (by decide) (by decide))))
    have fq70 := (Fld.other W55 (Fld.ext E47 (Fld.other W44 (Fld.ext E41 fq28) (Or.inr (slot_ne (Or.inr hw43) (Or.inr hw24) (by decide) (t := (.array .int)) (t' := (.array .int)) (by decide) (by decide))))) (Or.inr (slot_ne (Or.inr hw43) (Or.inr hw26) (by decide) (t := (.array .int)) (t' := (.array .int)) (by decide) (by decide))))
    have fq71 := (Fld.other W55 (Fld.ext E47 (Fld.other W44 (Fld.ext E41 fq29) (Or.inr (slot_ne (Or.inr hw45) (Or.inr hw24) (by decide) (t := (.array .int)) (t' := (.array .int)) (by decide) (by decide))))) (Or.inr (slot_ne (Or.inr hw45) (Or.inr hw26) (by decide) (t := (.array .int)) (t' := (.array .int)) (by decide) (by decide))))
    have fq72 := (Fld.other W55 (Fld.ext E47 (Fld.other W44 (Fld.ext E41 fq30) (Or.inr (slot_ne (Or.inr hw47) (Or.inr hw24) (by decide) (t := (.array .int)) (t' := (.array .int)) (by decide) (by decide))))) (Or.inr (slot_ne (Or.inr hw47) (Or.inr hw26) (by decide) (t := (.array .int)) (t' := (.array .int)) (by decide) (by decide))))
    have fq73 := (Fld.other W55 (Fld.ext E47 (Fld.other W44 (Fld.ext E41 fq31) (Or.inr (slot_ne (Or.inr hw49) (Or.inr hw24) (by decide) (t := (.array .int)) (t' := (.array .int)) (by decide) (by decide))))) (Or.inr (slot_ne (Or.inr hw49) (Or.inr hw26) (by decide) (t := (.array .int)) (t' := (.array .int)) (by decide) (by decide))))
    have fq74 := (Fld.other W55 (Fld.ext E47 (Fld.other W44 (Fld.ext E41 fq32) (Or.inr (slot_ne (Or.inr hw51) (Or.inr hw24) (by decide) (t := (.array .int)) (t' := (.array .int)) (by decide) (by decide))))) (Or.inr (slot_ne (Or.inr hw51) (Or.inr hw26) (by decide) (t := (.array .int)) (t' := (.array .int)) (by decide) (by decide))))
    have fq75 := (Fld.other W55 (Fld.ext E47 (Fld.other W44 (Fld.ext E41 fq33) (Or.inr (slot_ne (Or.inr hw53) (Or.inr hw24) (by decide) (t := (.array .int)) (t' := (.array .int)) (by decide) (by decide))))) (Or.inr (slot_ne (Or.inr hw53) (Or.inr hw26) (by decide) (t := (.array .int)) (t' := (.array .int)) (by decide) (by decide))))
    have fq76 := (Fld.other W55 (Fld.ext E47 (Fld.other W44 (Fld.ext E41 fq34) (Or.inr (slot_ne (Or.inr hw55) (Or.inr hw24) (by decide) (t := (.array .int)) (t' := (.array .int)) (by decide) (by decide))))) (Or.inr (slot_ne (Or.inr hw55) (Or.inr hw26) (by decide) (t := (.array .int)) (t' := (.array .int)) (by decide) (by decide))))
    have fq77 := (Fld.other W55 (Fld.ext E47 (Fld.other W44 (Fld.ext E41 fq35) (Or.inr (slot_ne (Or.inr hw57) (Or.inr hw24) (by decide) (t := (.array .int)) (t' := (.array .int)) (by decide) (by decide))))) (Or.inr (slot_ne (Or.inr hw57) (Or.inr hw26) (by decide) (t := (.array .int)) (t' := (.array .int)) (by decide) (by decide))))
    have fq78 := ((fq49.ext E47).other W55 ne_a2_a1)
    have fq79 := ((fq50.ext E47).other W55 ne_a4_a1)
    have fq80 := ((fq51.ext E47).other W55 (Ne.symm ne_a1_b41))
    have fq81 := (V47.other W55 (Ne.symm ne_a1_b47))
    have z82 : n0 ≤ h55.size := (Nat.le_trans (Nat.le_trans z52 E47.1) (Keep.of_wr W55).1)
    obtain ⟨Lc83, Xc83, Nc83⟩ : ∃ L, Stand p l e ({ frames := 1, cells := 18, slots := 86, locals := 13 } : Room) s m #[(.ref a1), (.ref a2), (.ref a3), (.ref a4), (.ref a5)] below meth c T55 L 2 10 ∧ Fr n0 L := ⟨_, X55, N55⟩
    clear e12 pre13 fq14 fq15 fq16 fq17 fq18 fq19 fq20 fq21 fq22 fq23 fq24 fq25 fq26 fq27 fq28 fq29 fq30 fq31 fq32 fq33 fq34 fq35 fq36 fq37 z38 Xc39 Nc39 X40 e40 st40 g41 X41 e41 E41 A41 st41 V41 fq42 fq43 X44 e44 W44 st44 Fw44 N44 fq45 X46 e46 st46 fq48 fq49 fq50 fq51 z52 g47 X47 e47 E47 A47 st47 V47 fq53 fq54 X55 W55 st55 N55
    try clear h47
    try clear T47
    try clear T46
    try clear h44
    try clear T44
    try clear h41
    try clear T41
    try clear T40
    try clear Lc39
    try clear h12
    try clear T12
    as_aux_lemma =>
      obtain ⟨T84, X84, e84, st84⟩ := getF Xc83 hx hZ hown (host := "") (Or.inl hw15) Via.refl e55 fq61 (g := (mkF m 48 #[.val (.ref a1), .val (.ref a2), .val (.ref a3), .val (.ref a4), .val (.ref a5), .unset, .unset, .unset, .unset, .unset] [(.ref a1), (.ref a1)])) rfl rfl (hb hby d2_48)
      obtain ⟨b85, g85⟩ : ∃ z, z = h55.size := ⟨_, rfl⟩
      obtain ⟨T85, h85, k85, X85, e85, E85, A85, st85⟩ := newP X84 hx hZ (hw _ (List.mem_of_getElem? (i := 0) rfl)) e84 (g := (mkF m 51 #[.val (.ref a1), .val (.ref a2), .val (.ref a3), .val (.ref a4), .val (.ref a5), .unset, .unset, .unset, .unset, .unset] [(.int (5 : Int32)), (.ref a1)])) rfl (hb hby d2_51) rfl (by decide) (cap := 5) (by decide) (by decide) (by decide) (by decide)
      rw [← g85] at A85 st85
      have g_b85 : n0 ≤ b85 := Nat.le_trans z82 (Nat.le_of_eq g85.symm)
      have ne_a1_b85 : a1 ≠ b85 := Nat.ne_of_lt (Nat.lt_of_lt_of_le fq57.lt (Nat.le_of_eq g85.symm))
      have ne_a2_b85 : a2 ≠ b85 := Nat.ne_of_lt (Nat.lt_of_lt_of_le fq78.lt (Nat.le_of_eq g85.symm))
      have ne_a4_b85 : a4 ≠ b85 := Nat.ne_of_lt (Nat.lt_of_lt_of_le fq79.lt (Nat.le_of_eq g85.symm))
      have ne_b41_b85 : b41 ≠ b85 := Nat.ne_of_lt (Nat.lt_of_lt_of_le fq80.lt (Nat.le_of_eq g85.symm))
      have ne_b47_b85 : b47 ≠ b85 := Nat.ne_of_lt (Nat.lt_of_lt_of_le fq81.lt (Nat.le_of_eq g85.symm))
      have V85 : Arv Z h85 b85 k85 .int (5 : Int32) [(.int (0 : Int32)), (.int (0 : Int32)), (.int (0 : Int32)), (.int (0 : Int32)), (.int (0 : Int32))] (.int (0 : Int32)) := (Arv.new A85 (by decide)).pad (pad_rep [] (.int (0 : Int32)) 5)
      have fq86 := (Exa.ext E85 fq57)
      have fq87 := (Fld.ext E85 fq63)
      obtain ⟨T88, h88, X88, e88, W88, st88⟩ := putF X85 hx hZ hown (host := "") (Or.inl hw27) Via.refl e85 fq87 fq86 (Or.inr ⟨hw28, rfl, hnm⟩) hw7 (ty := (.array .int)) (by decide) rfl rfl (g := (mkF m 53 #[.val (.ref a1), .val (.ref a2), .val (.ref a3), .val (.ref a4), .val (.ref a5), .unset, .unset, .unset, .unset, .unset] [(.ref b85), (.ref a1)])) rfl rfl (hb hby d2_53)
      have Fw88 := Fld.same W88 fq87
      have N88 := Fr.snoc X88 Nc83 g_a1
      have fq89 := (Fld.other W88 (Fld.ext E85 fq61) (Or.inr (slot_ne (Or.inr hw16) (Or.inr hw28) (by decide) (t := .int) (t' := (.array .int)) (by decide) (by decide))))
      obtain ⟨T90, X90, e90, st90⟩ := getF X88 hx hZ hown (host := "") (Or.inl hw15) Via.refl e88 fq89 (g := (mkF m 58 #[.val (.ref a1), .val (.ref a2), .val (.ref a3), .val (.ref a4), .val (.ref a5), .unset, .unset, .unset, .unset, .unset] [(.ref a1), (.ref a1)])) rfl rfl (hb hby d2_58)
      have fq92 := (Exa.wr W88 fq86)
      have fq93 := ((fq78.ext E85).other W88 ne_a2_a1)
      have fq94 := ((fq79.ext E85).other W88 ne_a4_a1)
      have fq95 := ((fq80.ext E85).other W88 (Ne.symm ne_a1_b41))
      have fq96 := ((fq81.ext E85).other W88 (Ne.symm ne_a1_b47))
      have fq97 := (V85.other W88 (Ne.symm ne_a1_b85))
      have z98 : n0 ≤ h88.size := (Nat.le_trans (Nat.le_trans z82 E85.1) (Keep.of_wr W88).1)
      obtain ⟨b91, g91⟩ : ∃ z, z = h88.size := ⟨_, rfl⟩
      obtain ⟨T91, h91, k91, X91, e91, E91, A91, st91⟩ := newP X90 hx hZ (hw _ (List.mem_of_getElem? (i := 0) rfl)) e90 (g := (mkF m 61 #[.val (.ref a1), .val (.ref a2), .val (.ref a3), .val (.ref a4), .val (.ref a5), .unset, .unset, .unset, .unset, .unset] [(.int (5 : Int32)), (.ref a1)])) rfl (hb hby d2_61) rfl (by decide) (cap := 5) (by decide) (by decide) (by decide) (by decide)
      rw [← g91] at A91 st91
      have g_b91 : n0 ≤ b91 := Nat.le_trans z98 (Nat.le_of_eq g91.symm)
      have ne_a1_b91 : a1 ≠ b91 := Nat.ne_of_lt (Nat.lt_of_lt_of_le fq92.lt (Nat.le_of_eq g91.symm))
      have ne_a2_b91 : a2 ≠ b91 := Nat.ne_of_lt (Nat.lt_of_lt_of_le fq93.lt (Nat.le_of_eq g91.symm))
      have ne_a4_b91 : a4 ≠ b91 := Nat.ne_of_lt (Nat.lt_of_lt_of_le fq94.lt (Nat.le_of_eq g91.symm))
      have ne_b41_b91 : b41 ≠ b91 := Nat.ne_of_lt (Nat.lt_of_lt_of_le fq95.lt (Nat.le_of_eq g91.symm))
      have ne_b47_b91 : b47 ≠ b91 := Nat.ne_of_lt (Nat.lt_of_lt_of_le fq96.lt (Nat.le_of_eq g91.symm))
      have ne_b85_b91 : b85 ≠ b91 := Nat.ne_of_lt (Nat.lt_of_lt_of_le fq97.lt (Nat.le_of_eq g91.symm))
      have V91 : Arv Z h91 b91 k91 .int (5 : Int32) [(.int (0 : Int32)), (.int (0 : Int32)), (.int (0 : Int32)), (.int (0 : Int32)), (.int (0 : Int32))] (.int (0 : Int32)) := (Arv.new A91 (by decide)).pad (pad_rep [] (.int (0 : Int32)) 5)
      have fq99 := (Exa.ext E91 fq92)
      have fq100 := (Fld.ext E91 (Fld.other W88 (Fld.ext E85 fq64) (Or.inr (slot_ne (Or.inr hw30) (Or.inr hw28) (by decide) (t := (.array .int)) (t' := (.array .int)) (by decide) (by decide)))))
      obtain ⟨T101, h101, X101, e101, W101, st101⟩ := putF X91 hx hZ hown (host := "") (Or.inl hw29) Via.refl e91 fq100 fq99 (Or.inr ⟨hw30, rfl, hnm⟩) hw7 (ty := (.array .int)) (by decide) rfl rfl (g := (mkF m 63 #[.val (.ref a1), .val (.ref a2), .val (.ref a3), .val (.ref a4), .val (.ref a5), .unset, .unset, .unset, .unset, .unset] [(.ref b91), (.ref a1)])) rfl rfl (hb hby d2_63)
      have Fw101 := Fld.same W101 fq100
      have N101 := Fr.snoc X101 N88 g_a1
      have pre102 : ∀ t, Steps p.tables e below (T101.setTop (mkF m 66 #[.val (.ref a1), .val (.ref a2), .val (.ref a3), .val (.ref a4), .val (.ref a5), .unset, .unset, .unset, .unset, .unset] [])) t → Steps p.tables e below (s₁.setTop (entryFrame m #[(.ref a1), (.ref a2), (.ref a3), (.ref a4), (.ref a5)] 10)) t := fun t kt => by
        refine pre56 t ?_
        show Steps p.tables e below (T55.setTop (mkF m 46 #[.val (.ref a1), .val (.ref a2), .val (.ref a3), .val (.ref a4), .val (.ref a5), .unset, .unset, .unset, .unset, .unset] [])) _
        refine XS.aloadN Xc83.here hx rfl (hb hby d2_46) rfl rfl ?_
        show Steps p.tables e below (T55.setTop (mkF m 47 #[.val (.ref a1), .val (.ref a2), .val (.ref a3), .val (.ref a4), .val (.ref a5), .unset, .unset, .unset, .unset, .unset] [(.ref a1)])) _
        refine XS.aloadN Xc83.here hx rfl (hb hby d2_47) rfl rfl ?_
        show Steps p.tables e below (T55.setTop (mkF m 48 #[.val (.ref a1), .val (.ref a2), .val (.ref a3), .val (.ref a4), .val (.ref a5), .unset, .unset, .unset, .unset, .unset] [(.ref a1), (.ref a1)])) _
        refine st84 _ ?_
        show Steps p.tables e below (T84.setTop (mkF m 51 #[.val (.ref a1), .val (.ref a2), .val (.ref a3), .val (.ref a4), .val (.ref a5), .unset, .unset, .unset, .unset, .unset] [(.int (5 : Int32)), (.ref a1)])) _
        refine st85 _ ?_
        show Steps p.tables e below (T85.setTop (mkF m 53 #[.val (.ref a1), .val (.ref a2), .val (.ref a3), .val (.ref a4), .val (.ref a5), .unset, .unset, .unset, .unset, .unset] [(.ref b85), (.ref a1)])) _
        refine st88 _ ?_
        show Steps p.tables e below (T88.setTop (mkF m 56 #[.val (.ref a1), .val (.ref a2), .val (.ref a3), .val (.ref a4), .val (.ref a5), .unset, .unset, .unset, .unset, .unset] [])) _
        refine XS.aloadN X88.here hx rfl (hb hby d2_56) rfl rfl ?_
        show Steps p.tables e below (T88.setTop (mkF m 57 #[.val (.ref a1), .val (.ref a2), .val (.ref a3), .val (.ref a4), .val (.ref a5), .unset, .unset, .unset, .unset, .unset] [(.ref a1)])) _
        refine XS.aloadN X88.here hx rfl (hb hby d2_57) rfl rfl ?_
        show Steps p.tables e below (T88.setTop (mkF m 58 #[.val (.ref a1), .val (.ref a2), .val (.ref a3), .val (.ref a4), .val (.ref a5), .unset, .unset, .unset, .unset, .unset] [(.ref a1), (.ref a1)])) _
        refine st90 _ ?_
        show Steps p.tables e below (T90.setTop (mkF m 61 #[.val (.ref a1), .val (.ref a2), .val (.ref a3), .val (.ref a4), .val (.ref a5), .unset, .unset, .unset, .unset, .unset] [(.int (5 : Int32)), (.ref a1)])) _
        refine st91 _ ?_
        show Steps p.tables e below (T91.setTop (mkF m 63 #[.val (.ref a1), .val (.ref a2), .val (.ref a3), .val (.ref a4), .val (.ref a5), .unset, .unset, .unset, .unset, .unset] [(.ref b91), (.ref a1)])) _
        refine st101 _ ?_
        exact kt
      have fq103 := (Exa.wr W101 fq99)
      have fq104 := (Fld.other W101 (Fld.ext E91 (Fld.other W88 (Fld.ext E85 fq58) (Or.inr (slot_ne (Or.inl hw65) (Or.inr hw28) (by decide) (t := .int) (t' := (.array .int)) (by decide) (by decide))))) (Or.inr (slot_ne (Or.inl hw65) (Or.inr hw30) (by decide) (t := .int) (t' := (.array .int)) (by decide) (by decide))))
      have fq105 := (Fld.other W101 (Fld.ext E91 (Fld.other W88 (Fld.ext E85 fq59) (Or.inr (slot_ne (Or.inl hw67) (Or.inr hw28) (by decide) (t := .int) (t' := (.array .int)) (by decide) (by decide))))) (Or.inr (slot_ne (Or.inl hw67) (Or.inr hw30) (by decide) (t := .int) (t' := (.array .int)) (by decide) (by decide))))
      have fq106 := (Fld.other W101 (Fld.ext E91 (Fld.other W88 (Fld.ext E85 fq60) (Or.inr (slot_ne (Or.inl hw59) (Or.inr hw28) (by decide) (t := .int) (t' := (.array .int)) (by decide) (by decide))))) (Or.inr (slot_ne (Or.inl hw59) (Or.inr hw30) (by decide) (t := .int) (t' := (.array .int)) (by decide) (by decide))))
      have fq107 := (Fld.other W101 (Fld.ext E91 fq89) (Or.inr (slot_ne (Or.inr hw16) (Or.inr hw30) (by decide) (t := .int) (t' := (.array .int)) (by decide) (by decide))))
      have fq108 := (Fld.other W101 (Fld.ext E91 (Fld.other W88 (Fld.ext E85 fq62) (Or.inr (slot_ne (Or.inr hw24) (Or.inr hw28) (by decide) (t := (.array .int)) (t' := (.array .int)) (by decide) (by decide))))) (Or.inr (slot_ne (Or.inr hw24) (Or.inr hw30) (by decide) (t := (.array .int)) (t' := (.array .int)) (by decide) (by decide))))
      have fq109 := (Fld.other W101 (Fld.ext E91 (Fld.other W88 (Fld.ext E85 Fw55) (Or.inr (slot_ne (Or.inr hw26) (Or.inr hw28) (by decide) (t := (.array .int)) (t' := (.array .int)) (by decide) (by decide))))) (Or.inr (slot_ne (Or.inr hw26) (Or.inr hw30) (by decide) (t := (.array .int)) (t' := (.array .int)) (by decide) (by decide))))
      have fq110 := (Fld.other W101 (Fld.ext E91 Fw88) (Or.inr (slot_ne (Or.inr hw28) (Or.inr hw30) (by decide) (t := (.array .int)) (t' := (.array .int)) (by decide) (by decide))))
      have fq111 := (Fld.other W101 (Fld.ext E91 (Fld.other W88 (Fld.ext E85 fq65) (Or.inr (slot_ne (Or.inr hw32) (Or.inr hw28) (by decide) (t := (.array .int)) (t' := (.array .int)) (by decide) (by decide))))) (Or.inr (slot_ne (Or.inr hw32) (Or.inr hw30) (by decide) (t := (.array .int)) (t' := (.array .int)) (by decide) (by decide))))
      have fq112 := (Fld.other W101 (Fld.ext E91 (Fld.other W88 (Fld.ext E85 fq66) (Or.inr (slot_ne (Or.inr hw35) (Or.inr hw28) (by decide) (t := (.array .boolean)) (t' := (.array .int)) (by decide) (by decide))))) (Or.inr (slot_ne (Or.inr hw35) (Or.inr hw30) (by decide) (t := (.array .boolean)) (t' := (.array .int)) (by decide) (by decide))))
      have fq113 := (Fld.other W101 (Fld.ext E91 (Fld.other W88 (Fld.ext E85 fq67) (Or.inr (slot_ne (Or.inr hw37) (Or.inr hw28) (by decide) (t := (.array .int)) (t' := (.array .int)) (by decide) (by decide))))) (Or.inr (slot_ne (Or.inr hw37) (Or.inr hw30) (by decide) (t := (.array .int)) (t' := (.array .int)) (by decide) (by decide))))
      have fq114 := (Fld.other W101 (Fld.ext E91 (Fld.other W88 (Fld.ext E85 fq68) (Or.inr (slot_ne (Or.inr hw39) (Or.inr hw28) (by decide) (t := (.array .int)) (t' := (.array .int)) (by decide) (by decide))))) (Or.inr (slot_ne (Or.inr hw39) (Or.inr hw30) (by decide) (t := (.array .int)) (t' := (.array .int)) (by decide) (by decide))))
      have fq115 := (Fld.other W101 (Fld.ext E91 (Fld.other W88 (Fld.ext E85 fq69) (Or.inr (slot_ne (Or.inr hw41) (Or.inr hw28) (by decide) (t := (.array .int)) (t' := (.array .int)) (by decide) (by decide))))) (Or.inr (slot_ne (Or.inr hw41) (Or.inr hw30) (by decide) (t := (.array .int)) (t' := (.array .int)) (by decide) (by decide))))
      have fq116 := (Fld.other W101 (Fld.ext E91 (Fld.other W88 (Fld.ext E85 fq70) (Or.inr (slot_ne (Or.inr hw43) (Or.inr hw28) (by decide) (t := (.array .int)) (t' := (.array .int)) (by decide) (by decide))))) (Or.inr (slot_ne (Or.inr hw43) (Or.inr hw30) (by decide) (t := (.array .int)) (t' := (.array .int)) (by decide) (by decide))))
      have fq117 := (Fld.other W101 (Fld.ext E91 (Fld.other W88 (Fld.ext E85 fq71) (Or.inr (slot_ne (Or.inr hw45) (Or.inr hw28) (by decide) (t := (.array .int)) (t' := (.array .int)) (by decide) (by decide))))) (Or.inr (slot_ne (Or.inr hw45) (Or.inr hw30) (by decide) (t := (.array .int)) (t' := (.array .int)) (by decide) (by decide))))
      have fq118 := (Fld.other W101 (Fld.ext E91 (Fld.other W88 (Fld.ext E85 fq72) (Or.inr (slot_ne (Or.inr hw47) (Or.inr hw28) (by decide) (t := (.array .int)) (t' := (.array .int)) (by decide) (by decide))))) (Or.inr (slot_ne (Or.inr hw47) (Or.inr hw30) (by decide) (t := (.array .int)) (t' := (.array .int)) (by decide) (by decide))))
      have fq119 := (Fld.other W101 (Fld.ext E91 (Fld.other W88 (Fld.ext E85 fq73) (Or.inr (slot_ne (Or.inr hw49) (Or.inr hw28) (by decide) (t := (.array .int)) (t' := (.array .int)) (by decide) (by decide))))) (Or.inr (slot_ne (Or.inr hw49) (Or.inr hw30) (by decide) (t := (.array .int)) (t' := (.array .int)) (by decide) (by decide))))
      have fq120 := (Fld.other W101 (Fld.ext E91 (Fld.other W88 (Fld.ext E85 fq74) (Or.inr (slot_ne (Or.inr hw51) (Or.inr hw28) (by decide) (t := (.array .int)) (t' := (.array .int)) (by decide) (by decide))))) (Or.inr (slot_ne (Or.inr hw51) (Or.inr hw30) (by decide) (t := (.array .int)) (t' := (.array .int)) (by decide) (by decide))))
      have fq121 := (Fld.other W101 (Fld.ext E91 (Fld.other W88 (Fld.ext E85 fq75) (Or.inr (slot_ne (Or.inr hw53) (Or.inr hw28) (by decide) (t := (.array .int)) (t' := (.array .int)) (by decide) (by decide))))) (Or.inr (slot_ne (Or.inr hw53) (Or.inr hw30) (by decide) (t := (.array .int)) (t' := (.array .int)) (by decide) (by decide))))
      have fq122 := (Fld.other W101 (Fld.ext E91 (Fld.other W88 (Fld.ext E85 fq76) (Or.inr (slot_ne (Or.inr hw55) (Or.inr hw28) (by decide) (t := (.array .int)) (t' := (.array .int)) (by decide) (by decide))))) (Or.inr (slot_ne (Or.inr hw55) (Or.inr hw30) (by decide) (t := (.array .int)) (t' := (.array .int)) (by decide) (by decide))))
      have fq123 := (Fld.other W101 (Fld.ext E91 (Fld.other W88 (Fld.ext E85 fq77) (Or.inr (slot_ne (Or.inr hw57) (Or.inr hw28) (by decide) (t := (.array .int)) (t' := (.array .int)) (by decide) (by decide))))) (Or.inr (slot_ne (Or.inr hw57) (Or.inr hw30) (by decide) (t := (.array .int)) (t' := (.array .int)) (by decide) (by decide))))
      have fq124 := ((fq93.ext E91).other W101 ne_a2_a1)
      have fq125 := ((fq94.ext E91).other W101 ne_a4_a1)
      have fq126 := ((fq95.ext E91).other W101 (Ne.symm ne_a1_b41))
      have fq127 := ((fq96.ext E91).other W101 (Ne.symm ne_a1_b47))
      have fq128 := ((fq97.ext E91).other W101 (Ne.symm ne_a1_b85))
      have fq129 := (V91.other W101 (Ne.symm ne_a1_b91))
      have z130 : n0 ≤ h101.size := (Nat.le_trans (Nat.le_trans z98 E91.1) (Keep.of_wr W101).1)
      obtain ⟨Lc131, Xc131, Nc131⟩ : ∃ L, Stand p l e ({ frames := 1, cells := 18, slots := 86, locals := 13 } : Room) s m #[(.ref a1), (.ref a2), (.ref a3), (.ref a4), (.ref a5)] below meth c T101 L 4 20 ∧ Fr n0 L := ⟨_, X101, N101⟩
      clear e55 Fw55 pre56 fq57 fq58 fq59 fq60 fq61 fq62 fq63 fq64 fq65 fq66 fq67 fq68 fq69 fq70 fq71 fq72 fq73 fq74 fq75 fq76 fq77 fq78 fq79 fq80 fq81 z82 Xc83 Nc83 X84 e84 st84 g85 X85 e85 E85 A85 st85 V85 fq86 fq87 X88 e88 W88 st88 Fw88 N88 fq89 X90 e90 st90 fq92 fq93 fq94 fq95 fq96 fq97 z98 g91 X91 e91 E91 A91 st91 V91 fq99 fq100 X101 W101 st101 N101
      try clear h91
      try clear T91
      try clear T90
      try clear h88
      try clear T88
      try clear h85
      try clear T85
      try clear T84
      try clear Lc83
      try clear h55
      try clear T55
      as_aux_lemma =>
        obtain ⟨T132, X132, e132, st132⟩ := getF Xc131 hx hZ hown (host := "") (Or.inl hw15) Via.refl e101 fq107 (g := (mkF m 68 #[.val (.ref a1), .val (.ref a2), .val (.ref a3), .val (.ref a4), .val (.ref a5), .unset, .unset, .unset, .unset, .unset] [(.ref a1), (.ref a1)])) rfl rfl (hb hby d2_68)
        obtain ⟨b133, g133⟩ : ∃ z, z = h101.size := ⟨_, rfl⟩
        obtain ⟨T133, h133, k133, X133, e133, E133, A133, st133⟩ := newP X132 hx hZ (hw _ (List.mem_of_getElem? (i := 0) rfl)) e132 (g := (mkF m 71 #[.val (.ref a1), .val (.ref a2), .val (.ref a3), .val (.ref a4), .val (.ref a5), .unset, .unset, .unset, .unset, .unset] [(.int (5 : Int32)), (.ref a1)])) rfl (hb hby d2_71) rfl (by decide) (cap := 5) (by decide) (by decide) (by decide) (by decide)
        rw [← g133] at A133 st133
        have g_b133 : n0 ≤ b133 := Nat.le_trans z130 (Nat.le_of_eq g133.symm)
        have ne_a1_b133 : a1 ≠ b133 := Nat.ne_of_lt (Nat.lt_of_lt_of_le fq103.lt (Nat.le_of_eq g133.symm))
        have ne_a2_b133 : a2 ≠ b133 := Nat.ne_of_lt (Nat.lt_of_lt_of_le fq124.lt (Nat.le_of_eq g133.symm))
        have ne_a4_b133 : a4 ≠ b133 := Nat.ne_of_lt (Nat.lt_of_lt_of_le fq125.lt (Nat.le_of_eq g133.symm))
        have ne_b41_b133 : b41 ≠ b133 := Nat.ne_of_lt (Nat.lt_of_lt_of_le fq126.lt (Nat.le_of_eq g133.symm))
        have ne_b47_b133 : b47 ≠ b133 := Nat.ne_of_lt (Nat.lt_of_lt_of_le fq127.lt (Nat.le_of_eq g133.symm))
        have ne_b85_b133 : b85 ≠ b133 := Nat.ne_of_lt (Nat.lt_of_lt_of_le fq128.lt (Nat.le_of_eq g133.symm))
        have ne_b91_b133 : b91 ≠ b133 := Nat.ne_of_lt (Nat.lt_of_lt_of_le fq129.lt (Nat.le_of_eq g133.symm))
        have V133 : Arv Z h133 b133 k133 .int (5 : Int32) [(.int (0 : Int32)), (.int (0 : Int32)), (.int (0 : Int32)), (.int (0 : Int32)), (.int (0 : Int32))] (.int (0 : Int32)) := (Arv.new A133 (by decide)).pad (pad_rep [] (.int (0 : Int32)) 5)
        have fq134 := (Exa.ext E133 fq103)
        have fq135 := (Fld.ext E133 fq111)
        obtain ⟨T136, h136, X136, e136, W136, st136⟩ := putF X133 hx hZ hown (host := "") (Or.inl hw31) Via.refl e133 fq135 fq134 (Or.inr ⟨hw32, rfl, hnm⟩) hw7 (ty := (.array .int)) (by decide) rfl rfl (g := (mkF m 73 #[.val (.ref a1), .val (.ref a2), .val (.ref a3), .val (.ref a4), .val (.ref a5), .unset, .unset, .unset, .unset, .unset] [(.ref b133), (.ref a1)])) rfl rfl (hb hby d2_73)
        have Fw136 := Fld.same W136 fq135
        have N136 := Fr.snoc X136 Nc131 g_a1
        have fq137 := (Fld.other W136 (Fld.ext E133 fq107) (Or.inr (slot_ne (Or.inr hw16) (Or.inr hw32) (by decide) (t := .int) (t' := (.array .int)) (by decide) (by decide))))
        obtain ⟨T138, X138, e138, st138⟩ := getF X136 hx hZ hown (host := "") (Or.inl hw15) Via.refl e136 fq137 (g := (mkF m 78 #[.val (.ref a1), .val (.ref a2), .val (.ref a3), .val (.ref a4), .val (.ref a5), .unset, .unset, .unset, .unset, .unset] [(.ref a1), (.ref a1)])) rfl rfl (hb hby d2_78)
        have fq140 := (Exa.wr W136 fq134)
        have fq141 := ((fq124.ext E133).other W136 ne_a2_a1)
        have fq142 := ((fq125.ext E133).other W136 ne_a4_a1)
        have fq143 := (V133.other W136 (Ne.symm ne_a1_b133))
        have fq144 := ((fq126.ext E133).other W136 (Ne.symm ne_a1_b41))
        have fq145 := ((fq127.ext E133).other W136 (Ne.symm ne_a1_b47))
        have fq146 := ((fq128.ext E133).other W136 (Ne.symm ne_a1_b85))
        have fq147 := ((fq129.ext E133).other W136 (Ne.symm ne_a1_b91))
        have z148 : n0 ≤ h136.size := (Nat.le_trans (Nat.le_trans z130 E133.1) (Keep.of_wr W136).1)
        obtain ⟨b139, g139⟩ : ∃ z, z = h136.size := ⟨_, rfl⟩
        obtain ⟨T139, h139, k139, X139, e139, E139, A139, st139⟩ := newP X138 hx hZ (hw _ (List.mem_of_getElem? (i := 33) rfl)) e138 (g := (mkF m 81 #[.val (.ref a1), .val (.ref a2), .val (.ref a3), .val (.ref a4), .val (.ref a5), .unset, .unset, .unset, .unset, .unset] [(.int (5 : Int32)), (.ref a1)])) rfl (hb hby d2_81) rfl (by decide) (cap := 5) (by decide) (by decide) (by decide) (by decide)
        rw [← g139] at A139 st139
        have g_b139 : n0 ≤ b139 := Nat.le_trans z148 (Nat.le_of_eq g139.symm)
        have ne_a1_b139 : a1 ≠ b139 := Nat.ne_of_lt (Nat.lt_of_lt_of_le fq140.lt (Nat.le_of_eq g139.symm))
        have ne_a2_b139 : a2 ≠ b139 := Nat.ne_of_lt (Nat.lt_of_lt_of_le fq141.lt (Nat.le_of_eq g139.symm))
        have ne_a4_b139 : a4 ≠ b139 := Nat.ne_of_lt (Nat.lt_of_lt_of_le fq142.lt (Nat.le_of_eq g139.symm))
        have ne_b133_b139 : b133 ≠ b139 := Nat.ne_of_lt (Nat.lt_of_lt_of_le fq143.lt (Nat.le_of_eq g139.symm))
        have ne_b41_b139 : b41 ≠ b139 := Nat.ne_of_lt (Nat.lt_of_lt_of_le fq144.lt (Nat.le_of_eq g139.symm))
        have ne_b47_b139 : b47 ≠ b139 := Nat.ne_of_lt (Nat.lt_of_lt_of_le fq145.lt (Nat.le_of_eq g139.symm))
        have ne_b85_b139 : b85 ≠ b139 := Nat.ne_of_lt (Nat.lt_of_lt_of_le fq146.lt (Nat.le_of_eq g139.symm))
        have ne_b91_b139 : b91 ≠ b139 := Nat.ne_of_lt (Nat.lt_of_lt_of_le fq147.lt (Nat.le_of_eq g139.symm))
        have V139 : Arv Z h139 b139 k139 .boolean (5 : Int32) [(.int (0 : Int32)), (.int (0 : Int32)), (.int (0 : Int32)), (.int (0 : Int32)), (.int (0 : Int32))] (.int (0 : Int32)) := (Arv.new A139 (by decide)).pad (pad_rep [] (.int (0 : Int32)) 5)
        have fq149 := (Exa.ext E139 fq140)
        have fq150 := (Fld.ext E139 (Fld.other W136 (Fld.ext E133 fq112) (Or.inr (slot_ne (Or.inr hw35) (Or.inr hw32) (by decide) (t := (.array .boolean)) (t' := (.array .int)) (by decide) (by decide)))))
        obtain ⟨T151, h151, X151, e151, W151, st151⟩ := putF X139 hx hZ hown (host := "") (Or.inl hw34) Via.refl e139 fq150 fq149 (Or.inr ⟨hw35, rfl, hnm⟩) hw7 (ty := (.array .boolean)) (by decide) rfl rfl (g := (mkF m 83 #[.val (.ref a1), .val (.ref a2), .val (.ref a3), .val (.ref a4), .val (.ref a5), .unset, .unset, .unset, .unset, .unset] [(.ref b139), (.ref a1)])) rfl rfl (hb hby d2_83)
        have Fw151 := Fld.same W151 fq150
        have N151 := Fr.snoc X151 N136 g_a1
        have pre152 : ∀ t, Steps p.tables e below (T151.setTop (mkF m 86 #[.val (.ref a1), .val (.ref a2), .val (.ref a3), .val (.ref a4), .val (.ref a5), .unset, .unset, .unset, .unset, .unset] [])) t → Steps p.tables e below (s₁.setTop (entryFrame m #[(.ref a1), (.ref a2), (.ref a3), (.ref a4), (.ref a5)] 10)) t := fun t kt => by
          refine pre102 t ?_
          show Steps p.tables e below (T101.setTop (mkF m 66 #[.val (.ref a1), .val (.ref a2), .val (.ref a3), .val (.ref a4), .val (.ref a5), .unset, .unset, .unset, .unset, .unset] [])) _
          refine XS.aloadN Xc131.here hx rfl (hb hby d2_66) rfl rfl ?_
          show Steps p.tables e below (T101.setTop (mkF m 67 #[.val (.ref a1), .val (.ref a2), .val (.ref a3), .val (.ref a4), .val (.ref a5), .unset, .unset, .unset, .unset, .unset] [(.ref a1)])) _
          refine XS.aloadN Xc131.here hx rfl (hb hby d2_67) rfl rfl ?_
          show Steps p.tables e below (T101.setTop (mkF m 68 #[.val (.ref a1), .val (.ref a2), .val (.ref a3), .val (.ref a4), .val (.ref a5), .unset, .unset, .unset, .unset, .unset] [(.ref a1), (.ref a1)])) _
          refine st132 _ ?_
          show Steps p.tables e below (T132.setTop (mkF m 71 #[.val (.ref a1), .val (.ref a2), .val (.ref a3), .val (.ref a4), .val (.ref a5), .unset, .unset, .unset, .unset, .unset] [(.int (5 : Int32)), (.ref a1)])) _
          refine st133 _ ?_
          show Steps p.tables e below (T133.setTop (mkF m 73 #[.val (.ref a1), .val (.ref a2), .val (.ref a3), .val (.ref a4), .val (.ref a5), .unset, .unset, .unset, .unset, .unset] [(.ref b133), (.ref a1)])) _
          refine st136 _ ?_
          show Steps p.tables e below (T136.setTop (mkF m 76 #[.val (.ref a1), .val (.ref a2), .val (.ref a3), .val (.ref a4), .val (.ref a5), .unset, .unset, .unset, .unset, .unset] [])) _
          refine XS.aloadN X136.here hx rfl (hb hby d2_76) rfl rfl ?_
          show Steps p.tables e below (T136.setTop (mkF m 77 #[.val (.ref a1), .val (.ref a2), .val (.ref a3), .val (.ref a4), .val (.ref a5), .unset, .unset, .unset, .unset, .unset] [(.ref a1)])) _
          refine XS.aloadN X136.here hx rfl (hb hby d2_77) rfl rfl ?_
          show Steps p.tables e below (T136.setTop (mkF m 78 #[.val (.ref a1), .val (.ref a2), .val (.ref a3), .val (.ref a4), .val (.ref a5), .unset, .unset, .unset, .unset, .unset] [(.ref a1), (.ref a1)])) _
          refine st138 _ ?_
          show Steps p.tables e below (T138.setTop (mkF m 81 #[.val (.ref a1), .val (.ref a2), .val (.ref a3), .val (.ref a4), .val (.ref a5), .unset, .unset, .unset, .unset, .unset] [(.int (5 : Int32)), (.ref a1)])) _
          refine st139 _ ?_
          show Steps p.tables e below (T139.setTop (mkF m 83 #[.val (.ref a1), .val (.ref a2), .val (.ref a3), .val (.ref a4), .val (.ref a5), .unset, .unset, .unset, .unset, .unset] [(.ref b139), (.ref a1)])) _
          refine st151 _ ?_
          exact kt
        have fq153 := (Exa.wr W151 fq149)
        have fq154 := (Fld.other W151 (Fld.ext E139 (Fld.other W136 (Fld.ext E133 fq104) (Or.inr (slot_ne (Or.inl hw65) (Or.inr hw32) (by decide) (t := .int) (t' := (.array .int)) (by decide) (by decide))))) (Or.inr (slot_ne (Or.inl hw65) (Or.inr hw35) (by decide) (t := .int) (t' := (.array .boolean)) (by decide) (by decide))))
        have fq155 := (Fld.other W151 (Fld.ext E139 (Fld.other W136 (Fld.ext E133 fq105) (Or.inr (slot_ne (Or.inl hw67) (Or.inr hw32) (by decide) (t := .int) (t' := (.array .int)) (by decide) (by decide))))) (Or.inr (slot_ne (Or.inl hw67) (Or.inr hw35) (by decide) (t := .int) (t' := (.array .boolean)) (by decide) (by decide))))
        have fq156 := (Fld.other W151 (Fld.ext E139 (Fld.other W136 (Fld.ext E133 fq106) (Or.inr (slot_ne (Or.inl hw59) (Or.inr hw32) (by decide) (t := .int) (t' := (.array .int)) (by decide) (by decide))))) (Or.inr (slot_ne (Or.inl hw59) (Or.inr hw35) (by decide) (t := .int) (t' := (.array .boolean)) (by decide) (by decide))))
        have fq157 := (Fld.other W151 (Fld.ext E139 fq137) (Or.inr (slot_ne (Or.inr hw16) (Or.inr hw35) (by decide) (t := .int) (t' := (.array .boolean)) (by decide) (by decide))))
        have fq158 := (Fld.other W151 (Fld.ext E139 (Fld.other W136 (Fld.ext E133 fq108) (Or.inr (slot_ne (Or.inr hw24) (Or.inr hw32) (by decide) (t := (.array .int)) (t' := (.array .int)) (by decide) (by decide))))) (Or.inr (slot_ne (Or.inr hw24) (Or.inr hw35) (by decide) (t := (.array .int)) (t' := (.array .boolean)) (by decide) (by decide))))
        have fq159 := (Fld.other W151 (Fld.ext E139 (Fld.other W136 (Fld.ext E133 fq109) (Or.inr (slot_ne (Or.inr hw26) (Or.inr hw32) (by decide) (t := (.array .int)) (t' := (.array .int)) (by decide) (by decide))))) (Or.inr (slot_ne (Or.inr hw26) (Or.inr hw35) (by decide) (t := (.array .int)) (t' := (.array .boolean)) (by decide) (by decide))))
        have fq160 := (Fld.other W151 (Fld.ext E139 (Fld.other W136 (Fld.ext E133 fq110) (Or.inr (slot_ne (Or.inr hw28) (Or.inr hw32) (by decide) (t := (.array .int)) (t' := (.array .int)) (by decide) (by decide))))) (Or.inr (slot_ne (Or.inr hw28) (Or.inr hw35) (by decide) (t := (.array .int)) (t' := (.array .boolean)) (by decide) (by decide))))
        have fq161 := (Fld.other W151 (Fld.ext E139 (Fld.other W136 (Fld.ext E133 Fw101) (Or.inr (slot_ne (Or.inr hw30) (Or.inr hw32) (by decide) (t := (.array .int)) (t' := (.array .int)) (by decide) (by decide))))) (Or.inr (slot_ne (Or.inr hw30) (Or.inr hw35) (by decide) (t := (.array .int)) (t' := (.array .boolean)) (by decide) (by decide))))
        have fq162 := (Fld.other W151 (Fld.ext E139 Fw136) (Or.inr (slot_ne (Or.inr hw32) (Or.inr hw35) (by decide) (t := (.array .int)) (t' := (.array .boolean)) (by decide) (by decide))))
        have fq163 := (Fld.other W151 (Fld.ext E139 (Fld.other W136 (Fld.ext E133 fq113) (Or.inr (slot_ne (Or.inr hw37) (Or.inr hw32) (by decide) (t := (.array .int)) (t' := (.array .int)) (by decide) (by decide))))) (Or.inr (slot_ne (Or.inr hw37) (Or.inr hw35) (by decide) (t := (.array .int)) (t' := (.array .boolean)) (by decide) (by decide))))
        have fq164 := (Fld.other W151 (Fld.ext E139 (Fld.other W136 (Fld.ext E133 fq114) (Or.inr (slot_ne (Or.inr hw39) (Or.inr hw32) (by decide) (t := (.array .int)) (t' := (.array .int)) (by decide) (by decide))))) (Or.inr (slot_ne (Or.inr hw39) (Or.inr hw35) (by decide) (t := (.array .int)) (t' := (.array .boolean)) (by decide) (by decide))))
        have fq165 := (Fld.other W151 (Fld.ext E139 (Fld.other W136 (Fld.ext E133 fq115) (Or.inr (slot_ne (Or.inr hw41) (Or.inr hw32) (by decide) (t := (.array .int)) (t' := (.array .int)) (by decide) (by decide))))) (Or.inr (slot_ne (Or.inr hw41) (Or.inr hw35) (by decide) (t := (.array .int)) (t' := (.array .boolean)) (by decide) (by decide))))
        have fq166 := (Fld.other W151 (Fld.ext E139 (Fld.other W136 (Fld.ext E133 fq116) (Or.inr (slot_ne (Or.inr hw43) (Or.inr hw32) (by decide) (t := (.array .int)) (t' := (.array .int)) (by decide) (by decide))))) (Or.inr (slot_ne (Or.inr hw43) (Or.inr hw35) (by decide) (t := (.array .int)) (t' := (.array .boolean)) (by decide) (by decide))))
        have fq167 := (Fld.other W151 (Fld.ext E139 (Fld.other W136 (Fld.ext E133 fq117) (Or.inr (slot_ne (Or.inr hw45) (Or.inr hw32) (by decide) (t := (.array .int)) (t' := (.array .int)) (by decide) (by decide))))) (Or.inr (slot_ne (Or.inr hw45) (Or.inr hw35) (by decide) (t := (.array .int)) (t' := (.array .boolean)) (by decide) (by decide))))
        have fq168 := (Fld.other W151 (Fld.ext E139 (Fld.other W136 (Fld.ext E133 fq118) (Or.inr (slot_ne (Or.inr hw47) (Or.inr hw32) (by decide) (t := (.array .int)) (t' := (.array .int)) (by decide) (by decide))))) (Or.inr (slot_ne (Or.inr hw47) (Or.inr hw35) (by decide) (t := (.array .int)) (t' := (.array .boolean)) (by decide) (by decide))))
        have fq169 := (Fld.other W151 (Fld.ext E139 (Fld.other W136 (Fld.ext E133 fq119) (Or.inr (slot_ne (Or.inr hw49) (Or.inr hw32) (by decide) (t := (.array .int)) (t' := (.array .int)) (by decide) (by decide))))) (Or.inr (slot_ne (Or.inr hw49) (Or.inr hw35) (by decide) (t := (.array .int)) (t' := (.array .boolean)) (by decide) (by decide))))
        have fq170 := (Fld.other W151 (Fld.ext E139 (Fld.other W136 (Fld.ext E133 fq120) (Or.inr (slot_ne (Or.inr hw51) (Or.inr hw32) (by decide) (t := (.array .int)) (t' := (.array .int)) (by decide) (by decide))))) (Or.inr (slot_ne (Or.inr hw51) (Or.inr hw35) (by decide) (t := (.array .int)) (t' := (.array .boolean)) (by decide) (by decide))))
        have fq171 := (Fld.other W151 (Fld.ext E139 (Fld.other W136 (Fld.ext E133 fq121) (Or.inr (slot_ne (Or.inr hw53) (Or.inr hw32) (by decide) (t := (.array .int)) (t' := (.array .int)) (by decide) (by decide))))) (Or.inr (slot_ne (Or.inr hw53) (Or.inr hw35) (by decide) (t := (.array .int)) (t' := (.array .boolean)) (by decide) (by decide))))
        have fq172 := (Fld.other W151 (Fld.ext E139 (Fld.other W136 (Fld.ext E133 fq122) (Or.inr (slot_ne (Or.inr hw55) (Or.inr hw32) (by decide) (t := (.array .int)) (t' := (.array .int)) (by decide) (by decide))))) (Or.inr (slot_ne (Or.inr hw55) (Or.inr hw35) (by decide) (t := (.array .int)) (t' := (.array .boolean)) (by decide) (by decide))))
        have fq173 := (Fld.other W151 (Fld.ext E139 (Fld.other W136 (Fld.ext E133 fq123) (Or.inr (slot_ne (Or.inr hw57) (Or.inr hw32) (by decide) (t := (.array .int)) (t' := (.array .int)) (by decide) (by decide))))) (Or.inr (slot_ne (Or.inr hw57) (Or.inr hw35) (by decide) (t := (.array .int)) (t' := (.array .boolean)) (by decide) (by decide))))
        have fq174 := ((fq141.ext E139).other W151 ne_a2_a1)
        have fq175 := ((fq142.ext E139).other W151 ne_a4_a1)
        have fq176 := ((fq144.ext E139).other W151 (Ne.symm ne_a1_b41))
        have fq177 := ((fq145.ext E139).other W151 (Ne.symm ne_a1_b47))
        have fq178 := ((fq146.ext E139).other W151 (Ne.symm ne_a1_b85))
        have fq179 := ((fq147.ext E139).other W151 (Ne.symm ne_a1_b91))
        have fq180 := ((fq143.ext E139).other W151 (Ne.symm ne_a1_b133))
        have fq181 := (V139.other W151 (Ne.symm ne_a1_b139))
        have z182 : n0 ≤ h151.size := (Nat.le_trans (Nat.le_trans z148 E139.1) (Keep.of_wr W151).1)
        obtain ⟨Lc183, Xc183, Nc183⟩ : ∃ L, Stand p l e ({ frames := 1, cells := 18, slots := 86, locals := 13 } : Room) s m #[(.ref a1), (.ref a2), (.ref a3), (.ref a4), (.ref a5)] below meth c T151 L 6 30 ∧ Fr n0 L := ⟨_, X151, N151⟩
        clear e101 Fw101 pre102 fq103 fq104 fq105 fq106 fq107 fq108 fq109 fq110 fq111 fq112 fq113 fq114 fq115 fq116 fq117 fq118 fq119 fq120 fq121 fq122 fq123 fq124 fq125 fq126 fq127 fq128 fq129 z130 Xc131 Nc131 X132 e132 st132 g133 X133 e133 E133 A133 st133 V133 fq134 fq135 X136 e136 W136 st136 Fw136 N136 fq137 X138 e138 st138 fq140 fq141 fq142 fq143 fq144 fq145 fq146 fq147 z148 g139 X139 e139 E139 A139 st139 V139 fq149 fq150 X151 W151 st151 N151
        try clear h139
        try clear T139
        try clear T138
        try clear h136
        try clear T136
        try clear h133
        try clear T133
        try clear T132
        try clear Lc131
        try clear h101
        try clear T101
        as_aux_lemma =>
          obtain ⟨T184, X184, e184, st184⟩ := getF Xc183 hx hZ hown (host := "") (Or.inl hw15) Via.refl e151 fq157 (g := (mkF m 88 #[.val (.ref a1), .val (.ref a2), .val (.ref a3), .val (.ref a4), .val (.ref a5), .unset, .unset, .unset, .unset, .unset] [(.ref a1), (.ref a1)])) rfl rfl (hb hby d2_88)
          obtain ⟨b185, g185⟩ : ∃ z, z = h151.size := ⟨_, rfl⟩
          obtain ⟨T185, h185, k185, X185, e185, E185, A185, st185⟩ := newP X184 hx hZ (hw _ (List.mem_of_getElem? (i := 0) rfl)) e184 (g := (mkF m 91 #[.val (.ref a1), .val (.ref a2), .val (.ref a3), .val (.ref a4), .val (.ref a5), .unset, .unset, .unset, .unset, .unset] [(.int (5 : Int32)), (.ref a1)])) rfl (hb hby d2_91) rfl (by decide) (cap := 5) (by decide) (by decide) (by decide) (by decide)
          rw [← g185] at A185 st185
          have g_b185 : n0 ≤ b185 := Nat.le_trans z182 (Nat.le_of_eq g185.symm)
          have ne_a1_b185 : a1 ≠ b185 := Nat.ne_of_lt (Nat.lt_of_lt_of_le fq153.lt (Nat.le_of_eq g185.symm))
          have ne_a2_b185 : a2 ≠ b185 := Nat.ne_of_lt (Nat.lt_of_lt_of_le fq174.lt (Nat.le_of_eq g185.symm))
          have ne_a4_b185 : a4 ≠ b185 := Nat.ne_of_lt (Nat.lt_of_lt_of_le fq175.lt (Nat.le_of_eq g185.symm))
          have ne_b133_b185 : b133 ≠ b185 := Nat.ne_of_lt (Nat.lt_of_lt_of_le fq180.lt (Nat.le_of_eq g185.symm))
          have ne_b139_b185 : b139 ≠ b185 := Nat.ne_of_lt (Nat.lt_of_lt_of_le fq181.lt (Nat.le_of_eq g185.symm))
          have ne_b41_b185 : b41 ≠ b185 := Nat.ne_of_lt (Nat.lt_of_lt_of_le fq176.lt (Nat.le_of_eq g185.symm))
          have ne_b47_b185 : b47 ≠ b185 := Nat.ne_of_lt (Nat.lt_of_lt_of_le fq177.lt (Nat.le_of_eq g185.symm))
          have ne_b85_b185 : b85 ≠ b185 := Nat.ne_of_lt (Nat.lt_of_lt_of_le fq178.lt (Nat.le_of_eq g185.symm))
          have ne_b91_b185 : b91 ≠ b185 := Nat.ne_of_lt (Nat.lt_of_lt_of_le fq179.lt (Nat.le_of_eq g185.symm))
          have V185 : Arv Z h185 b185 k185 .int (5 : Int32) [(.int (0 : Int32)), (.int (0 : Int32)), (.int (0 : Int32)), (.int (0 : Int32)), (.int (0 : Int32))] (.int (0 : Int32)) := (Arv.new A185 (by decide)).pad (pad_rep [] (.int (0 : Int32)) 5)
          have fq186 := (Exa.ext E185 fq153)
          have fq187 := (Fld.ext E185 fq163)
          obtain ⟨T188, h188, X188, e188, W188, st188⟩ := putF X185 hx hZ hown (host := "") (Or.inl hw36) Via.refl e185 fq187 fq186 (Or.inr ⟨hw37, rfl, hnm⟩) hw7 (ty := (.array .int)) (by decide) rfl rfl (g := (mkF m 93 #[.val (.ref a1), .val (.ref a2), .val (.ref a3), .val (.ref a4), .val (.ref a5), .unset, .unset, .unset, .unset, .unset] [(.ref b185), (.ref a1)])) rfl rfl (hb hby d2_93)
          have Fw188 := Fld.same W188 fq187
          have N188 := Fr.snoc X188 Nc183 g_a1
          have fq189 := (Fld.other W188 (Fld.ext E185 fq157) (Or.inr (slot_ne (Or.inr hw16) (Or.inr hw37) (by decide) (t := .int) (t' := (.array .int)) (by decide) (by decide))))
          obtain ⟨T190, X190, e190, st190⟩ := getF X188 hx hZ hown (host := "") (Or.inl hw15) Via.refl e188 fq189 (g := (mkF m 98 #[.val (.ref a1), .val (.ref a2), .val (.ref a3), .val (.ref a4), .val (.ref a5), .unset, .unset, .unset, .unset, .unset] [(.ref a1), (.ref a1)])) rfl rfl (hb hby d2_98)
          have fq192 := (Exa.wr W188 fq186)
          have fq193 := ((fq174.ext E185).other W188 ne_a2_a1)
          have fq194 := ((fq175.ext E185).other W188 ne_a4_a1)
          have fq195 := ((fq180.ext E185).other W188 (Ne.symm ne_a1_b133))
          have fq196 := ((fq181.ext E185).other W188 (Ne.symm ne_a1_b139))
          have fq197 := (V185.other W188 (Ne.symm ne_a1_b185))
          have fq198 := ((fq176.ext E185).other W188 (Ne.symm ne_a1_b41))
          have fq199 := ((fq177.ext E185).other W188 (Ne.symm ne_a1_b47))
          have fq200 := ((fq178.ext E185).other W188 (Ne.symm ne_a1_b85))
          have fq201 := ((fq179.ext E185).other W188 (Ne.symm ne_a1_b91))
          have z202 : n0 ≤ h188.size := (Nat.le_trans (Nat.le_trans z182 E185.1) (Keep.of_wr W188).1)
          obtain ⟨b191, g191⟩ : ∃ z, z = h188.size := ⟨_, rfl⟩
          obtain ⟨T191, h191, k191, X191, e191, E191, A191, st191⟩ := newP X190 hx hZ (hw _ (List.mem_of_getElem? (i := 0) rfl)) e190 (g := (mkF m 101 #[.val (.ref a1), .val (.ref a2), .val (.ref a3), .val (.ref a4), .val (.ref a5), .unset, .unset, .unset, .unset, .unset] [(.int (5 : Int32)), (.ref a1)])) rfl (hb hby d2_101) rfl (by decide) (cap := 5) (by decide) (by decide) (by decide) (by decide)
          rw [← g191] at A191 st191
          have g_b191 : n0 ≤ b191 := Nat.le_trans z202 (Nat.le_of_eq g191.symm)
          have ne_a1_b191 : a1 ≠ b191 := Nat.ne_of_lt (Nat.lt_of_lt_of_le fq192.lt (Nat.le_of_eq g191.symm))
          have ne_a2_b191 : a2 ≠ b191 := Nat.ne_of_lt (Nat.lt_of_lt_of_le fq193.lt (Nat.le_of_eq g191.symm))
          have ne_a4_b191 : a4 ≠ b191 := Nat.ne_of_lt (Nat.lt_of_lt_of_le fq194.lt (Nat.le_of_eq g191.symm))
          have ne_b133_b191 : b133 ≠ b191 := Nat.ne_of_lt (Nat.lt_of_lt_of_le fq195.lt (Nat.le_of_eq g191.symm))
          have ne_b139_b191 : b139 ≠ b191 := Nat.ne_of_lt (Nat.lt_of_lt_of_le fq196.lt (Nat.le_of_eq g191.symm))
          have ne_b185_b191 : b185 ≠ b191 := Nat.ne_of_lt (Nat.lt_of_lt_of_le fq197.lt (Nat.le_of_eq g191.symm))
          have ne_b41_b191 : b41 ≠ b191 := Nat.ne_of_lt (Nat.lt_of_lt_of_le fq198.lt (Nat.le_of_eq g191.symm))
          have ne_b47_b191 : b47 ≠ b191 := Nat.ne_of_lt (Nat.lt_of_lt_of_le fq199.lt (Nat.le_of_eq g191.symm))
          have ne_b85_b191 : b85 ≠ b191 := Nat.ne_of_lt (Nat.lt_of_lt_of_le fq200.lt (Nat.le_of_eq g191.symm))
          have ne_b91_b191 : b91 ≠ b191 := Nat.ne_of_lt (Nat.lt_of_lt_of_le fq201.lt (Nat.le_of_eq g191.symm))
          have V191 : Arv Z h191 b191 k191 .int (5 : Int32) [(.int (0 : Int32)), (.int (0 : Int32)), (.int (0 : Int32)), (.int (0 : Int32)), (.int (0 : Int32))] (.int (0 : Int32)) := (Arv.new A191 (by decide)).pad (pad_rep [] (.int (0 : Int32)) 5)
          have fq203 := (Exa.ext E191 fq192)
          have fq204 := (Fld.ext E191 (Fld.other W188 (Fld.ext E185 fq164) (Or.inr (slot_ne (Or.inr hw39) (Or.inr hw37) (by decide) (t := (.array .int)) (t' := (.array .int)) (by decide) (by decide)))))
          obtain ⟨T205, h205, X205, e205, W205, st205⟩ := putF X191 hx hZ hown (host := "") (Or.inl hw38) Via.refl e191 fq204 fq203 (Or.inr ⟨hw39, rfl, hnm⟩) hw7 (ty := (.array .int)) (by decide) rfl rfl (g := (mkF m 103 #[.val (.ref a1), .val (.ref a2), .val (.ref a3), .val (.ref a4), .val (.ref a5), .unset, .unset, .unset, .unset, .unset] [(.ref b191), (.ref a1)])) rfl rfl (hb hby d2_103)
          have Fw205 := Fld.same W205 fq204
          have N205 := Fr.snoc X205 N188 g_a1
          have pre206 : ∀ t, Steps p.tables e below (T205.setTop (mkF m 106 #[.val (.ref a1), .val (.ref a2), .val (.ref a3), .val (.ref a4), .val (.ref a5), .unset, .unset, .unset, .unset, .unset] [])) t → Steps p.tables e below (s₁.setTop (entryFrame m #[(.ref a1), (.ref a2), (.ref a3), (.ref a4), (.ref a5)] 10)) t := fun t kt => by
            refine pre152 t ?_
            show Steps p.tables e below (T151.setTop (mkF m 86 #[.val (.ref a1), .val (.ref a2), .val (.ref a3), .val (.ref a4), .val (.ref a5), .unset, .unset, .unset, .unset, .unset] [])) _
            refine XS.aloadN Xc183.here hx rfl (hb hby d2_86) rfl rfl ?_
            show Steps p.tables e below (T151.setTop (mkF m 87 #[.val (.ref a1), .val (.ref a2), .val (.ref a3), .val (.ref a4), .val (.ref a5), .unset, .unset, .unset, .unset, .unset] [(.ref a1)])) _
            refine XS.aloadN Xc183.here hx rfl (hb hby d2_87) rfl rfl ?_
            show Steps p.tables e below (T151.setTop (mkF m 88 #[.val (.ref a1), .val (.ref a2), .val (.ref a3), .val (.ref a4), .val (.ref a5), .unset, .unset, .unset, .unset, .unset] [(.ref a1), (.ref a1)])) _
            refine st184 _ ?_
            show Steps p.tables e below (T184.setTop (mkF m 91 #[.val (.ref a1), .val (.ref a2), .val (.ref a3), .val (.ref a4), .val (.ref a5), .unset, .unset, .unset, .unset, .unset] [(.int (5 : Int32)), (.ref a1)])) _
            refine st185 _ ?_
            show Steps p.tables e below (T185.setTop (mkF m 93 #[.val (.ref a1), .val (.ref a2), .val (.ref a3), .val (.ref a4), .val (.ref a5), .unset, .unset, .unset, .unset, .unset] [(.ref b185), (.ref a1)])) _
            refine st188 _ ?_
            show Steps p.tables e below (T188.setTop (mkF m 96 #[.val (.ref a1), .val (.ref a2), .val (.ref a3), .val (.ref a4), .val (.ref a5), .unset, .unset, .unset, .unset, .unset] [])) _
            refine XS.aloadN X188.here hx rfl (hb hby d2_96) rfl rfl ?_
            show Steps p.tables e below (T188.setTop (mkF m 97 #[.val (.ref a1), .val (.ref a2), .val (.ref a3), .val (.ref a4), .val (.ref a5), .unset, .unset, .unset, .unset, .unset] [(.ref a1)])) _
            refine XS.aloadN X188.here hx rfl (hb hby d2_97) rfl rfl ?_
            show Steps p.tables e below (T188.setTop (mkF m 98 #[.val (.ref a1), .val (.ref a2), .val (.ref a3), .val (.ref a4), .val (.ref a5), .unset, .unset, .unset, .unset, .unset] [(.ref a1), (.ref a1)])) _
            refine st190 _ ?_
            show Steps p.tables e below (T190.setTop (mkF m 101 #[.val (.ref a1), .val (.ref a2), .val (.ref a3), .val (.ref a4), .val (.ref a5), .unset, .unset, .unset, .unset, .unset] [(.int (5 : Int32)), (.ref a1)])) _
            refine st191 _ ?_
            show Steps p.tables e below (T191.setTop (mkF m 103 #[.val (.ref a1), .val (.ref a2), .val (.ref a3), .val (.ref a4), .val (.ref a5), .unset, .unset, .unset, .unset, .unset] [(.ref b191), (.ref a1)])) _
            refine st205 _ ?_
            exact kt
          have fq207 := (Exa.wr W205 fq203)
          have fq208 := (Fld.other W205 (Fld.ext E191 (Fld.other W188 (Fld.ext E185 fq154) (Or.inr (slot_ne (Or.inl hw65) (Or.inr hw37) (by decide) (t := .int) (t' := (.array .int)) (by decide) (by decide))))) (Or.inr (slot_ne (Or.inl hw65) (Or.inr hw39) (by decide) (t := .int) (t' := (.array .int)) (by decide) (by decide))))
          have fq209 := (Fld.other W205 (Fld.ext E191 (Fld.other W188 (Fld.ext E185 fq155) (Or.inr (slot_ne (Or.inl hw67) (Or.inr hw37) (by decide) (t := .int) (t' := (.array .int)) (by decide) (by decide))))) (Or.inr (slot_ne (Or.inl hw67) (Or.inr hw39) (by decide) (t := .int) (t' := (.array .int)) (by decide) (by decide))))
          have fq210 := (Fld.other W205 (Fld.ext E191 (Fld.other W188 (Fld.ext E185 fq156) (Or.inr (slot_ne (Or.inl hw59) (Or.inr hw37) (by decide) (t := .int) (t' := (.array .int)) (by decide) (by decide))))) (Or.inr (slot_ne (Or.inl hw59) (Or.inr hw39) (by decide) (t := .int) (t' := (.array .int)) (by decide) (by decide))))
          have fq211 := (Fld.other W205 (Fld.ext E191 fq189) (Or.inr (slot_ne (Or.inr hw16) (Or.inr hw39) (by decide) (t := .int) (t' := (.array .int)) (by decide) (by decide))))
          have fq212 := (Fld.other W205 (Fld.ext E191 (Fld.other W188 (Fld.ext E185 fq158) (Or.inr (slot_ne (Or.inr hw24) (Or.inr hw37) (by decide) (t := (.array .int)) (t' := (.array .int)) (by decide) (by decide))))) (Or.inr (slot_ne (Or.inr hw24) (Or.inr hw39) (by decide) (t := (.array .int)) (t' := (.array .int)) (by decide) (by decide))))
          have fq213 := (Fld.other W205 (Fld.ext E191 (Fld.other W188 (Fld.ext E185 fq159) (Or.inr (slot_ne (Or.inr hw26) (Or.inr hw37) (by decide) (t := (.array .int)) (t' := (.array .int)) (by decide) (by decide))))) (Or.inr (slot_ne (Or.inr hw26) (Or.inr hw39) (by decide) (t := (.array .int)) (t' := (.array .int)) (by decide) (by decide))))
          have fq214 := (Fld.other W205 (Fld.ext E191 (Fld.other W188 (Fld.ext E185 fq160) (Or.inr (slot_ne (Or.inr hw28) (Or.inr hw37) (by decide) (t := (.array .int)) (t' := (.array .int)) (by decide) (by decide))))) (Or.inr (slot_ne (Or.inr hw28) (Or.inr hw39) (by decide) (t := (.array .int)) (t' := (.array .int)) (by decide) (by decide))))
          have fq215 := (Fld.other W205 (Fld.ext E191 (Fld.other W188 (Fld.ext E185 fq161) (Or.inr (slot_ne (Or.inr hw30) (Or.inr hw37) (by decide) (t := (.array .int)) (t' := (.array .int)) (by decide) (by decide))))) (Or.inr (slot_ne (Or.inr hw30) (Or.inr hw39) (by decide) (t := (.array .int)) (t' := (.array .int)) (by decide) (by decide))))
          have fq216 := (Fld.other W205 (Fld.ext E191 (Fld.other W188 (Fld.ext E185 fq162) (Or.inr (slot_ne (Or.inr hw32) (Or.inr hw37) (by decide) (t := (.array .int)) (t' := (.array .int)) (by decide) (by decide))))) (Or.inr (slot_ne (Or.inr hw32) (Or.inr hw39) (by decide) (t := (.array .int)) (t' := (.array .int)) (by decide) (by decide))))
          have fq217 := (Fld.other W205 (Fld.ext E191 (Fld.other W188 (Fld.ext E185 Fw151) (Or.inr (slot_ne (Or.inr hw35) (Or.inr hw37) (by decide) (t := (.array .boolean)) (t' := (.array .int)) (by decide) (by decide))))) (Or.inr (slot_ne (Or.inr hw35) (Or.inr hw39) (by decide) (t := (.array .boolean)) (t' := (.array .int)) (by decide) (by decide))))
          have fq218 := (Fld.other W205 (Fld.ext E191 (Fld.other W188 (Fld.ext E185 fq165) (Or.inr (slot_ne (Or.inr hw41) (Or.inr hw37) (by decide) (t := (.array .int)) (t' := (.array .int)) (by decide) (by decide))))) (Or.inr (slot_ne (Or.inr hw41) (Or.inr hw39) (by decide) (t := (.array .int)) (t' := (.array .int)) (by decide) (by decide))))
          have fq219 := (Fld.other W205 (Fld.ext E191 (Fld.other W188 (Fld.ext E185 fq166) (Or.inr (slot_ne (Or.inr hw43) (Or.inr hw37) (by decide) (t := (.array .int)) (t' := (.array .int)) (by decide) (by decide))))) (Or.inr (slot_ne (Or.inr hw43) (Or.inr hw39) (by decide) (t := (.array .int)) (t' := (.array .int)) (by decide) (by decide))))
          have fq220 := (Fld.other W205 (Fld.ext E191 (Fld.other W188 (Fld.ext E185 fq167) (Or.inr (slot_ne (Or.inr hw45) (Or.inr hw37) (by decide) (t := (.array .int)) (t' := (.array .int)) (by decide) (by decide))))) (Or.inr (slot_ne (Or.inr hw45) (Or.inr hw39) (by decide) (t := (.array .int)) (t' := (.array .int)) (by decide) (by decide))))
          have fq221 := (Fld.other W205 (Fld.ext E191 (Fld.other W188 (Fld.ext E185 fq168) (Or.inr (slot_ne (Or.inr hw47) (Or.inr hw37) (by decide) (t := (.array .int)) (t' := (.array .int)) (by decide) (by decide))))) (Or.inr (slot_ne (Or.inr hw47) (Or.inr hw39) (by decide) (t := (.array .int)) (t' := (.array .int)) (by decide) (by decide))))
          have fq222 := (Fld.other W205 (Fld.ext E191 (Fld.other W188 (Fld.ext E185 fq169) (Or.inr (slot_ne (Or.inr hw49) (Or.inr hw37) (by decide) (t := (.array .int)) (t' := (.array .int)) (by decide) (by decide))))) (Or.inr (slot_ne (Or.inr hw49) (Or.inr hw39) (by decide) (t := (.array .int)) (t' := (.array .int)) (by decide) (by decide))))
          have fq223 := (Fld.other W205 (Fld.ext E191 (Fld.other W188 (Fld.ext E185 fq170) (Or.inr (slot_ne (Or.inr hw51) (Or.inr hw37) (by decide) (t := (.array .int)) (t' := (.array .int)) (by decide) (by decide))))) (Or.inr (slot_ne (Or.inr hw51) (Or.inr hw39) (by decide) (t := (.array .int)) (t' := (.array .int)) (by decide) (by decide))))
          have fq224 := (Fld.other W205 (Fld.ext E191 (Fld.other W188 (Fld.ext E185 fq171) (Or.inr (slot_ne (Or.inr hw53) (Or.inr hw37) (by decide) (t := (.array .int)) (t' := (.array .int)) (by decide) (by decide))))) (Or.inr (slot_ne (Or.inr hw53) (Or.inr hw39) (by decide) (t := (.array .int)) (t' := (.array .int)) (by decide) (by decide))))
          have fq225 := (Fld.other W205 (Fld.ext E191 (Fld.other W188 (Fld.ext E185 fq172) (Or.inr (slot_ne (Or.inr hw55) (Or.inr hw37) (by decide) (t := (.array .int)) (t' := (.array .int)) (by decide) (by decide))))) (Or.inr (slot_ne (Or.inr hw55) (Or.inr hw39) (by decide) (t := (.array .int)) (t' := (.array .int)) (by decide) (by decide))))
          have fq226 := (Fld.other W205 (Fld.ext E191 (Fld.other W188 (Fld.ext E185 fq173) (Or.inr (slot_ne (Or.inr hw57) (Or.inr hw37) (by decide) (t := (.array .int)) (t' := (.array .int)) (by decide) (by decide))))) (Or.inr (slot_ne (Or.inr hw57) (Or.inr hw39) (by decide) (t := (.array .int)) (t' := (.array .int)) (by decide) (by decide))))
          have fq227 := ((fq193.ext E191).other W205 ne_a2_a1)
          have fq228 := ((fq194.ext E191).other W205 ne_a4_a1)
          have fq229 := ((fq198.ext E191).other W205 (Ne.symm ne_a1_b41))
          have fq230 := ((fq199.ext E191).other W205 (Ne.symm ne_a1_b47))
          have fq231 := ((fq200.ext E191).other W205 (Ne.symm ne_a1_b85))
          have fq232 := ((fq201.ext E191).other W205 (Ne.symm ne_a1_b91))
          have fq233 := ((fq195.ext E191).other W205 (Ne.symm ne_a1_b133))
          have fq234 := ((fq196.ext E191).other W205 (Ne.symm ne_a1_b139))
          have z235 : n0 ≤ h205.size := (Nat.le_trans (Nat.le_trans z202 E191.1) (Keep.of_wr W205).1)
          obtain ⟨Lc236, Xc236, Nc236⟩ : ∃ L, Stand p l e ({ frames := 1, cells := 18, slots := 86, locals := 13 } : Room) s m #[(.ref a1), (.ref a2), (.ref a3), (.ref a4), (.ref a5)] below meth c T205 L 8 40 ∧ Fr n0 L := ⟨_, X205, N205⟩
          clear e151 Fw151 pre152 fq153 fq154 fq155 fq156 fq157 fq158 fq159 fq160 fq161 fq162 fq163 fq164 fq165 fq166 fq167 fq168 fq169 fq170 fq171 fq172 fq173 fq174 fq175 fq176 fq177 fq178 fq179 fq180 fq181 z182 Xc183 Nc183 X184 e184 st184 g185 X185 e185 E185 A185 st185 g_b185 ne_a1_b185 ne_a2_b185 ne_a4_b185 ne_b133_b185 ne_b139_b185 ne_b41_b185 ne_b47_b185 ne_b85_b185 ne_b91_b185 V185 fq186 fq187 X188 e188 W188 st188 Fw188 N188 fq189 X190 e190 st190 fq192 fq193 fq194 fq195 fq196 fq197 fq198 fq199 fq200 fq201 z202 g191 X191 e191 E191 A191 st191 g_b191 ne_a1_b191 ne_a2_b191 ne_a4_b191 ne_b133_b191 ne_b139_b191 ne_b185_b191 ne_b41_b191 ne_b47_b191 ne_b85_b191 ne_b91_b191 V191 fq203 fq204 X205 W205 st205 Fw205 N205
          try clear k191
          try clear h191
          try clear T191
          try clear b191
          try clear T190
          try clear h188
          try clear T188
          try clear k185
          try clear h185
          try clear T185
          try clear b185
          try clear T184
          try clear Lc183
          try clear h151
          try clear T151
          as_aux_lemma =>
            obtain ⟨T237, X237, e237, st237⟩ := getF Xc236 hx hZ hown (host := "") (Or.inl hw15) Via.refl e205 fq211 (g := (mkF m 108 #[.val (.ref a1), .val (.ref a2), .val (.ref a3), .val (.ref a4), .val (.ref a5), .unset, .unset, .unset, .unset, .unset] [(.ref a1), (.ref a1)])) rfl rfl (hb hby d2_108)
            obtain ⟨b238, g238⟩ : ∃ z, z = h205.size := ⟨_, rfl⟩
            obtain ⟨T238, h238, k238, X238, e238, E238, A238, st238⟩ := newP X237 hx hZ (hw _ (List.mem_of_getElem? (i := 0) rfl)) e237 (g := (mkF m 111 #[.val (.ref a1), .val (.ref a2), .val (.ref a3), .val (.ref a4), .val (.ref a5), .unset, .unset, .unset, .unset, .unset] [(.int (5 : Int32)), (.ref a1)])) rfl (hb hby d2_111) rfl (by decide) (cap := 5) (by decide) (by decide) (by decide) (by decide)
            rw [← g238] at A238 st238
            have g_b238 : n0 ≤ b238 := Nat.le_trans z235 (Nat.le_of_eq g238.symm)
            have ne_a1_b238 : a1 ≠ b238 := Nat.ne_of_lt (Nat.lt_of_lt_of_le fq207.lt (Nat.le_of_eq g238.symm))
            have ne_a2_b238 : a2 ≠ b238 := Nat.ne_of_lt (Nat.lt_of_lt_of_le fq227.lt (Nat.le_of_eq g238.symm))
            have ne_a4_b238 : a4 ≠ b238 := Nat.ne_of_lt (Nat.lt_of_lt_of_le fq228.lt (Nat.le_of_eq g238.symm))
            have ne_b133_b238 : b133 ≠ b238 := Nat.ne_of_lt (Nat.lt_of_lt_of_le fq233.lt (Nat.le_of_eq g238.symm))
            have ne_b139_b238 : b139 ≠ b238 := Nat.ne_of_lt (Nat.lt_of_lt_of_le fq234.lt (Nat.le_of_eq g238.symm))
            have ne_b41_b238 : b41 ≠ b238 := Nat.ne_of_lt (Nat.lt_of_lt_of_le fq229.lt (Nat.le_of_eq g238.symm))
            have ne_b47_b238 : b47 ≠ b238 := Nat.ne_of_lt (Nat.lt_of_lt_of_le fq230.lt (Nat.le_of_eq g238.symm))
            have ne_b85_b238 : b85 ≠ b238 := Nat.ne_of_lt (Nat.lt_of_lt_of_le fq231.lt (Nat.le_of_eq g238.symm))
            have ne_b91_b238 : b91 ≠ b238 := Nat.ne_of_lt (Nat.lt_of_lt_of_le fq232.lt (Nat.le_of_eq g238.symm))
            have V238 : Arv Z h238 b238 k238 .int (5 : Int32) [(.int (0 : Int32)), (.int (0 : Int32)), (.int (0 : Int32)), (.int (0 : Int32)), (.int (0 : Int32))] (.int (0 : Int32)) := (Arv.new A238 (by decide)).pad (pad_rep [] (.int (0 : Int32)) 5)
            have fq239 := (Exa.ext E238 fq207)
            have fq240 := (Fld.ext E238 fq218)
            obtain ⟨T241, h241, X241, e241, W241, st241⟩ := putF X238 hx hZ hown (host := "") (Or.inl hw40) Via.refl e238 fq240 fq239 (Or.inr ⟨hw41, rfl, hnm⟩) hw7 (ty := (.array .int)) (by decide) rfl rfl (g := (mkF m 113 #[.val (.ref a1), .val (.ref a2), .val (.ref a3), .val (.ref a4), .val (.ref a5), .unset, .unset, .unset, .unset, .unset] [(.ref b238), (.ref a1)])) rfl rfl (hb hby d2_113)
            have Fw241 := Fld.same W241 fq240
            have N241 := Fr.snoc X241 Nc236 g_a1
            have fq242 := ((fq228.ext E238).other W241 ne_a4_a1)
            obtain ⟨cl243, Ar243, aq243, S243, M243, H243, G243⟩ := id fq242
            have fq245 := (Exa.wr W241 fq239)
            have fq246 := ((fq227.ext E238).other W241 ne_a2_a1)
            have fq247 := ((fq233.ext E238).other W241 (Ne.symm ne_a1_b133))
            have fq248 := ((fq234.ext E238).other W241 (Ne.symm ne_a1_b139))
            have fq249 := (V238.other W241 (Ne.symm ne_a1_b238))
            have fq250 := ((fq229.ext E238).other W241 (Ne.symm ne_a1_b41))
            have fq251 := ((fq230.ext E238).other W241 (Ne.symm ne_a1_b47))
            have fq252 := ((fq231.ext E238).other W241 (Ne.symm ne_a1_b85))
            have fq253 := ((fq232.ext E238).other W241 (Ne.symm ne_a1_b91))
            have z254 : n0 ≤ h241.size := (Nat.le_trans (Nat.le_trans z235 E238.1) (Keep.of_wr W241).1)
            obtain ⟨b244, g244⟩ : ∃ z, z = h241.size := ⟨_, rfl⟩
            obtain ⟨T244, h244, k244, X244, e244, E244, A244, st244⟩ := newP X241 hx hZ (hw _ (List.mem_of_getElem? (i := 0) rfl)) e241 (g := (mkF m 119 #[.val (.ref a1), .val (.ref a2), .val (.ref a3), .val (.ref a4), .val (.ref a5), .unset, .unset, .unset, .unset, .unset] [(.int (0 : Int32)), (.ref a1)])) rfl (hb hby d2_119) rfl (by decide) (cap := 0) (by decide) (by decide) (by decide) (by decide)
            rw [← g244] at A244 st244
            have g_b244 : n0 ≤ b244 := Nat.le_trans z254 (Nat.le_of_eq g244.symm)
            have ne_a1_b244 : a1 ≠ b244 := Nat.ne_of_lt (Nat.lt_of_lt_of_le fq245.lt (Nat.le_of_eq g244.symm))
            have ne_a2_b244 : a2 ≠ b244 := Nat.ne_of_lt (Nat.lt_of_lt_of_le fq246.lt (Nat.le_of_eq g244.symm))
            have ne_a4_b244 : a4 ≠ b244 := Nat.ne_of_lt (Nat.lt_of_lt_of_le fq242.lt (Nat.le_of_eq g244.symm))
            have ne_b133_b244 : b133 ≠ b244 := Nat.ne_of_lt (Nat.lt_of_lt_of_le fq247.lt (Nat.le_of_eq g244.symm))
            have ne_b139_b244 : b139 ≠ b244 := Nat.ne_of_lt (Nat.lt_of_lt_of_le fq248.lt (Nat.le_of_eq g244.symm))
            have ne_b238_b244 : b238 ≠ b244 := Nat.ne_of_lt (Nat.lt_of_lt_of_le fq249.lt (Nat.le_of_eq g244.symm))
            have ne_b41_b244 : b41 ≠ b244 := Nat.ne_of_lt (Nat.lt_of_lt_of_le fq250.lt (Nat.le_of_eq g244.symm))
            have ne_b47_b244 : b47 ≠ b244 := Nat.ne_of_lt (Nat.lt_of_lt_of_le fq251.lt (Nat.le_of_eq g244.symm))
            have ne_b85_b244 : b85 ≠ b244 := Nat.ne_of_lt (Nat.lt_of_lt_of_le fq252.lt (Nat.le_of_eq g244.symm))
            have ne_b91_b244 : b91 ≠ b244 := Nat.ne_of_lt (Nat.lt_of_lt_of_le fq253.lt (Nat.le_of_eq g244.symm))
            have V244 : Arv Z h244 b244 k244 .int (0 : Int32) [] (.int (0 : Int32)) := (Arv.new A244 (by decide)).pad (pad_rep [] (.int (0 : Int32)) 0)
            have fq255 := (Exa.ext E244 fq245)
            have fq256 := (Fld.ext E244 (Fld.other W241 (Fld.ext E238 fq219) (Or.inr (slot_ne (Or.inr hw43) (Or.inr hw41) (by decide) (t := (.array .int)) (t' := (.array .int)) (by decide) (by decide)))))
            obtain ⟨T257, h257, X257, e257, W257, st257⟩ := putF X244 hx hZ hown (host := "") (Or.inl hw42) Via.refl e244 fq256 fq255 (Or.inr ⟨hw43, rfl, hnm⟩) hw7 (ty := (.array .int)) (by decide) rfl rfl (g := (mkF m 121 #[.val (.ref a1), .val (.ref a2), .val (.ref a3), .val (.ref a4), .val (.ref a5), .unset, .unset, .unset, .unset, .unset] [(.ref b244), (.ref a1)])) rfl rfl (hb hby d2_121)
            have Fw257 := Fld.same W257 fq256
            have N257 := Fr.snoc X257 N241 g_a1
            have pre258 : ∀ t, Steps p.tables e below (T257.setTop (mkF m 124 #[.val (.ref a1), .val (.ref a2), .val (.ref a3), .val (.ref a4), .val (.ref a5), .unset, .unset, .unset, .unset, .unset] [])) t → Steps p.tables e below (s₁.setTop (entryFrame m #[(.ref a1), (.ref a2), (.ref a3), (.ref a4), (.ref a5)] 10)) t := fun t kt => by
              refine pre206 t ?_
              show Steps p.tables e below (T205.setTop (mkF m 106 #[.val (.ref a1), .val (.ref a2), .val (.ref a3), .val (.ref a4), .val (.ref a5), .unset, .unset, .unset, .unset, .unset] [])) _
              refine XS.aloadN Xc236.here hx rfl (hb hby d2_106) rfl rfl ?_
              show Steps p.tables e below (T205.setTop (mkF m 107 #[.val (.ref a1), .val (.ref a2), .val (.ref a3), .val (.ref a4), .val (.ref a5), .unset, .unset, .unset, .unset, .unset] [(.ref a1)])) _
              refine XS.aloadN Xc236.here hx rfl (hb hby d2_107) rfl rfl ?_
              show Steps p.tables e below (T205.setTop (mkF m 108 #[.val (.ref a1), .val (.ref a2), .val (.ref a3), .val (.ref a4), .val (.ref a5), .unset, .unset, .unset, .unset, .unset] [(.ref a1), (.ref a1)])) _
              refine st237 _ ?_
              show Steps p.tables e below (T237.setTop (mkF m 111 #[.val (.ref a1), .val (.ref a2), .val (.ref a3), .val (.ref a4), .val (.ref a5), .unset, .unset, .unset, .unset, .unset] [(.int (5 : Int32)), (.ref a1)])) _
              refine st238 _ ?_
              show Steps p.tables e below (T238.setTop (mkF m 113 #[.val (.ref a1), .val (.ref a2), .val (.ref a3), .val (.ref a4), .val (.ref a5), .unset, .unset, .unset, .unset, .unset] [(.ref b238), (.ref a1)])) _
              refine st241 _ ?_
              show Steps p.tables e below (T241.setTop (mkF m 116 #[.val (.ref a1), .val (.ref a2), .val (.ref a3), .val (.ref a4), .val (.ref a5), .unset, .unset, .unset, .unset, .unset] [])) _
              refine XS.aloadN X241.here hx rfl (hb hby d2_116) rfl rfl ?_
              show Steps p.tables e below (T241.setTop (mkF m 117 #[.val (.ref a1), .val (.ref a2), .val (.ref a3), .val (.ref a4), .val (.ref a5), .unset, .unset, .unset, .unset, .unset] [(.ref a1)])) _
              refine XS.aloadN X241.here hx rfl (hb hby d2_117) rfl rfl ?_
              show Steps p.tables e below (T241.setTop (mkF m 118 #[.val (.ref a1), .val (.ref a2), .val (.ref a3), .val (.ref a4), .val (.ref a5), .unset, .unset, .unset, .unset, .unset] [(.ref a4), (.ref a1)])) _
              refine X241.arraylength hx (by rw [e241]; exact Ar243.1) (State.isArrayOf_alike hZ.alike Ar243.2.1) (g := (mkF m 118 #[.val (.ref a1), .val (.ref a2), .val (.ref a3), .val (.ref a4), .val (.ref a5), .unset, .unset, .unset, .unset, .unset] [(.ref a4), (.ref a1)])) rfl rfl (hb hby d2_118) _ ?_
              rw [len_of S243 M243]
              show Steps p.tables e below (T241.setTop (mkF m 119 #[.val (.ref a1), .val (.ref a2), .val (.ref a3), .val (.ref a4), .val (.ref a5), .unset, .unset, .unset, .unset, .unset] [(.int (0 : Int32)), (.ref a1)])) _
              refine st244 _ ?_
              show Steps p.tables e below (T244.setTop (mkF m 121 #[.val (.ref a1), .val (.ref a2), .val (.ref a3), .val (.ref a4), .val (.ref a5), .unset, .unset, .unset, .unset, .unset] [(.ref b244), (.ref a1)])) _
              refine st257 _ ?_
              exact kt
            have fq259 := (Exa.wr W257 fq255)
            have fq260 := (Fld.other W257 (Fld.ext E244 (Fld.other W241 (Fld.ext E238 fq208) (Or.inr (slot_ne (Or.inl hw65) (Or.inr hw41) (by decide) (t := .int) (t' := (.array .int)) (by decide) (by decide))))) (Or.inr (slot_ne (Or.inl hw65) (Or.inr hw43) (by decide) (t := .int) (t' := (.array .int)) (by decide) (by decide))))
            have fq261 := (Fld.other W257 (Fld.ext E244 (Fld.other W241 (Fld.ext E238 fq209) (Or.inr (slot_ne (Or.inl hw67) (Or.inr hw41) (by decide) (t := .int) (t' := (.array .int)) (by decide) (by decide))))) (Or.inr (slot_ne (Or.inl hw67) (Or.inr hw43) (by decide) (t := .int) (t' := (.array .int)) (by decide) (by decide))))
            have fq262 := (Fld.other W257 (Fld.ext E244 (Fld.other W241 (Fld.ext E238 fq210) (Or.inr (slot_ne (Or.inl hw59) (Or.inr hw41) (by decide) (t := .int) (t' := (.array .int)) (by decide) (by decide))))) (Or.inr (slot_ne (Or.inl hw59) (Or.inr hw43) (by decide) (t := .int) (t' := (.array .int)) (by decide) (by decide))))
            have fq263 := (Fld.other W257 (Fld.ext E244 (Fld.other W241 (Fld.ext E238 fq211) (Or.inr (slot_ne (Or.inr hw16) (Or.inr hw41) (by decide) (t := .int) (t' := (.array .int)) (by decide) (by decide))))) (Or.inr (slot_ne (Or.inr hw16) (Or.inr hw43) (by decide) (t := .int) (t' := (.array .int)) (by decide) (by decide))))
            have fq264 := (Fld.other W257 (Fld.ext E244 (Fld.other W241 (Fld.ext E238 fq212) (Or.inr (slot_ne (Or.inr hw24) (Or.inr hw41) (by decide) (t := (.array .int)) (t' := (.array .int)) (by decide) (by decide))))) (Or.inr (slot_ne (Or.inr hw24) (Or.inr hw43) (by decide) (t := (.array .int)) (t' := (.array .int)) (by decide) (by decide))))
            have fq265 := (Fld.other W257 (Fld.ext E244 (Fld.other W241 (Fld.ext E238 fq213) (Or.inr (slot_ne (Or.inr hw26) (Or.inr hw41) (by decide) (t := (.array .int)) (t' := (.array .int)) (by decide) (by decide))))) (Or.inr (slot_ne (Or.inr hw26) (Or.inr hw43) (by decide) (t := (.array .int)) (t' := (.array .int)) (by decide) (by decide))))
            have fq266 := (Fld.other W257 (Fld.ext E244 (Fld.other W241 (Fld.ext E238 fq214) (Or.inr (slot_ne (Or.inr hw28) (Or.inr hw41) (by decide) (t := (.array .int)) (t' := (.array .int)) (by decide) (by decide))))) (Or.inr (slot_ne (Or.inr hw28) (Or.inr hw43) (by decide) (t := (.array .int)) (t' := (.array .int)) (by decide) (by decide))))
            have fq267 := (Fld.other W257 (Fld.ext E244 (Fld.other W241 (Fld.ext E238 fq215) (Or.inr (slot_ne (Or.inr hw30) (Or.inr hw41) (by decide) (t := (.array .int)) (t' := (.array .int)) (by decide) (by decide))))) (Or.inr (slot_ne (Or.inr hw30) (Or.inr hw43) (by decide) (t := (.array .int)) (t' := (.array .int)) (by decide) (by decide))))
            have fq268 := (Fld.other W257 (Fld.ext E244 (Fld.other W241 (Fld.ext E238 fq216) (Or.inr (slot_ne (Or.inr hw32) (Or.inr hw41) (by decide) (t := (.array .int)) (t' := (.array .int)) (by decide) (by decide))))) (Or.inr (slot_ne (Or.inr hw32) (Or.inr hw43) (by decide) (t := (.array .int)) (t' := (.array .int)) (by decide) (by decide))))
            have fq269 := (Fld.other W257 (Fld.ext E244 (Fld.other W241 (Fld.ext E238 fq217) (Or.inr (slot_ne (Or.inr hw35) (Or.inr hw41) (by decide) (t := (.array .boolean)) (t' := (.array .int)) (by decide) (by decide))))) (Or.inr (slot_ne (Or.inr hw35) (Or.inr hw43) (by decide) (t := (.array .boolean)) (t' := (.array .int)) (by decide) (by decide))))
            have fq270 := (Fld.other W257 (Fld.ext E244 (Fld.other W241 (Fld.ext E238 fq220) (Or.inr (slot_ne (Or.inr hw45) (Or.inr hw41) (by decide) (t := (.array .int)) (t' := (.array .int)) (by decide) (by decide))))) (Or.inr (slot_ne (Or.inr hw45) (Or.inr hw43) (by decide) (t := (.array .int)) (t' := (.array .int)) (by decide) (by decide))))
            have fq271 := (Fld.other W257 (Fld.ext E244 (Fld.other W241 (Fld.ext E238 fq221) (Or.inr (slot_ne (Or.inr hw47) (Or.inr hw41) (by decide) (t := (.array .int)) (t' := (.array .int)) (by decide) (by decide))))) (Or.inr (slot_ne (Or.inr hw47) (Or.inr hw43) (by decide) (t := (.array .int)) (t' := (.array .int)) (by decide) (by decide))))
            have fq272 := (Fld.other W257 (Fld.ext E244 (Fld.other W241 (Fld.ext E238 fq222) (Or.inr (slot_ne (Or.inr hw49) (Or.inr hw41) (by decide) (t := (.array .int)) (t' := (.array .int)) (by decide) (by decide))))) (Or.inr (slot_ne (Or.inr hw49) (Or.inr hw43) (by decide) (t := (.array .int)) (t' := (.array .int)) (by decide) (by decide))))
            have fq273 := (Fld.other W257 (Fld.ext E244 (Fld.other W241 (Fld.ext E238 fq223) (Or.inr (slot_ne (Or.inr hw51) (Or.inr hw41) (by decide) (t := (.array .int)) (t' := (.array .int)) (by decide) (by decide))))) (Or.inr (slot_ne (Or.inr hw51) (Or.inr hw43) (by decide) (t := (.array .int)) (t' := (.array .int)) (by decide) (by decide))))
            have fq274 := (Fld.other W257 (Fld.ext E244 (Fld.other W241 (Fld.ext E238 fq224) (Or.inr (slot_ne (Or.inr hw53) (Or.inr hw41) (by decide) (t := (.array .int)) (t' := (.array .int)) (by decide) (by decide))))) (Or.inr (slot_ne (Or.inr hw53) (Or.inr hw43) (by decide) (t := (.array .int)) (t' := (.array .int)) (by decide) (by decide))))
            have fq275 := (Fld.other W257 (Fld.ext E244 (Fld.other W241 (Fld.ext E238 fq225) (Or.inr (slot_ne (Or.inr hw55) (Or.inr hw41) (by decide) (t := (.array .int)) (t' := (.array .int)) (by decide) (by decide))))) (Or.inr (slot_ne (Or.inr hw55) (Or.inr hw43) (by decide) (t := (.array .int)) (t' := (.array .int)) (by decide) (by decide))))
            have fq276 := (Fld.other W257 (Fld.ext E244 (Fld.other W241 (Fld.ext E238 fq226) (Or.inr (slot_ne (Or.inr hw57) (Or.inr hw41) (by decide) (t := (.array .int)) (t' := (.array .int)) (by decide) (by decide))))) (Or.inr (slot_ne (Or.inr hw57) (Or.inr hw43) (by decide) (t := (.array .int)) (t' := (.array .int)) (by decide) (by decide))))
            have fq277 := ((fq246.ext E244).other W257 ne_a2_a1)
            have fq278 := ((fq242.ext E244).other W257 ne_a4_a1)
            have fq279 := ((fq250.ext E244).other W257 (Ne.symm ne_a1_b41))
            have fq280 := ((fq251.ext E244).other W257 (Ne.symm ne_a1_b47))
            have fq281 := ((fq252.ext E244).other W257 (Ne.symm ne_a1_b85))
            have fq282 := ((fq253.ext E244).other W257 (Ne.symm ne_a1_b91))
            have fq283 := ((fq247.ext E244).other W257 (Ne.symm ne_a1_b133))
            have fq284 := ((fq248.ext E244).other W257 (Ne.symm ne_a1_b139))
            have z285 : n0 ≤ h257.size := (Nat.le_trans (Nat.le_trans z254 E244.1) (Keep.of_wr W257).1)
            obtain ⟨Lc286, Xc286, Nc286⟩ : ∃ L, Stand p l e ({ frames := 1, cells := 18, slots := 86, locals := 13 } : Room) s m #[(.ref a1), (.ref a2), (.ref a3), (.ref a4), (.ref a5)] below meth c T257 L 10 45 ∧ Fr n0 L := ⟨_, X257, N257⟩
            clear e205 pre206 fq207 fq208 fq209 fq210 fq211 fq212 fq213 fq214 fq215 fq216 fq217 fq218 fq219 fq220 fq221 fq222 fq223 fq224 fq225 fq226 fq227 fq228 fq229 fq230 fq231 fq232 fq233 fq234 z235 Xc236 Nc236 X237 e237 st237 g238 X238 e238 E238 A238 st238 g_b238 ne_a1_b238 ne_a2_b238 ne_a4_b238 ne_b133_b238 ne_b139_b238 ne_b41_b238 ne_b47_b238 ne_b85_b238 ne_b91_b238 V238 fq239 fq240 X241 e241 W241 st241 Fw241 N241 fq242 Ar243 aq243 S243 M243 H243 G243 fq245 fq246 fq247 fq248 fq249 fq250 fq251 fq252 fq253 z254 g244 X244 e244 E244 A244 st244 g_b244 ne_a1_b244 ne_a2_b244 ne_a4_b244 ne_b133_b244 ne_b139_b244 ne_b238_b244 ne_b41_b244 ne_b47_b244 ne_b85_b244 ne_b91_b244 V244 fq255 fq256 X257 W257 st257 Fw257 N257
            try clear k244
            try clear h244
            try clear T244
            try clear b244
            try clear cl243
            try clear h241
            try clear T241
            try clear k238
            try clear h238
            try clear T238
            try clear b238
            try clear T237
            try clear Lc236
            try clear h205
            try clear T205
            as_aux_lemma =>
              obtain ⟨T287, X287, e287, st287⟩ := getF Xc286 hx hZ hown (host := "") (Or.inl hw15) Via.refl e257 fq263 (g := (mkF m 126 #[.val (.ref a1), .val (.ref a2), .val (.ref a3), .val (.ref a4), .val (.ref a5), .unset, .unset, .unset, .unset, .unset] [(.ref a1), (.ref a1)])) rfl rfl (hb hby d2_126)
              obtain ⟨b288, g288⟩ : ∃ z, z = h257.size := ⟨_, rfl⟩
              obtain ⟨T288, h288, k288, X288, e288, E288, A288, st288⟩ := newP X287 hx hZ (hw _ (List.mem_of_getElem? (i := 0) rfl)) e287 (g := (mkF m 129 #[.val (.ref a1), .val (.ref a2), .val (.ref a3), .val (.ref a4), .val (.ref a5), .unset, .unset, .unset, .unset, .unset] [(.int (5 : Int32)), (.ref a1)])) rfl (hb hby d2_129) rfl (by decide) (cap := 5) (by decide) (by decide) (by decide) (by decide)
              rw [← g288] at A288 st288
              have g_b288 : n0 ≤ b288 := Nat.le_trans z285 (Nat.le_of_eq g288.symm)
              have ne_a1_b288 : a1 ≠ b288 := Nat.ne_of_lt (Nat.lt_of_lt_of_le fq259.lt (Nat.le_of_eq g288.symm))
              have ne_a2_b288 : a2 ≠ b288 := Nat.ne_of_lt (Nat.lt_of_lt_of_le fq277.lt (Nat.le_of_eq g288.symm))
              have ne_a4_b288 : a4 ≠ b288 := Nat.ne_of_lt (Nat.lt_of_lt_of_le fq278.lt (Nat.le_of_eq g288.symm))
              have ne_b133_b288 : b133 ≠ b288 := Nat.ne_of_lt (Nat.lt_of_lt_of_le fq283.lt (Nat.le_of_eq g288.symm))
              have ne_b139_b288 : b139 ≠ b288 := Nat.ne_of_lt (Nat.lt_of_lt_of_le fq284.lt (Nat.le_of_eq g288.symm))
              have ne_b41_b288 : b41 ≠ b288 := Nat.ne_of_lt (Nat.lt_of_lt_of_le fq279.lt (Nat.le_of_eq g288.symm))
              have ne_b47_b288 : b47 ≠ b288 := Nat.ne_of_lt (Nat.lt_of_lt_of_le fq280.lt (Nat.le_of_eq g288.symm))
              have ne_b85_b288 : b85 ≠ b288 := Nat.ne_of_lt (Nat.lt_of_lt_of_le fq281.lt (Nat.le_of_eq g288.symm))
              have ne_b91_b288 : b91 ≠ b288 := Nat.ne_of_lt (Nat.lt_of_lt_of_le fq282.lt (Nat.le_of_eq g288.symm))
              have V288 : Arv Z h288 b288 k288 .int (5 : Int32) [(.int (0 : Int32)), (.int (0 : Int32)), (.int (0 : Int32)), (.int (0 : Int32)), (.int (0 : Int32))] (.int (0 : Int32)) := (Arv.new A288 (by decide)).pad (pad_rep [] (.int (0 : Int32)) 5)
              have fq289 := (Exa.ext E288 fq259)
              have fq290 := (Fld.ext E288 fq270)
              obtain ⟨T291, h291, X291, e291, W291, st291⟩ := putF X288 hx hZ hown (host := "") (Or.inl hw44) Via.refl e288 fq290 fq289 (Or.inr ⟨hw45, rfl, hnm⟩) hw7 (ty := (.array .int)) (by decide) rfl rfl (g := (mkF m 131 #[.val (.ref a1), .val (.ref a2), .val (.ref a3), .val (.ref a4), .val (.ref a5), .unset, .unset, .unset, .unset, .unset] [(.ref b288), (.ref a1)])) rfl rfl (hb hby d2_131)
              have Fw291 := Fld.same W291 fq290
              have N291 := Fr.snoc X291 Nc286 g_a1
              have fq292 := (Fld.other W291 (Fld.ext E288 fq263) (Or.inr (slot_ne (Or.inr hw16) (Or.inr hw45) (by decide) (t := .int) (t' := (.array .int)) (by decide) (by decide))))
              obtain ⟨T293, X293, e293, st293⟩ := getF X291 hx hZ hown (host := "") (Or.inl hw15) Via.refl e291 fq292 (g := (mkF m 136 #[.val (.ref a1), .val (.ref a2), .val (.ref a3), .val (.ref a4), .val (.ref a5), .unset, .unset, .unset, .unset, .unset] [(.ref a1), (.ref a1)])) rfl rfl (hb hby d2_136)
              have fq295 := (Exa.wr W291 fq289)
              have fq296 := ((fq277.ext E288).other W291 ne_a2_a1)
              have fq297 := ((fq278.ext E288).other W291 ne_a4_a1)
              have fq298 := ((fq283.ext E288).other W291 (Ne.symm ne_a1_b133))
              have fq299 := ((fq284.ext E288).other W291 (Ne.symm ne_a1_b139))
              have fq300 := (V288.other W291 (Ne.symm ne_a1_b288))
              have fq301 := ((fq279.ext E288).other W291 (Ne.symm ne_a1_b41))
              have fq302 := ((fq280.ext E288).other W291 (Ne.symm ne_a1_b47))
              have fq303 := ((fq281.ext E288).other W291 (Ne.symm ne_a1_b85))
              have fq304 := ((fq282.ext E288).other W291 (Ne.symm ne_a1_b91))
              have z305 : n0 ≤ h291.size := (Nat.le_trans (Nat.le_trans z285 E288.1) (Keep.of_wr W291).1)
              obtain ⟨b294, g294⟩ : ∃ z, z = h291.size := ⟨_, rfl⟩
              obtain ⟨T294, h294, k294, X294, e294, E294, A294, st294⟩ := newP X293 hx hZ (hw _ (List.mem_of_getElem? (i := 0) rfl)) e293 (g := (mkF m 139 #[.val (.ref a1), .val (.ref a2), .val (.ref a3), .val (.ref a4), .val (.ref a5), .unset, .unset, .unset, .unset, .unset] [(.int (5 : Int32)), (.ref a1)])) rfl (hb hby d2_139) rfl (by decide) (cap := 5) (by decide) (by decide) (by decide) (by decide)
              rw [← g294] at A294 st294
              have g_b294 : n0 ≤ b294 := Nat.le_trans z305 (Nat.le_of_eq g294.symm)
              have ne_a1_b294 : a1 ≠ b294 := Nat.ne_of_lt (Nat.lt_of_lt_of_le fq295.lt (Nat.le_of_eq g294.symm))
              have ne_a2_b294 : a2 ≠ b294 := Nat.ne_of_lt (Nat.lt_of_lt_of_le fq296.lt (Nat.le_of_eq g294.symm))
              have ne_a4_b294 : a4 ≠ b294 := Nat.ne_of_lt (Nat.lt_of_lt_of_le fq297.lt (Nat.le_of_eq g294.symm))
              have ne_b133_b294 : b133 ≠ b294 := Nat.ne_of_lt (Nat.lt_of_lt_of_le fq298.lt (Nat.le_of_eq g294.symm))
              have ne_b139_b294 : b139 ≠ b294 := Nat.ne_of_lt (Nat.lt_of_lt_of_le fq299.lt (Nat.le_of_eq g294.symm))
              have ne_b288_b294 : b288 ≠ b294 := Nat.ne_of_lt (Nat.lt_of_lt_of_le fq300.lt (Nat.le_of_eq g294.symm))
              have ne_b41_b294 : b41 ≠ b294 := Nat.ne_of_lt (Nat.lt_of_lt_of_le fq301.lt (Nat.le_of_eq g294.symm))
              have ne_b47_b294 : b47 ≠ b294 := Nat.ne_of_lt (Nat.lt_of_lt_of_le fq302.lt (Nat.le_of_eq g294.symm))
              have ne_b85_b294 : b85 ≠ b294 := Nat.ne_of_lt (Nat.lt_of_lt_of_le fq303.lt (Nat.le_of_eq g294.symm))
              have ne_b91_b294 : b91 ≠ b294 := Nat.ne_of_lt (Nat.lt_of_lt_of_le fq304.lt (Nat.le_of_eq g294.symm))
              have V294 : Arv Z h294 b294 k294 .int (5 : Int32) [(.int (0 : Int32)), (.int (0 : Int32)), (.int (0 : Int32)), (.int (0 : Int32)), (.int (0 : Int32))] (.int (0 : Int32)) := (Arv.new A294 (by decide)).pad (pad_rep [] (.int (0 : Int32)) 5)
              have fq306 := (Exa.ext E294 fq295)
              have fq307 := (Fld.ext E294 (Fld.other W291 (Fld.ext E288 fq271) (Or.inr (slot_ne (Or.inr hw47) (Or.inr hw45) (by decide) (t := (.array .int)) (t' := (.array .int)) (by decide) (by decide)))))
              obtain ⟨T308, h308, X308, e308, W308, st308⟩ := putF X294 hx hZ hown (host := "") (Or.inl hw46) Via.refl e294 fq307 fq306 (Or.inr ⟨hw47, rfl, hnm⟩) hw7 (ty := (.array .int)) (by decide) rfl rfl (g := (mkF m 141 #[.val (.ref a1), .val (.ref a2), .val (.ref a3), .val (.ref a4), .val (.ref a5), .unset, .unset, .unset, .unset, .unset] [(.ref b294), (.ref a1)])) rfl rfl (hb hby d2_141)
              have Fw308 := Fld.same W308 fq307
              have N308 := Fr.snoc X308 N291 g_a1
              have pre309 : ∀ t, Steps p.tables e below (T308.setTop (mkF m 144 #[.val (.ref a1), .val (.ref a2), .val (.ref a3), .val (.ref a4), .val (.ref a5), .unset, .unset, .unset, .unset, .unset] [])) t → Steps p.tables e below (s₁.setTop (entryFrame m #[(.ref a1), (.ref a2), (.ref a3), (.ref a4), (.ref a5)] 10)) t := fun t kt => by
                refine pre258 t ?_
                show Steps p.tables e below (T257.setTop (mkF m 124 #[.val (.ref a1), .val (.ref a2), .val (.ref a3), .val (.ref a4), .val (.ref a5), .unset, .unset, .unset, .unset, .unset] [])) _
                refine XS.aloadN Xc286.here hx rfl (hb hby d2_124) rfl rfl ?_
                show Steps p.tables e below (T257.setTop (mkF m 125 #[.val (.ref a1), .val (.ref a2), .val (.ref a3), .val (.ref a4), .val (.ref a5), .unset, .unset, .unset, .unset, .unset] [(.ref a1)])) _
                refine XS.aloadN Xc286.here hx rfl (hb hby d2_125) rfl rfl ?_
                show Steps p.tables e below (T257.setTop (mkF m 126 #[.val (.ref a1), .val (.ref a2), .val (.ref a3), .val (.ref a4), .val (.ref a5), .unset, .unset, .unset, .unset, .unset] [(.ref a1), (.ref a1)])) _
                refine st287 _ ?_
                show Steps p.tables e below (T287.setTop (mkF m 129 #[.val (.ref a1), .val (.ref a2), .val (.ref a3), .val (.ref a4), .val (.ref a5), .unset, .unset, .unset, .unset, .unset] [(.int (5 : Int32)), (.ref a1)])) _
                refine st288 _ ?_
                show Steps p.tables e below (T288.setTop (mkF m 131 #[.val (.ref a1), .val (.ref a2), .val (.ref a3), .val (.ref a4), .val (.ref a5), .unset, .unset, .unset, .unset, .unset] [(.ref b288), (.ref a1)])) _
                refine st291 _ ?_
                show Steps p.tables e below (T291.setTop (mkF m 134 #[.val (.ref a1), .val (.ref a2), .val (.ref a3), .val (.ref a4), .val (.ref a5), .unset, .unset, .unset, .unset, .unset] [])) _
                refine XS.aloadN X291.here hx rfl (hb hby d2_134) rfl rfl ?_
                show Steps p.tables e below (T291.setTop (mkF m 135 #[.val (.ref a1), .val (.ref a2), .val (.ref a3), .val (.ref a4), .val (.ref a5), .unset, .unset, .unset, .unset, .unset] [(.ref a1)])) _
                refine XS.aloadN X291.here hx rfl (hb hby d2_135) rfl rfl ?_
                show Steps p.tables e below (T291.setTop (mkF m 136 #[.val (.ref a1), .val (.ref a2), .val (.ref a3), .val (.ref a4), .val (.ref a5), .unset, .unset, .unset, .unset, .unset] [(.ref a1), (.ref a1)])) _
                refine st293 _ ?_
                show Steps p.tables e below (T293.setTop (mkF m 139 #[.val (.ref a1), .val (.ref a2), .val (.ref a3), .val (.ref a4), .val (.ref a5), .unset, .unset, .unset, .unset, .unset] [(.int (5 : Int32)), (.ref a1)])) _
                refine st294 _ ?_
                show Steps p.tables e below (T294.setTop (mkF m 141 #[.val (.ref a1), .val (.ref a2), .val (.ref a3), .val (.ref a4), .val (.ref a5), .unset, .unset, .unset, .unset, .unset] [(.ref b294), (.ref a1)])) _
                refine st308 _ ?_
                exact kt
              have fq310 := (Exa.wr W308 fq306)
              have fq311 := (Fld.other W308 (Fld.ext E294 (Fld.other W291 (Fld.ext E288 fq260) (Or.inr (slot_ne (Or.inl hw65) (Or.inr hw45) (by decide) (t := .int) (t' := (.array .int)) (by decide) (by decide))))) (Or.inr (slot_ne (Or.inl hw65) (Or.inr hw47) (by decide) (t := .int) (t' := (.array .int)) (by decide) (by decide))))
              have fq312 := (Fld.other W308 (Fld.ext E294 (Fld.other W291 (Fld.ext E288 fq261) (Or.inr (slot_ne (Or.inl hw67) (Or.inr hw45) (by decide) (t := .int) (t' := (.array .int)) (by decide) (by decide))))) (Or.inr (slot_ne (Or.inl hw67) (Or.inr hw47) (by decide) (t := .int) (t' := (.array .int)) (by decide) (by decide))))
              have fq313 := (Fld.other W308 (Fld.ext E294 (Fld.other W291 (Fld.ext E288 fq262) (Or.inr (slot_ne (Or.inl hw59) (Or.inr hw45) (by decide) (t := .int) (t' := (.array .int)) (by decide) (by decide))))) (Or.inr (slot_ne (Or.inl hw59) (Or.inr hw47) (by decide) (t := .int) (t' := (.array .int)) (by decide) (by decide))))
              have fq314 := (Fld.other W308 (Fld.ext E294 fq292) (Or.inr (slot_ne (Or.inr hw16) (Or.inr hw47) (by decide) (t := .int) (t' := (.array .int)) (by decide) (by decide))))
              have fq315 := (Fld.other W308 (Fld.ext E294 (Fld.other W291 (Fld.ext E288 fq264) (Or.inr (slot_ne (Or.inr hw24) (Or.inr hw45) (by decide) (t := (.array .int)) (t' := (.array .int)) (by decide) (by decide))))) (Or.inr (slot_ne (Or.inr hw24) (Or.inr hw47) (by decide) (t := (.array .int)) (t' := (.array .int)) (by decide) (by decide))))
              have fq316 := (Fld.other W308 (Fld.ext E294 (Fld.other W291 (Fld.ext E288 fq265) (Or.inr (slot_ne (Or.inr hw26) (Or.inr hw45) (by decide) (t := (.array .int)) (t' := (.array .int)) (by decide) (by decide))))) (Or.inr (slot_ne (Or.inr hw26) (Or.inr hw47) (by decide) (t := (.array .int)) (t' := (.array .int)) (by decide) (by decide))))
              have fq317 := (Fld.other W308 (Fld.ext E294 (Fld.other W291 (Fld.ext E288 fq266) (Or.inr (slot_ne (Or.inr hw28) (Or.inr hw45) (by decide) (t := (.array .int)) (t' := (.array .int)) (by decide) (by decide))))) (Or.inr (slot_ne (Or.inr hw28) (Or.inr hw47) (by decide) (t := (.array .int)) (t' := (.array .int)) (by decide) (by decide))))
              have fq318 := (Fld.other W308 (Fld.ext E294 (Fld.other W291 (Fld.ext E288 fq267) (Or.inr (slot_ne (Or.inr hw30) (Or.inr hw45) (by decide) (t := (.array .int)) (t' := (.array .int)) (by decide) (by decide))))) (Or.inr (slot_ne (Or.inr hw30) (Or.inr hw47) (by decide) (t := (.array .int)) (t' := (.array .int)) (by decide) (by decide))))
              have fq319 := (Fld.other W308 (Fld.ext E294 (Fld.other W291 (Fld.ext E288 fq268) (Or.inr (slot_ne (Or.inr hw32) (Or.inr hw45) (by decide) (t := (.array .int)) (t' := (.array .int)) (by decide) (by decide))))) (Or.inr (slot_ne (Or.inr hw32) (Or.inr hw47) (by decide) (t := (.array .int)) (t' := (.array .int)) (by decide) (by decide))))
              have fq320 := (Fld.other W308 (Fld.ext E294 (Fld.other W291 (Fld.ext E288 fq269) (Or.inr (slot_ne (Or.inr hw35) (Or.inr hw45) (by decide) (t := (.array .boolean)) (t' := (.array .int)) (by decide) (by decide))))) (Or.inr (slot_ne (Or.inr hw35) (Or.inr hw47) (by decide) (t := (.array .boolean)) (t' := (.array .int)) (by decide) (by decide))))
              have fq321 := (Fld.other W308 (Fld.ext E294 (Fld.other W291 (Fld.ext E288 fq272) (Or.inr (slot_ne (Or.inr hw49) (Or.inr hw45) (by decide) (t := (.array .int)) (t' := (.array .int)) (by decide) (by decide))))) (Or.inr (slot_ne (Or.inr hw49) (Or.inr hw47) (by decide) (t := (.array .int)) (t' := (.array .int)) (by decide) (by decide))))
              have fq322 := (Fld.other W308 (Fld.ext E294 (Fld.other W291 (Fld.ext E288 fq273) (Or.inr (slot_ne (Or.inr hw51) (Or.inr hw45) (by decide) (t := (.array .int)) (t' := (.array .int)) (by decide) (by decide))))) (Or.inr (slot_ne (Or.inr hw51) (Or.inr hw47) (by decide) (t := (.array .int)) (t' := (.array .int)) (by decide) (by decide))))
              have fq323 := (Fld.other W308 (Fld.ext E294 (Fld.other W291 (Fld.ext E288 fq274) (Or.inr (slot_ne (Or.inr hw53) (Or.inr hw45) (by decide) (t := (.array .int)) (t' := (.array .int)) (by decide) (by decide))))) (Or.inr (slot_ne (Or.inr hw53) (Or.inr hw47) (by decide) (t := (.array .int)) (t' := (.array .int)) (by decide) (by decide))))
              have fq324 := (Fld.other W308 (Fld.ext E294 (Fld.other W291 (Fld.ext E288 fq275) (Or.inr (slot_ne (Or.inr hw55) (Or.inr hw45) (by decide) (t := (.array .int)) (t' := (.array .int)) (by decide) (by decide))))) (Or.inr (slot_ne (Or.inr hw55) (Or.inr hw47) (by decide) (t := (.array .int)) (t' := (.array .int)) (by decide) (by decide))))
              have fq325 := (Fld.other W308 (Fld.ext E294 (Fld.other W291 (Fld.ext E288 fq276) (Or.inr (slot_ne (Or.inr hw57) (Or.inr hw45) (by decide) (t := (.array .int)) (t' := (.array .int)) (by decide) (by decide))))) (Or.inr (slot_ne (Or.inr hw57) (Or.inr hw47) (by decide) (t := (.array .int)) (t' := (.array .int)) (by decide) (by decide))))
              have fq326 := ((fq296.ext E294).other W308 ne_a2_a1)
              have fq327 := ((fq297.ext E294).other W308 ne_a4_a1)
              have fq328 := ((fq301.ext E294).other W308 (Ne.symm ne_a1_b41))
              have fq329 := ((fq302.ext E294).other W308 (Ne.symm ne_a1_b47))
              have fq330 := ((fq303.ext E294).other W308 (Ne.symm ne_a1_b85))
              have fq331 := ((fq304.ext E294).other W308 (Ne.symm ne_a1_b91))
              have fq332 := ((fq298.ext E294).other W308 (Ne.symm ne_a1_b133))
              have fq333 := ((fq299.ext E294).other W308 (Ne.symm ne_a1_b139))
              have z334 : n0 ≤ h308.size := (Nat.le_trans (Nat.le_trans z305 E294.1) (Keep.of_wr W308).1)
              obtain ⟨Lc335, Xc335, Nc335⟩ : ∃ L, Stand p l e ({ frames := 1, cells := 18, slots := 86, locals := 13 } : Room) s m #[(.ref a1), (.ref a2), (.ref a3), (.ref a4), (.ref a5)] below meth c T308 L 12 55 ∧ Fr n0 L := ⟨_, X308, N308⟩
              clear e257 pre258 fq259 fq260 fq261 fq262 fq263 fq264 fq265 fq266 fq267 fq268 fq269 fq270 fq271 fq272 fq273 fq274 fq275 fq276 fq277 fq278 fq279 fq280 fq281 fq282 fq283 fq284 z285 Xc286 Nc286 X287 e287 st287 g288 X288 e288 E288 A288 st288 g_b288 ne_a1_b288 ne_a2_b288 ne_a4_b288 ne_b133_b288 ne_b139_b288 ne_b41_b288 ne_b47_b288 ne_b85_b288 ne_b91_b288 V288 fq289 fq290 X291 e291 W291 st291 Fw291 N291 fq292 X293 e293 st293 fq295 fq296 fq297 fq298 fq299 fq300 fq301 fq302 fq303 fq304 z305 g294 X294 e294 E294 A294 st294 g_b294 ne_a1_b294 ne_a2_b294 ne_a4_b294 ne_b133_b294 ne_b139_b294 ne_b288_b294 ne_b41_b294 ne_b47_b294 ne_b85_b294 ne_b91_b294 V294 fq306 fq307 X308 W308 st308 Fw308 N308
              try clear k294
              try clear h294
              try clear T294
              try clear b294
              try clear T293
              try clear h291
              try clear T291
              try clear k288
              try clear h288
              try clear T288
              try clear b288
              try clear T287
              try clear Lc286
              try clear h257
              try clear T257
              as_aux_lemma =>
                obtain ⟨T336, X336, e336, st336⟩ := getF Xc335 hx hZ hown (host := "") (Or.inl hw15) Via.refl e308 fq314 (g := (mkF m 146 #[.val (.ref a1), .val (.ref a2), .val (.ref a3), .val (.ref a4), .val (.ref a5), .unset, .unset, .unset, .unset, .unset] [(.ref a1), (.ref a1)])) rfl rfl (hb hby d2_146)
                obtain ⟨b337, g337⟩ : ∃ z, z = h308.size := ⟨_, rfl⟩
                obtain ⟨T337, h337, k337, X337, e337, E337, A337, st337⟩ := newP X336 hx hZ (hw _ (List.mem_of_getElem? (i := 0) rfl)) e336 (g := (mkF m 149 #[.val (.ref a1), .val (.ref a2), .val (.ref a3), .val (.ref a4), .val (.ref a5), .unset, .unset, .unset, .unset, .unset] [(.int (5 : Int32)), (.ref a1)])) rfl (hb hby d2_149) rfl (by decide) (cap := 5) (by decide) (by decide) (by decide) (by decide)
                rw [← g337] at A337 st337
                have g_b337 : n0 ≤ b337 := Nat.le_trans z334 (Nat.le_of_eq g337.symm)
                have ne_a1_b337 : a1 ≠ b337 := Nat.ne_of_lt (Nat.lt_of_lt_of_le fq310.lt (Nat.le_of_eq g337.symm))
                have ne_a2_b337 : a2 ≠ b337 := Nat.ne_of_lt (Nat.lt_of_lt_of_le fq326.lt (Nat.le_of_eq g337.symm))
                have ne_a4_b337 : a4 ≠ b337 := Nat.ne_of_lt (Nat.lt_of_lt_of_le fq327.lt (Nat.le_of_eq g337.symm))
                have ne_b133_b337 : b133 ≠ b337 := Nat.ne_of_lt (Nat.lt_of_lt_of_le fq332.lt (Nat.le_of_eq g337.symm))
                have ne_b139_b337 : b139 ≠ b337 := Nat.ne_of_lt (Nat.lt_of_lt_of_le fq333.lt (Nat.le_of_eq g337.symm))
                have ne_b41_b337 : b41 ≠ b337 := Nat.ne_of_lt (Nat.lt_of_lt_of_le fq328.lt (Nat.le_of_eq g337.symm))
                have ne_b47_b337 : b47 ≠ b337 := Nat.ne_of_lt (Nat.lt_of_lt_of_le fq329.lt (Nat.le_of_eq g337.symm))
                have ne_b85_b337 : b85 ≠ b337 := Nat.ne_of_lt (Nat.lt_of_lt_of_le fq330.lt (Nat.le_of_eq g337.symm))
                have ne_b91_b337 : b91 ≠ b337 := Nat.ne_of_lt (Nat.lt_of_lt_of_le fq331.lt (Nat.le_of_eq g337.symm))
                have V337 : Arv Z h337 b337 k337 .int (5 : Int32) [(.int (0 : Int32)), (.int (0 : Int32)), (.int (0 : Int32)), (.int (0 : Int32)), (.int (0 : Int32))] (.int (0 : Int32)) := (Arv.new A337 (by decide)).pad (pad_rep [] (.int (0 : Int32)) 5)
                have fq338 := (Exa.ext E337 fq310)
                have fq339 := (Fld.ext E337 fq321)
                obtain ⟨T340, h340, X340, e340, W340, st340⟩ := putF X337 hx hZ hown (host := "") (Or.inl hw48) Via.refl e337 fq339 fq338 (Or.inr ⟨hw49, rfl, hnm⟩) hw7 (ty := (.array .int)) (by decide) rfl rfl (g := (mkF m 151 #[.val (.ref a1), .val (.ref a2), .val (.ref a3), .val (.ref a4), .val (.ref a5), .unset, .unset, .unset, .unset, .unset] [(.ref b337), (.ref a1)])) rfl rfl (hb hby d2_151)
                have Fw340 := Fld.same W340 fq339
                have N340 := Fr.snoc X340 Nc335 g_a1
                have fq341 := (Fld.other W340 (Fld.ext E337 fq314) (Or.inr (slot_ne (Or.inr hw16) (Or.inr hw49) (by decide) (t := .int) (t' := (.array .int)) (by decide) (by decide))))
                obtain ⟨T342, X342, e342, st342⟩ := getF X340 hx hZ hown (host := "") (Or.inl hw15) Via.refl e340 fq341 (g := (mkF m 156 #[.val (.ref a1), .val (.ref a2), .val (.ref a3), .val (.ref a4), .val (.ref a5), .unset, .unset, .unset, .unset, .unset] [(.ref a1), (.ref a1)])) rfl rfl (hb hby d2_156)
                have fq344 := (Exa.wr W340 fq338)
                have fq345 := ((fq326.ext E337).other W340 ne_a2_a1)
                have fq346 := ((fq327.ext E337).other W340 ne_a4_a1)
                have fq347 := ((fq332.ext E337).other W340 (Ne.symm ne_a1_b133))
                have fq348 := ((fq333.ext E337).other W340 (Ne.symm ne_a1_b139))
                have fq349 := (V337.other W340 (Ne.symm ne_a1_b337))
                have fq350 := ((fq328.ext E337).other W340 (Ne.symm ne_a1_b41))
                have fq351 := ((fq329.ext E337).other W340 (Ne.symm ne_a1_b47))
                have fq352 := ((fq330.ext E337).other W340 (Ne.symm ne_a1_b85))
                have fq353 := ((fq331.ext E337).other W340 (Ne.symm ne_a1_b91))
                have z354 : n0 ≤ h340.size := (Nat.le_trans (Nat.le_trans z334 E337.1) (Keep.of_wr W340).1)
                obtain ⟨b343, g343⟩ : ∃ z, z = h340.size := ⟨_, rfl⟩
                obtain ⟨T343, h343, k343, X343, e343, E343, A343, st343⟩ := newP X342 hx hZ (hw _ (List.mem_of_getElem? (i := 0) rfl)) e342 (g := (mkF m 159 #[.val (.ref a1), .val (.ref a2), .val (.ref a3), .val (.ref a4), .val (.ref a5), .unset, .unset, .unset, .unset, .unset] [(.int (5 : Int32)), (.ref a1)])) rfl (hb hby d2_159) rfl (by decide) (cap := 5) (by decide) (by decide) (by decide) (by decide)
                rw [← g343] at A343 st343
                have g_b343 : n0 ≤ b343 := Nat.le_trans z354 (Nat.le_of_eq g343.symm)
                have ne_a1_b343 : a1 ≠ b343 := Nat.ne_of_lt (Nat.lt_of_lt_of_le fq344.lt (Nat.le_of_eq g343.symm))
                have ne_a2_b343 : a2 ≠ b343 := Nat.ne_of_lt (Nat.lt_of_lt_of_le fq345.lt (Nat.le_of_eq g343.symm))
                have ne_a4_b343 : a4 ≠ b343 := Nat.ne_of_lt (Nat.lt_of_lt_of_le fq346.lt (Nat.le_of_eq g343.symm))
                have ne_b133_b343 : b133 ≠ b343 := Nat.ne_of_lt (Nat.lt_of_lt_of_le fq347.lt (Nat.le_of_eq g343.symm))
                have ne_b139_b343 : b139 ≠ b343 := Nat.ne_of_lt (Nat.lt_of_lt_of_le fq348.lt (Nat.le_of_eq g343.symm))
                have ne_b337_b343 : b337 ≠ b343 := Nat.ne_of_lt (Nat.lt_of_lt_of_le fq349.lt (Nat.le_of_eq g343.symm))
                have ne_b41_b343 : b41 ≠ b343 := Nat.ne_of_lt (Nat.lt_of_lt_of_le fq350.lt (Nat.le_of_eq g343.symm))
                have ne_b47_b343 : b47 ≠ b343 := Nat.ne_of_lt (Nat.lt_of_lt_of_le fq351.lt (Nat.le_of_eq g343.symm))
                have ne_b85_b343 : b85 ≠ b343 := Nat.ne_of_lt (Nat.lt_of_lt_of_le fq352.lt (Nat.le_of_eq g343.symm))
                have ne_b91_b343 : b91 ≠ b343 := Nat.ne_of_lt (Nat.lt_of_lt_of_le fq353.lt (Nat.le_of_eq g343.symm))
                have V343 : Arv Z h343 b343 k343 .int (5 : Int32) [(.int (0 : Int32)), (.int (0 : Int32)), (.int (0 : Int32)), (.int (0 : Int32)), (.int (0 : Int32))] (.int (0 : Int32)) := (Arv.new A343 (by decide)).pad (pad_rep [] (.int (0 : Int32)) 5)
                have fq355 := (Exa.ext E343 fq344)
                have fq356 := (Fld.ext E343 (Fld.other W340 (Fld.ext E337 fq322) (Or.inr (slot_ne (Or.inr hw51) (Or.inr hw49) (by decide) (t := (.array .int)) (t' := (.array .int)) (by decide) (by decide)))))
                obtain ⟨T357, h357, X357, e357, W357, st357⟩ := putF X343 hx hZ hown (host := "") (Or.inl hw50) Via.refl e343 fq356 fq355 (Or.inr ⟨hw51, rfl, hnm⟩) hw7 (ty := (.array .int)) (by decide) rfl rfl (g := (mkF m 161 #[.val (.ref a1), .val (.ref a2), .val (.ref a3), .val (.ref a4), .val (.ref a5), .unset, .unset, .unset, .unset, .unset] [(.ref b343), (.ref a1)])) rfl rfl (hb hby d2_161)
                have Fw357 := Fld.same W357 fq356
                have N357 := Fr.snoc X357 N340 g_a1
                have pre358 : ∀ t, Steps p.tables e below (T357.setTop (mkF m 164 #[.val (.ref a1), .val (.ref a2), .val (.ref a3), .val (.ref a4), .val (.ref a5), .unset, .unset, .unset, .unset, .unset] [])) t → Steps p.tables e below (s₁.setTop (entryFrame m #[(.ref a1), (.ref a2), (.ref a3), (.ref a4), (.ref a5)] 10)) t := fun t kt => by
                  refine pre309 t ?_
                  show Steps p.tables e below (T308.setTop (mkF m 144 #[.val (.ref a1), .val (.ref a2), .val (.ref a3), .val (.ref a4), .val (.ref a5), .unset, .unset, .unset, .unset, .unset] [])) _
                  refine XS.aloadN Xc335.here hx rfl (hb hby d2_144) rfl rfl ?_
                  show Steps p.tables e below (T308.setTop (mkF m 145 #[.val (.ref a1), .val (.ref a2), .val (.ref a3), .val (.ref a4), .val (.ref a5), .unset, .unset, .unset, .unset, .unset] [(.ref a1)])) _
                  refine XS.aloadN Xc335.here hx rfl (hb hby d2_145) rfl rfl ?_
                  show Steps p.tables e below (T308.setTop (mkF m 146 #[.val (.ref a1), .val (.ref a2), .val (.ref a3), .val (.ref a4), .val (.ref a5), .unset, .unset, .unset, .unset, .unset] [(.ref a1), (.ref a1)])) _
                  refine st336 _ ?_
                  show Steps p.tables e below (T336.setTop (mkF m 149 #[.val (.ref a1), .val (.ref a2), .val (.ref a3), .val (.ref a4), .val (.ref a5), .unset, .unset, .unset, .unset, .unset] [(.int (5 : Int32)), (.ref a1)])) _
                  refine st337 _ ?_
                  show Steps p.tables e below (T337.setTop (mkF m 151 #[.val (.ref a1), .val (.ref a2), .val (.ref a3), .val (.ref a4), .val (.ref a5), .unset, .unset, .unset, .unset, .unset] [(.ref b337), (.ref a1)])) _
                  refine st340 _ ?_
                  show Steps p.tables e below (T340.setTop (mkF m 154 #[.val (.ref a1), .val (.ref a2), .val (.ref a3), .val (.ref a4), .val (.ref a5), .unset, .unset, .unset, .unset, .unset] [])) _
                  refine XS.aloadN X340.here hx rfl (hb hby d2_154) rfl rfl ?_
                  show Steps p.tables e below (T340.setTop (mkF m 155 #[.val (.ref a1), .val (.ref a2), .val (.ref a3), .val (.ref a4), .val (.ref a5), .unset, .unset, .unset, .unset, .unset] [(.ref a1)])) _
                  refine XS.aloadN X340.here hx rfl (hb hby d2_155) rfl rfl ?_
                  show Steps p.tables e below (T340.setTop (mkF m 156 #[.val (.ref a1), .val (.ref a2), .val (.ref a3), .val (.ref a4), .val (.ref a5), .unset, .unset, .unset, .unset, .unset] [(.ref a1), (.ref a1)])) _
                  refine st342 _ ?_
                  show Steps p.tables e below (T342.setTop (mkF m 159 #[.val (.ref a1), .val (.ref a2), .val (.ref a3), .val (.ref a4), .val (.ref a5), .unset, .unset, .unset, .unset, .unset] [(.int (5 : Int32)), (.ref a1)])) _
                  refine st343 _ ?_
                  show Steps p.tables e below (T343.setTop (mkF m 161 #[.val (.ref a1), .val (.ref a2), .val (.ref a3), .val (.ref a4), .val (.ref a5), .unset, .unset, .unset, .unset, .unset] [(.ref b343), (.ref a1)])) _
                  refine st357 _ ?_
                  exact kt
                have fq359 := (Exa.wr W357 fq355)
                have fq360 := (Fld.other W357 (Fld.ext E343 (Fld.other W340 (Fld.ext E337 fq311) (Or.inr (slot_ne (Or.inl hw65) (Or.inr hw49) (by decide) (t := .int) (t' := (.array .int)) (by decide) (by decide))))) (Or.inr (slot_ne (Or.inl hw65) (Or.inr hw51) (by decide) (t := .int) (t' := (.array .int)) (by decide) (by decide))))
                have fq361 := (Fld.other W357 (Fld.ext E343 (Fld.other W340 (Fld.ext E337 fq312) (Or.inr (slot_ne (Or.inl hw67) (Or.inr hw49) (by decide) (t := .int) (t' := (.array .int)) (by decide) (by decide))))) (Or.inr (slot_ne (Or.inl hw67) (Or.inr hw51) (by decide) (t := .int) (t' := (.array .int)) (by decide) (by decide))))
                have fq362 := (Fld.other W357 (Fld.ext E343 (Fld.other W340 (Fld.ext E337 fq313) (Or.inr (slot_ne (Or.inl hw59) (Or.inr hw49) (by decide) (t := .int) (t' := (.array .int)) (by decide) (by decide))))) (Or.inr (slot_ne (Or.inl hw59) (Or.inr hw51) (by decide) (t := .int) (t' := (.array .int)) (by decide) (by decide))))
                have fq363 := (Fld.other W357 (Fld.ext E343 fq341) (Or.inr (slot_ne (Or.inr hw16) (Or.inr hw51) (by decide) (t := .int) (t' := (.array .int)) (by decide) (by decide))))
                have fq364 := (Fld.other W357 (Fld.ext E343 (Fld.other W340 (Fld.ext E337 fq315) (Or.inr (slot_ne (Or.inr hw24) (Or.inr hw49) (by decide) (t := (.array .int)) (t' := (.array .int)) (by decide) (by decide))))) (Or.inr (slot_ne (Or.inr hw24) (Or.inr hw51) (by decide) (t := (.array .int)) (t' := (.array .int)) (by decide) (by decide))))
                have fq365 := (Fld.other W357 (Fld.ext E343 (Fld.other W340 (Fld.ext E337 fq316) (Or.inr (slot_ne (Or.inr hw26) (Or.inr hw49) (by decide) (t := (.array .int)) (t' := (.array .int)) (by decide) (by decide))))) (Or.inr (slot_ne (Or.inr hw26) (Or.inr hw51) (by decide) (t := (.array .int)) (t' := (.array .int)) (by decide) (by decide))))
                have fq366 := (Fld.other W357 (Fld.ext E343 (Fld.other W340 (Fld.ext E337 fq317) (Or.inr (slot_ne (Or.inr hw28) (Or.inr hw49) (by decide) (t := (.array .int)) (t' := (.array .int)) (by decide) (by decide))))) (Or.inr (slot_ne (Or.inr hw28) (Or.inr hw51) (by decide) (t := (.array .int)) (t' := (.array .int)) (by decide) (by decide))))
                have fq367 := (Fld.other W357 (Fld.ext E343 (Fld.other W340 (Fld.ext E337 fq318) (Or.inr (slot_ne (Or.inr hw30) (Or.inr hw49) (by decide) (t := (.array .int)) (t' := (.array .int)) (by decide) (by decide))))) (Or.inr (slot_ne (Or.inr hw30) (Or.inr hw51) (by decide) (t := (.array .int)) (t' := (.array .int)) (by decide) (by decide))))
                have fq368 := (Fld.other W357 (Fld.ext E343 (Fld.other W340 (Fld.ext E337 fq319) (Or.inr (slot_ne (Or.inr hw32) (Or.inr hw49) (by decide) (t := (.array .int)) (t' := (.array .int)) (by decide) (by decide))))) (Or.inr (slot_ne (Or.inr hw32) (Or.inr hw51) (by decide) (t := (.array .int)) (t' := (.array .int)) (by decide) (by decide))))
                have fq369 := (Fld.other W357 (Fld.ext E343 (Fld.other W340 (Fld.ext E337 fq320) (Or.inr (slot_ne (Or.inr hw35) (Or.inr hw49) (by decide) (t := (.array .boolean)) (t' := (.array .int)) (by decide) (by decide))))) (Or.inr (slot_ne (Or.inr hw35) (Or.inr hw51) (by decide) (t := (.array .boolean)) (t' := (.array .int)) (by decide) (by decide))))
                have fq370 := (Fld.other W357 (Fld.ext E343 (Fld.other W340 (Fld.ext E337 fq323) (Or.inr (slot_ne (Or.inr hw53) (Or.inr hw49) (by decide) (t := (.array .int)) (t' := (.array .int)) (by decide) (by decide))))) (Or.inr (slot_ne (Or.inr hw53) (Or.inr hw51) (by decide) (t := (.array .int)) (t' := (.array .int)) (by decide) (by decide))))
                have fq371 := (Fld.other W357 (Fld.ext E343 (Fld.other W340 (Fld.ext E337 fq324) (Or.inr (slot_ne (Or.inr hw55) (Or.inr hw49) (by decide) (t := (.array .int)) (t' := (.array .int)) (by decide) (by decide))))) (Or.inr (slot_ne (Or.inr hw55) (Or.inr hw51) (by decide) (t := (.array .int)) (t' := (.array .int)) (by decide) (by decide))))
                have fq372 := (Fld.other W357 (Fld.ext E343 (Fld.other W340 (Fld.ext E337 fq325) (Or.inr (slot_ne (Or.inr hw57) (Or.inr hw49) (by decide) (t := (.array .int)) (t' := (.array .int)) (by decide) (by decide))))) (Or.inr (slot_ne (Or.inr hw57) (Or.inr hw51) (by decide) (t := (.array .int)) (t' := (.array .int)) (by decide) (by decide))))
                have fq373 := ((fq345.ext E343).other W357 ne_a2_a1)
                have fq374 := ((fq346.ext E343).other W357 ne_a4_a1)
                have fq375 := ((fq350.ext E343).other W357 (Ne.symm ne_a1_b41))
                have fq376 := ((fq351.ext E343).other W357 (Ne.symm ne_a1_b47))
                have fq377 := ((fq352.ext E343).other W357 (Ne.symm ne_a1_b85))
                have fq378 := ((fq353.ext E343).other W357 (Ne.symm ne_a1_b91))
                have fq379 := ((fq347.ext E343).other W357 (Ne.symm ne_a1_b133))
                have fq380 := ((fq348.ext E343).other W357 (Ne.symm ne_a1_b139))
                have z381 : n0 ≤ h357.size := (Nat.le_trans (Nat.le_trans z354 E343.1) (Keep.of_wr W357).1)
                obtain ⟨Lc382, Xc382, Nc382⟩ : ∃ L, Stand p l e ({ frames := 1, cells := 18, slots := 86, locals := 13 } : Room) s m #[(.ref a1), (.ref a2), (.ref a3), (.ref a4), (.ref a5)] below meth c T357 L 14 65 ∧ Fr n0 L := ⟨_, X357, N357⟩
                clear e308 pre309 fq310 fq311 fq312 fq313 fq314 fq315 fq316 fq317 fq318 fq319 fq320 fq321 fq322 fq323 fq324 fq325 fq326 fq327 fq328 fq329 fq330 fq331 fq332 fq333 z334 Xc335 Nc335 X336 e336 st336 g337 X337 e337 E337 A337 st337 g_b337 ne_a1_b337 ne_a2_b337 ne_a4_b337 ne_b133_b337 ne_b139_b337 ne_b41_b337 ne_b47_b337 ne_b85_b337 ne_b91_b337 V337 fq338 fq339 X340 e340 W340 st340 Fw340 N340 fq341 X342 e342 st342 fq344 fq345 fq346 fq347 fq348 fq349 fq350 fq351 fq352 fq353 z354 g343 X343 e343 E343 A343 st343 g_b343 ne_a1_b343 ne_a2_b343 ne_a4_b343 ne_b133_b343 ne_b139_b343 ne_b337_b343 ne_b41_b343 ne_b47_b343 ne_b85_b343 ne_b91_b343 V343 fq355 fq356 X357 W357 st357 Fw357 N357
                try clear k343
                try clear h343
                try clear T343
                try clear b343
                try clear T342
                try clear h340
                try clear T340
                try clear k337
                try clear h337
                try clear T337
                try clear b337
                try clear T336
                try clear Lc335
                try clear h308
                try clear T308
                as_aux_lemma =>
                  obtain ⟨T383, X383, e383, st383⟩ := getF Xc382 hx hZ hown (host := "") (Or.inl hw15) Via.refl e357 fq363 (g := (mkF m 166 #[.val (.ref a1), .val (.ref a2), .val (.ref a3), .val (.ref a4), .val (.ref a5), .unset, .unset, .unset, .unset, .unset] [(.ref a1), (.ref a1)])) rfl rfl (hb hby d2_166)
                  obtain ⟨b384, g384⟩ : ∃ z, z = h357.size := ⟨_, rfl⟩
                  obtain ⟨T384, h384, k384, X384, e384, E384, A384, st384⟩ := newP X383 hx hZ (hw _ (List.mem_of_getElem? (i := 0) rfl)) e383 (g := (mkF m 169 #[.val (.ref a1), .val (.ref a2), .val (.ref a3), .val (.ref a4), .val (.ref a5), .unset, .unset, .unset, .unset, .unset] [(.int (5 : Int32)), (.ref a1)])) rfl (hb hby d2_169) rfl (by decide) (cap := 5) (by decide) (by decide) (by decide) (by decide)
                  rw [← g384] at A384 st384
                  have g_b384 : n0 ≤ b384 := Nat.le_trans z381 (Nat.le_of_eq g384.symm)
                  have ne_a1_b384 : a1 ≠ b384 := Nat.ne_of_lt (Nat.lt_of_lt_of_le fq359.lt (Nat.le_of_eq g384.symm))
                  have ne_a2_b384 : a2 ≠ b384 := Nat.ne_of_lt (Nat.lt_of_lt_of_le fq373.lt (Nat.le_of_eq g384.symm))
                  have ne_a4_b384 : a4 ≠ b384 := Nat.ne_of_lt (Nat.lt_of_lt_of_le fq374.lt (Nat.le_of_eq g384.symm))
                  have ne_b133_b384 : b133 ≠ b384 := Nat.ne_of_lt (Nat.lt_of_lt_of_le fq379.lt (Nat.le_of_eq g384.symm))
                  have ne_b139_b384 : b139 ≠ b384 := Nat.ne_of_lt (Nat.lt_of_lt_of_le fq380.lt (Nat.le_of_eq g384.symm))
                  have ne_b41_b384 : b41 ≠ b384 := Nat.ne_of_lt (Nat.lt_of_lt_of_le fq375.lt (Nat.le_of_eq g384.symm))
                  have ne_b47_b384 : b47 ≠ b384 := Nat.ne_of_lt (Nat.lt_of_lt_of_le fq376.lt (Nat.le_of_eq g384.symm))
                  have ne_b85_b384 : b85 ≠ b384 := Nat.ne_of_lt (Nat.lt_of_lt_of_le fq377.lt (Nat.le_of_eq g384.symm))
                  have ne_b91_b384 : b91 ≠ b384 := Nat.ne_of_lt (Nat.lt_of_lt_of_le fq378.lt (Nat.le_of_eq g384.symm))
                  have V384 : Arv Z h384 b384 k384 .int (5 : Int32) [(.int (0 : Int32)), (.int (0 : Int32)), (.int (0 : Int32)), (.int (0 : Int32)), (.int (0 : Int32))] (.int (0 : Int32)) := (Arv.new A384 (by decide)).pad (pad_rep [] (.int (0 : Int32)) 5)
                  have fq385 := (Exa.ext E384 fq359)
                  have fq386 := (Fld.ext E384 fq370)
                  obtain ⟨T387, h387, X387, e387, W387, st387⟩ := putF X384 hx hZ hown (host := "") (Or.inl hw52) Via.refl e384 fq386 fq385 (Or.inr ⟨hw53, rfl, hnm⟩) hw7 (ty := (.array .int)) (by decide) rfl rfl (g := (mkF m 171 #[.val (.ref a1), .val (.ref a2), .val (.ref a3), .val (.ref a4), .val (.ref a5), .unset, .unset, .unset, .unset, .unset] [(.ref b384), (.ref a1)])) rfl rfl (hb hby d2_171)
                  have Fw387 := Fld.same W387 fq386
                  have N387 := Fr.snoc X387 Nc382 g_a1
                  have fq388 := (Fld.other W387 (Fld.ext E384 fq363) (Or.inr (slot_ne (Or.inr hw16) (Or.inr hw53) (by decide) (t := .int) (t' := (.array .int)) (by decide) (by decide))))
                  obtain ⟨T389, X389, e389, st389⟩ := getF X387 hx hZ hown (host := "") (Or.inl hw15) Via.refl e387 fq388 (g := (mkF m 176 #[.val (.ref a1), .val (.ref a2), .val (.ref a3), .val (.ref a4), .val (.ref a5), .unset, .unset, .unset, .unset, .unset] [(.ref a1), (.ref a1)])) rfl rfl (hb hby d2_176)
                  have fq391 := (Exa.wr W387 fq385)
                  have fq392 := ((fq373.ext E384).other W387 ne_a2_a1)
                  have fq393 := ((fq374.ext E384).other W387 ne_a4_a1)
                  have fq394 := ((fq379.ext E384).other W387 (Ne.symm ne_a1_b133))
                  have fq395 := ((fq380.ext E384).other W387 (Ne.symm ne_a1_b139))
                  have fq396 := (V384.other W387 (Ne.symm ne_a1_b384))
                  have fq397 := ((fq375.ext E384).other W387 (Ne.symm ne_a1_b41))
                  have fq398 := ((fq376.ext E384).other W387 (Ne.symm ne_a1_b47))
                  have fq399 := ((fq377.ext E384).other W387 (Ne.symm ne_a1_b85))
                  have fq400 := ((fq378.ext E384).other W387 (Ne.symm ne_a1_b91))
                  have z401 : n0 ≤ h387.size := (Nat.le_trans (Nat.le_trans z381 E384.1) (Keep.of_wr W387).1)
                  obtain ⟨b390, g390⟩ : ∃ z, z = h387.size := ⟨_, rfl⟩
                  obtain ⟨T390, h390, k390, X390, e390, E390, A390, st390⟩ := newP X389 hx hZ (hw _ (List.mem_of_getElem? (i := 0) rfl)) e389 (g := (mkF m 179 #[.val (.ref a1), .val (.ref a2), .val (.ref a3), .val (.ref a4), .val (.ref a5), .unset, .unset, .unset, .unset, .unset] [(.int (5 : Int32)), (.ref a1)])) rfl (hb hby d2_179) rfl (by decide) (cap := 5) (by decide) (by decide) (by decide) (by decide)
                  rw [← g390] at A390 st390
                  have g_b390 : n0 ≤ b390 := Nat.le_trans z401 (Nat.le_of_eq g390.symm)
                  have ne_a1_b390 : a1 ≠ b390 := Nat.ne_of_lt (Nat.lt_of_lt_of_le fq391.lt (Nat.le_of_eq g390.symm))
                  have ne_a2_b390 : a2 ≠ b390 := Nat.ne_of_lt (Nat.lt_of_lt_of_le fq392.lt (Nat.le_of_eq g390.symm))
                  have ne_a4_b390 : a4 ≠ b390 := Nat.ne_of_lt (Nat.lt_of_lt_of_le fq393.lt (Nat.le_of_eq g390.symm))
                  have ne_b133_b390 : b133 ≠ b390 := Nat.ne_of_lt (Nat.lt_of_lt_of_le fq394.lt (Nat.le_of_eq g390.symm))
                  have ne_b139_b390 : b139 ≠ b390 := Nat.ne_of_lt (Nat.lt_of_lt_of_le fq395.lt (Nat.le_of_eq g390.symm))
                  have ne_b384_b390 : b384 ≠ b390 := Nat.ne_of_lt (Nat.lt_of_lt_of_le fq396.lt (Nat.le_of_eq g390.symm))
                  have ne_b41_b390 : b41 ≠ b390 := Nat.ne_of_lt (Nat.lt_of_lt_of_le fq397.lt (Nat.le_of_eq g390.symm))
                  have ne_b47_b390 : b47 ≠ b390 := Nat.ne_of_lt (Nat.lt_of_lt_of_le fq398.lt (Nat.le_of_eq g390.symm))
                  have ne_b85_b390 : b85 ≠ b390 := Nat.ne_of_lt (Nat.lt_of_lt_of_le fq399.lt (Nat.le_of_eq g390.symm))
                  have ne_b91_b390 : b91 ≠ b390 := Nat.ne_of_lt (Nat.lt_of_lt_of_le fq400.lt (Nat.le_of_eq g390.symm))
                  have V390 : Arv Z h390 b390 k390 .int (5 : Int32) [(.int (0 : Int32)), (.int (0 : Int32)), (.int (0 : Int32)), (.int (0 : Int32)), (.int (0 : Int32))] (.int (0 : Int32)) := (Arv.new A390 (by decide)).pad (pad_rep [] (.int (0 : Int32)) 5)
                  have fq402 := (Exa.ext E390 fq391)
                  have fq403 := (Fld.ext E390 (Fld.other W387 (Fld.ext E384 fq371) (Or.inr (slot_ne (Or.inr hw55) (Or.inr hw53) (by decide) (t := (.array .int)) (t' := (.array .int)) (by decide) (by decide)))))
                  obtain ⟨T404, h404, X404, e404, W404, st404⟩ := putF X390 hx hZ hown (host := "") (Or.inl hw54) Via.refl e390 fq403 fq402 (Or.inr ⟨hw55, rfl, hnm⟩) hw7 (ty := (.array .int)) (by decide) rfl rfl (g := (mkF m 181 #[.val (.ref a1), .val (.ref a2), .val (.ref a3), .val (.ref a4), .val (.ref a5), .unset, .unset, .unset, .unset, .unset] [(.ref b390), (.ref a1)])) rfl rfl (hb hby d2_181)
                  have Fw404 := Fld.same W404 fq403
                  have N404 := Fr.snoc X404 N387 g_a1
                  have pre405 : ∀ t, Steps p.tables e below (T404.setTop (mkF m 184 #[.val (.ref a1), .val (.ref a2), .val (.ref a3), .val (.ref a4), .val (.ref a5), .unset, .unset, .unset, .unset, .unset] [])) t → Steps p.tables e below (s₁.setTop (entryFrame m #[(.ref a1), (.ref a2), (.ref a3), (.ref a4), (.ref a5)] 10)) t := fun t kt => by
                    refine pre358 t ?_
                    show Steps p.tables e below (T357.setTop (mkF m 164 #[.val (.ref a1), .val (.ref a2), .val (.ref a3), .val (.ref a4), .val (.ref a5), .unset, .unset, .unset, .unset, .unset] [])) _
                    refine XS.aloadN Xc382.here hx rfl (hb hby d2_164) rfl rfl ?_
                    show Steps p.tables e below (T357.setTop (mkF m 165 #[.val (.ref a1), .val (.ref a2), .val (.ref a3), .val (.ref a4), .val (.ref a5), .unset, .unset, .unset, .unset, .unset] [(.ref a1)])) _
                    refine XS.aloadN Xc382.here hx rfl (hb hby d2_165) rfl rfl ?_
                    show Steps p.tables e below (T357.setTop (mkF m 166 #[.val (.ref a1), .val (.ref a2), .val (.ref a3), .val (.ref a4), .val (.ref a5), .unset, .unset, .unset, .unset, .unset] [(.ref a1), (.ref a1)])) _
                    refine st383 _ ?_
                    show Steps p.tables e below (T383.setTop (mkF m 169 #[.val (.ref a1), .val (.ref a2), .val (.ref a3), .val (.ref a4), .val (.ref a5), .unset, .unset, .unset, .unset, .unset] [(.int (5 : Int32)), (.ref a1)])) _
                    refine st384 _ ?_
                    show Steps p.tables e below (T384.setTop (mkF m 171 #[.val (.ref a1), .val (.ref a2), .val (.ref a3), .val (.ref a4), .val (.ref a5), .unset, .unset, .unset, .unset, .unset] [(.ref b384), (.ref a1)])) _
                    refine st387 _ ?_
                    show Steps p.tables e below (T387.setTop (mkF m 174 #[.val (.ref a1), .val (.ref a2), .val (.ref a3), .val (.ref a4), .val (.ref a5), .unset, .unset, .unset, .unset, .unset] [])) _
                    refine XS.aloadN X387.here hx rfl (hb hby d2_174) rfl rfl ?_
                    show Steps p.tables e below (T387.setTop (mkF m 175 #[.val (.ref a1), .val (.ref a2), .val (.ref a3), .val (.ref a4), .val (.ref a5), .unset, .unset, .unset, .unset, .unset] [(.ref a1)])) _
                    refine XS.aloadN X387.here hx rfl (hb hby d2_175) rfl rfl ?_
                    show Steps p.tables e below (T387.setTop (mkF m 176 #[.val (.ref a1), .val (.ref a2), .val (.ref a3), .val (.ref a4), .val (.ref a5), .unset, .unset, .unset, .unset, .unset] [(.ref a1), (.ref a1)])) _
                    refine st389 _ ?_
                    show Steps p.tables e below (T389.setTop (mkF m 179 #[.val (.ref a1), .val (.ref a2), .val (.ref a3), .val (.ref a4), .val (.ref a5), .unset, .unset, .unset, .unset, .unset] [(.int (5 : Int32)), (.ref a1)])) _
                    refine st390 _ ?_
                    show Steps p.tables e below (T390.setTop (mkF m 181 #[.val (.ref a1), .val (.ref a2), .val (.ref a3), .val (.ref a4), .val (.ref a5), .unset, .unset, .unset, .unset, .unset] [(.ref b390), (.ref a1)])) _
                    refine st404 _ ?_
                    exact kt
                  have fq406 := (Exa.wr W404 fq402)
                  have fq407 := (Fld.other W404 (Fld.ext E390 (Fld.other W387 (Fld.ext E384 fq360) (Or.inr (slot_ne (Or.inl hw65) (Or.inr hw53) (by decide) (t := .int) (t' := (.array .int)) (by decide) (by decide))))) (Or.inr (slot_ne (Or.inl hw65) (Or.inr hw55) (by decide) (t := .int) (t' := (.array .int)) (by decide) (by decide))))
                  have fq408 := (Fld.other W404 (Fld.ext E390 (Fld.other W387 (Fld.ext E384 fq361) (Or.inr (slot_ne (Or.inl hw67) (Or.inr hw53) (by decide) (t := .int) (t' := (.array .int)) (by decide) (by decide))))) (Or.inr (slot_ne (Or.inl hw67) (Or.inr hw55) (by decide) (t := .int) (t' := (.array .int)) (by decide) (by decide))))
                  have fq409 := (Fld.other W404 (Fld.ext E390 (Fld.other W387 (Fld.ext E384 fq362) (Or.inr (slot_ne (Or.inl hw59) (Or.inr hw53) (by decide) (t := .int) (t' := (.array .int)) (by decide) (by decide))))) (Or.inr (slot_ne (Or.inl hw59) (Or.inr hw55) (by decide) (t := .int) (t' := (.array .int)) (by decide) (by decide))))
                  have fq410 := (Fld.other W404 (Fld.ext E390 fq388) (Or.inr (slot_ne (Or.inr hw16) (Or.inr hw55) (by decide) (t := .int) (t' := (.array .int)) (by decide) (by decide))))
                  have fq411 := (Fld.other W404 (Fld.ext E390 (Fld.other W387 (Fld.ext E384 fq364) (Or.inr (slot_ne (Or.inr hw24) (Or.inr hw53) (by decide) (t := (.array .int)) (t' := (.array .int)) (by decide) (by decide))))) (Or.inr (slot_ne (Or.inr hw24) (Or.inr hw55) (by decide) (t := (.array .int)) (t' := (.array .int)) (by decide) (by decide))))
                  have fq412 := (Fld.other W404 (Fld.ext E390 (Fld.other W387 (Fld.ext E384 fq365) (Or.inr (slot_ne (Or.inr hw26) (Or.inr hw53) (by decide) (t := (.array .int)) (t' := (.array .int)) (by decide) (by decide))))) (Or.inr (slot_ne (Or.inr hw26) (Or.inr hw55) (by decide) (t := (.array .int)) (t' := (.array .int)) (by decide) (by decide))))
                  have fq413 := (Fld.other W404 (Fld.ext E390 (Fld.other W387 (Fld.ext E384 fq366) (Or.inr (slot_ne (Or.inr hw28) (Or.inr hw53) (by decide) (t := (.array .int)) (t' := (.array .int)) (by decide) (by decide))))) (Or.inr (slot_ne (Or.inr hw28) (Or.inr hw55) (by decide) (t := (.array .int)) (t' := (.array .int)) (by decide) (by decide))))
                  have fq414 := (Fld.other W404 (Fld.ext E390 (Fld.other W387 (Fld.ext E384 fq367) (Or.inr (slot_ne (Or.inr hw30) (Or.inr hw53) (by decide) (t := (.array .int)) (t' := (.array .int)) (by decide) (by decide))))) (Or.inr (slot_ne (Or.inr hw30) (Or.inr hw55) (by decide) (t := (.array .int)) (t' := (.array .int)) (by decide) (by decide))))
                  have fq415 := (Fld.other W404 (Fld.ext E390 (Fld.other W387 (Fld.ext E384 fq368) (Or.inr (slot_ne (Or.inr hw32) (Or.inr hw53) (by decide) (t := (.array .int)) (t' := (.array .int)) (by decide) (by decide))))) (Or.inr (slot_ne (Or.inr hw32) (Or.inr hw55) (by decide) (t := (.array .int)) (t' := (.array .int)) (by decide) (by decide))))
                  have fq416 := (Fld.other W404 (Fld.ext E390 (Fld.other W387 (Fld.ext E384 fq369) (Or.inr (slot_ne (Or.inr hw35) (Or.inr hw53) (by decide) (t := (.array .boolean)) (t' := (.array .int)) (by decide) (by decide))))) (Or.inr (slot_ne (Or.inr hw35) (Or.inr hw55) (by decide) (t := (.array .boolean)) (t' := (.array .int)) (by decide) (by decide))))
                  have fq417 := (Fld.other W404 (Fld.ext E390 (Fld.other W387 (Fld.ext E384 fq372) (Or.inr (slot_ne (Or.inr hw57) (Or.inr hw53) (by decide) (t := (.array .int)) (t' := (.array .int)) (by decide) (by decide))))) (Or.inr (slot_ne (Or.inr hw57) (Or.inr hw55) (by decide) (t := (.array .int)) (t' := (.array .int)) (by decide) (by decide))))
                  have fq418 := ((fq392.ext E390).other W404 ne_a2_a1)
                  have fq419 := ((fq393.ext E390).other W404 ne_a4_a1)
                  have fq420 := ((fq397.ext E390).other W404 (Ne.symm ne_a1_b41))
                  have fq421 := ((fq398.ext E390).other W404 (Ne.symm ne_a1_b47))
                  have fq422 := ((fq399.ext E390).other W404 (Ne.symm ne_a1_b85))
                  have fq423 := ((fq400.ext E390).other W404 (Ne.symm ne_a1_b91))
                  have fq424 := ((fq394.ext E390).other W404 (Ne.symm ne_a1_b133))
                  have fq425 := ((fq395.ext E390).other W404 (Ne.symm ne_a1_b139))
                  have z426 : n0 ≤ h404.size := (Nat.le_trans (Nat.le_trans z401 E390.1) (Keep.of_wr W404).1)
                  obtain ⟨Lc427, Xc427, Nc427⟩ : ∃ L, Stand p l e ({ frames := 1, cells := 18, slots := 86, locals := 13 } : Room) s m #[(.ref a1), (.ref a2), (.ref a3), (.ref a4), (.ref a5)] below meth c T404 L 16 75 ∧ Fr n0 L := ⟨_, X404, N404⟩
                  clear e357 pre358 fq359 fq360 fq361 fq362 fq363 fq364 fq365 fq366 fq367 fq368 fq369 fq370 fq371 fq372 fq373 fq374 fq375 fq376 fq377 fq378 fq379 fq380 z381 Xc382 Nc382 X383 e383 st383 g384 X384 e384 E384 A384 st384 g_b384 ne_a1_b384 ne_a2_b384 ne_a4_b384 ne_b133_b384 ne_b139_b384 ne_b41_b384 ne_b47_b384 ne_b85_b384 ne_b91_b384 V384 fq385 fq386 X387 e387 W387 st387 Fw387 N387 fq388 X389 e389 st389 fq391 fq392 fq393 fq394 fq395 fq396 fq397 fq398 fq399 fq400 z401 g390 X390 e390 E390 A390 st390 g_b390 ne_a1_b390 ne_a2_b390 ne_a4_b390 ne_b133_b390 ne_b139_b390 ne_b384_b390 ne_b41_b390 ne_b47_b390 ne_b85_b390 ne_b91_b390 V390 fq402 fq403 X404 W404 st404 Fw404 N404
                  try clear k390
                  try clear h390
                  try clear T390
                  try clear b390
                  try clear T389
                  try clear h387
                  try clear T387
                  try clear k384
                  try clear h384
                  try clear T384
                  try clear b384
                  try clear T383
                  try clear Lc382
                  try clear h357
                  try clear T357
                  as_aux_lemma =>
                    obtain ⟨T428, X428, e428, st428⟩ := getF Xc427 hx hZ hown (host := "") (Or.inl hw15) Via.refl e404 fq410 (g := (mkF m 186 #[.val (.ref a1), .val (.ref a2), .val (.ref a3), .val (.ref a4), .val (.ref a5), .unset, .unset, .unset, .unset, .unset] [(.ref a1), (.ref a1)])) rfl rfl (hb hby d2_186)
                    obtain ⟨b429, g429⟩ : ∃ z, z = h404.size := ⟨_, rfl⟩
                    obtain ⟨T429, h429, k429, X429, e429, E429, A429, st429⟩ := newP X428 hx hZ (hw _ (List.mem_of_getElem? (i := 0) rfl)) e428 (g := (mkF m 189 #[.val (.ref a1), .val (.ref a2), .val (.ref a3), .val (.ref a4), .val (.ref a5), .unset, .unset, .unset, .unset, .unset] [(.int (5 : Int32)), (.ref a1)])) rfl (hb hby d2_189) rfl (by decide) (cap := 5) (by decide) (by decide) (by decide) (by decide)
                    rw [← g429] at A429 st429
                    have g_b429 : n0 ≤ b429 := Nat.le_trans z426 (Nat.le_of_eq g429.symm)
                    have ne_a1_b429 : a1 ≠ b429 := Nat.ne_of_lt (Nat.lt_of_lt_of_le fq406.lt (Nat.le_of_eq g429.symm))
                    have ne_a2_b429 : a2 ≠ b429 := Nat.ne_of_lt (Nat.lt_of_lt_of_le fq418.lt (Nat.le_of_eq g429.symm))
                    have ne_a4_b429 : a4 ≠ b429 := Nat.ne_of_lt (Nat.lt_of_lt_of_le fq419.lt (Nat.le_of_eq g429.symm))
                    have ne_b133_b429 : b133 ≠ b429 := Nat.ne_of_lt (Nat.lt_of_lt_of_le fq424.lt (Nat.le_of_eq g429.symm))
                    have ne_b139_b429 : b139 ≠ b429 := Nat.ne_of_lt (Nat.lt_of_lt_of_le fq425.lt (Nat.le_of_eq g429.symm))
                    have ne_b41_b429 : b41 ≠ b429 := Nat.ne_of_lt (Nat.lt_of_lt_of_le fq420.lt (Nat.le_of_eq g429.symm))
                    have ne_b47_b429 : b47 ≠ b429 := Nat.ne_of_lt (Nat.lt_of_lt_of_le fq421.lt (Nat.le_of_eq g429.symm))
                    have ne_b85_b429 : b85 ≠ b429 := Nat.ne_of_lt (Nat.lt_of_lt_of_le fq422.lt (Nat.le_of_eq g429.symm))
                    have ne_b91_b429 : b91 ≠ b429 := Nat.ne_of_lt (Nat.lt_of_lt_of_le fq423.lt (Nat.le_of_eq g429.symm))
                    have V429 : Arv Z h429 b429 k429 .int (5 : Int32) [(.int (0 : Int32)), (.int (0 : Int32)), (.int (0 : Int32)), (.int (0 : Int32)), (.int (0 : Int32))] (.int (0 : Int32)) := (Arv.new A429 (by decide)).pad (pad_rep [] (.int (0 : Int32)) 5)
                    have fq430 := (Exa.ext E429 fq406)
                    have fq431 := (Fld.ext E429 fq417)
                    obtain ⟨T432, h432, X432, e432, W432, st432⟩ := putF X429 hx hZ hown (host := "") (Or.inl hw56) Via.refl e429 fq431 fq430 (Or.inr ⟨hw57, rfl, hnm⟩) hw7 (ty := (.array .int)) (by decide) rfl rfl (g := (mkF m 191 #[.val (.ref a1), .val (.ref a2), .val (.ref a3), .val (.ref a4), .val (.ref a5), .unset, .unset, .unset, .unset, .unset] [(.ref b429), (.ref a1)])) rfl rfl (hb hby d2_191)
                    have Fw432 := Fld.same W432 fq431
                    have N432 := Fr.snoc X432 Nc427 g_a1
                    have fq433 := (Fld.other W432 (Fld.ext E429 fq410) (Or.inr (slot_ne (Or.inr hw16) (Or.inr hw57) (by decide) (t := .int) (t' := (.array .int)) (by decide) (by decide))))
                    obtain ⟨T434, X434, e434, st434⟩ := getF X432 hx hZ hown (host := "") (Or.inl hw15) Via.refl e432 fq433 (g := (mkF m 195 #[.val (.ref a1), .val (.ref a2), .val (.ref a3), .val (.ref a4), .val (.ref a5), .unset, .unset, .unset, .unset, .unset] [(.ref a1)])) rfl rfl (hb hby d2_195)
                    have fq436 := (Exa.wr W432 fq430)
                    have fq437 := ((fq418.ext E429).other W432 ne_a2_a1)
                    have fq438 := ((fq419.ext E429).other W432 ne_a4_a1)
                    have fq439 := ((fq424.ext E429).other W432 (Ne.symm ne_a1_b133))
                    have fq440 := ((fq425.ext E429).other W432 (Ne.symm ne_a1_b139))
                    have fq441 := ((fq420.ext E429).other W432 (Ne.symm ne_a1_b41))
                    have fq442 := (V429.other W432 (Ne.symm ne_a1_b429))
                    have fq443 := ((fq421.ext E429).other W432 (Ne.symm ne_a1_b47))
                    have fq444 := ((fq422.ext E429).other W432 (Ne.symm ne_a1_b85))
                    have fq445 := ((fq423.ext E429).other W432 (Ne.symm ne_a1_b91))
                    have z446 : n0 ≤ h432.size := (Nat.le_trans (Nat.le_trans z426 E429.1) (Keep.of_wr W432).1)
                    obtain ⟨b435, g435⟩ : ∃ z, z = h432.size := ⟨_, rfl⟩
                    obtain ⟨T435, h435, k435, X435, e435, E435, A435, st435⟩ := newP X434 hx hZ (hw _ (List.mem_of_getElem? (i := 0) rfl)) e434 (g := (mkF m 200 #[.val (.ref a1), .val (.ref a2), .val (.ref a3), .val (.ref a4), .val (.ref a5), .unset, .unset, .unset, .unset, .unset] [(.int (6 : Int32))])) rfl (hb hby d2_200) rfl (by decide) (cap := 6) (by decide) (by decide) (by decide) (by decide)
                    rw [← g435] at A435 st435
                    have g_b435 : n0 ≤ b435 := Nat.le_trans z446 (Nat.le_of_eq g435.symm)
                    have ne_a1_b435 : a1 ≠ b435 := Nat.ne_of_lt (Nat.lt_of_lt_of_le fq436.lt (Nat.le_of_eq g435.symm))
                    have ne_a2_b435 : a2 ≠ b435 := Nat.ne_of_lt (Nat.lt_of_lt_of_le fq437.lt (Nat.le_of_eq g435.symm))
                    have ne_a4_b435 : a4 ≠ b435 := Nat.ne_of_lt (Nat.lt_of_lt_of_le fq438.lt (Nat.le_of_eq g435.symm))
                    have ne_b133_b435 : b133 ≠ b435 := Nat.ne_of_lt (Nat.lt_of_lt_of_le fq439.lt (Nat.le_of_eq g435.symm))
                    have ne_b139_b435 : b139 ≠ b435 := Nat.ne_of_lt (Nat.lt_of_lt_of_le fq440.lt (Nat.le_of_eq g435.symm))
                    have ne_b41_b435 : b41 ≠ b435 := Nat.ne_of_lt (Nat.lt_of_lt_of_le fq441.lt (Nat.le_of_eq g435.symm))
                    have ne_b429_b435 : b429 ≠ b435 := Nat.ne_of_lt (Nat.lt_of_lt_of_le fq442.lt (Nat.le_of_eq g435.symm))
                    have ne_b47_b435 : b47 ≠ b435 := Nat.ne_of_lt (Nat.lt_of_lt_of_le fq443.lt (Nat.le_of_eq g435.symm))
                    have ne_b85_b435 : b85 ≠ b435 := Nat.ne_of_lt (Nat.lt_of_lt_of_le fq444.lt (Nat.le_of_eq g435.symm))
                    have ne_b91_b435 : b91 ≠ b435 := Nat.ne_of_lt (Nat.lt_of_lt_of_le fq445.lt (Nat.le_of_eq g435.symm))
                    have V435 : Arv Z h435 b435 k435 .int (6 : Int32) [(.int (0 : Int32)), (.int (0 : Int32)), (.int (0 : Int32)), (.int (0 : Int32)), (.int (0 : Int32)), (.int (0 : Int32))] (.int (0 : Int32)) := (Arv.new A435 (by decide)).pad (pad_rep [] (.int (0 : Int32)) 6)
                    have pre447 : ∀ t, Steps p.tables e below (T435.setTop (mkF m 204 #[.val (.ref a1), .val (.ref a2), .val (.ref a3), .val (.ref a4), .val (.ref a5), .val (.ref b435), .unset, .unset, .unset, .unset] [])) t → Steps p.tables e below (s₁.setTop (entryFrame m #[(.ref a1), (.ref a2), (.ref a3), (.ref a4), (.ref a5)] 10)) t := fun t kt => by
                      refine pre405 t ?_
                      show Steps p.tables e below (T404.setTop (mkF m 184 #[.val (.ref a1), .val (.ref a2), .val (.ref a3), .val (.ref a4), .val (.ref a5), .unset, .unset, .unset, .unset, .unset] [])) _
                      refine XS.aloadN Xc427.here hx rfl (hb hby d2_184) rfl rfl ?_
                      show Steps p.tables e below (T404.setTop (mkF m 185 #[.val (.ref a1), .val (.ref a2), .val (.ref a3), .val (.ref a4), .val (.ref a5), .unset, .unset, .unset, .unset, .unset] [(.ref a1)])) _
                      refine XS.aloadN Xc427.here hx rfl (hb hby d2_185) rfl rfl ?_
                      show Steps p.tables e below (T404.setTop (mkF m 186 #[.val (.ref a1), .val (.ref a2), .val (.ref a3), .val (.ref a4), .val (.ref a5), .unset, .unset, .unset, .unset, .unset] [(.ref a1), (.ref a1)])) _
                      refine st428 _ ?_
                      show Steps p.tables e below (T428.setTop (mkF m 189 #[.val (.ref a1), .val (.ref a2), .val (.ref a3), .val (.ref a4), .val (.ref a5), .unset, .unset, .unset, .unset, .unset] [(.int (5 : Int32)), (.ref a1)])) _
                      refine st429 _ ?_
                      show Steps p.tables e below (T429.setTop (mkF m 191 #[.val (.ref a1), .val (.ref a2), .val (.ref a3), .val (.ref a4), .val (.ref a5), .unset, .unset, .unset, .unset, .unset] [(.ref b429), (.ref a1)])) _
                      refine st432 _ ?_
                      show Steps p.tables e below (T432.setTop (mkF m 194 #[.val (.ref a1), .val (.ref a2), .val (.ref a3), .val (.ref a4), .val (.ref a5), .unset, .unset, .unset, .unset, .unset] [])) _
                      refine XS.aloadN X432.here hx rfl (hb hby d2_194) rfl rfl ?_
                      show Steps p.tables e below (T432.setTop (mkF m 195 #[.val (.ref a1), .val (.ref a2), .val (.ref a3), .val (.ref a4), .val (.ref a5), .unset, .unset, .unset, .unset, .unset] [(.ref a1)])) _
                      refine st434 _ ?_
                      show Steps p.tables e below (T434.setTop (mkF m 198 #[.val (.ref a1), .val (.ref a2), .val (.ref a3), .val (.ref a4), .val (.ref a5), .unset, .unset, .unset, .unset, .unset] [(.int (5 : Int32))])) _
                      refine XS.iconst X434.here hx rfl (hb hby d2_198) ?_
                      show Steps p.tables e below (T434.setTop (mkF m 199 #[.val (.ref a1), .val (.ref a2), .val (.ref a3), .val (.ref a4), .val (.ref a5), .unset, .unset, .unset, .unset, .unset] [(.int (1 : Int32)), (.int (5 : Int32))])) _
                      refine XS.iadd X434.here hx rfl (hb hby d2_199) rfl ?_
                      show Steps p.tables e below (T434.setTop (mkF m 200 #[.val (.ref a1), .val (.ref a2), .val (.ref a3), .val (.ref a4), .val (.ref a5), .unset, .unset, .unset, .unset, .unset] [(.int (6 : Int32))])) _
                      refine st435 _ ?_
                      show Steps p.tables e below (T435.setTop (mkF m 202 #[.val (.ref a1), .val (.ref a2), .val (.ref a3), .val (.ref a4), .val (.ref a5), .unset, .unset, .unset, .unset, .unset] [(.ref b435)])) _
                      refine XS.astore X435.here hx rfl (hb hby d2_202) rfl rfl (l' := #[.val (.ref a1), .val (.ref a2), .val (.ref a3), .val (.ref a4), .val (.ref a5), .val (.ref b435), .unset, .unset, .unset, .unset]) rfl ?_
                      exact kt
                    have fq448 := (Exa.ext E435 fq436)
                    have fq449 := (Fld.ext E435 (Fld.other W432 (Fld.ext E429 fq407) (Or.inr (slot_ne (Or.inl hw65) (Or.inr hw57) (by decide) (t := .int) (t' := (.array .int)) (by decide) (by decide)))))
                    have fq450 := (Fld.ext E435 (Fld.other W432 (Fld.ext E429 fq408) (Or.inr (slot_ne (Or.inl hw67) (Or.inr hw57) (by decide) (t := .int) (t' := (.array .int)) (by decide) (by decide)))))
                    have fq451 := (Fld.ext E435 (Fld.other W432 (Fld.ext E429 fq409) (Or.inr (slot_ne (Or.inl hw59) (Or.inr hw57) (by decide) (t := .int) (t' := (.array .int)) (by decide) (by decide)))))
                    have fq452 := (Fld.ext E435 fq433)
                    have fq453 := (Fld.ext E435 (Fld.other W432 (Fld.ext E429 fq411) (Or.inr (slot_ne (Or.inr hw24) (Or.inr hw57) (by decide) (t := (.array .int)) (t' := (.array .int)) (by decide) (by decide)))))
                    have fq454 := (Fld.ext E435 (Fld.other W432 (Fld.ext E429 fq412) (Or.inr (slot_ne (Or.inr hw26) (Or.inr hw57) (by decide) (t := (.array .int)) (t' := (.array .int)) (by decide) (by decide)))))
                    have fq455 := (Fld.ext E435 (Fld.other W432 (Fld.ext E429 fq413) (Or.inr (slot_ne (Or.inr hw28) (Or.inr hw57) (by decide) (t := (.array .int)) (t' := (.array .int)) (by decide) (by decide)))))
                    have fq456 := (Fld.ext E435 (Fld.other W432 (Fld.ext E429 fq414) (Or.inr (slot_ne (Or.inr hw30) (Or.inr hw57) (by decide) (t := (.array .int)) (t' := (.array .int)) (by decide) (by decide)))))
                    have fq457 := (Fld.ext E435 (Fld.other W432 (Fld.ext E429 fq415) (Or.inr (slot_ne (Or.inr hw32) (Or.inr hw57) (by decide) (t := (.array .int)) (t' := (.array .int)) (by decide) (by decide)))))
                    have fq458 := (Fld.ext E435 (Fld.other W432 (Fld.ext E429 fq416) (Or.inr (slot_ne (Or.inr hw35) (Or.inr hw57) (by decide) (t := (.array .boolean)) (t' := (.array .int)) (by decide) (by decide)))))
                    have fq459 := (fq437.ext E435)
                    have fq460 := (fq438.ext E435)
                    have fq461 := (fq441.ext E435)
                    have fq462 := (fq443.ext E435)
                    have fq463 := (fq444.ext E435)
                    have fq464 := (fq445.ext E435)
                    have fq465 := (fq439.ext E435)
                    have fq466 := (fq440.ext E435)
                    have z467 : n0 ≤ h435.size := (Nat.le_trans z446 E435.1)
                    obtain ⟨Lc468, Xc468, Nc468⟩ : ∃ L, Stand p l e ({ frames := 1, cells := 18, slots := 86, locals := 13 } : Room) s m #[(.ref a1), (.ref a2), (.ref a3), (.ref a4), (.ref a5)] below meth c T435 L 18 86 ∧ Fr n0 L := ⟨_, X435, N432⟩
                    clear e404 pre405 fq406 fq407 fq408 fq409 fq410 fq411 fq412 fq413 fq414 fq415 fq416 fq417 fq418 fq419 fq420 fq421 fq422 fq423 fq424 fq425 z426 Xc427 Nc427 X428 e428 st428 g429 X429 e429 E429 A429 st429 g_b429 ne_a1_b429 ne_a2_b429 ne_a4_b429 ne_b133_b429 ne_b139_b429 ne_b41_b429 ne_b47_b429 ne_b85_b429 ne_b91_b429 V429 fq430 fq431 X432 e432 W432 st432 Fw432 N432 fq433 X434 e434 st434 fq436 fq437 fq438 fq439 fq440 fq441 fq442 fq443 fq444 fq445 z446 g435 X435 E435 A435 st435 ne_b429_b435
                    try clear T434
                    try clear h432
                    try clear T432
                    try clear k429
                    try clear h429
                    try clear T429
                    try clear b429
                    try clear T428
                    try clear Lc427
                    try clear h404
                    try clear T404
                    as_aux_lemma =>
                      obtain ⟨cl469, Ar469, aq469, S469, M469, H469, G469⟩ := id fq459
                      have pre470 : ∀ t, Steps p.tables e below (T435.setTop (mkF m 215 #[.val (.ref a1), .val (.ref a2), .val (.ref a3), .val (.ref a4), .val (.ref a5), .val (.ref b435), .val (.ref a2), .val (.int (5 : Int32)), .val (.int (0 : Int32)), .unset] [])) t → Steps p.tables e below (s₁.setTop (entryFrame m #[(.ref a1), (.ref a2), (.ref a3), (.ref a4), (.ref a5)] 10)) t := fun t kt => by
                        refine pre447 t ?_
                        show Steps p.tables e below (T435.setTop (mkF m 204 #[.val (.ref a1), .val (.ref a2), .val (.ref a3), .val (.ref a4), .val (.ref a5), .val (.ref b435), .unset, .unset, .unset, .unset] [])) _
                        refine XS.aloadN Xc468.here hx rfl (hb hby d2_204) rfl rfl ?_
                        show Steps p.tables e below (T435.setTop (mkF m 205 #[.val (.ref a1), .val (.ref a2), .val (.ref a3), .val (.ref a4), .val (.ref a5), .val (.ref b435), .unset, .unset, .unset, .unset] [(.ref a2)])) _
                        refine XS.astore Xc468.here hx rfl (hb hby d2_205) rfl rfl (l' := #[.val (.ref a1), .val (.ref a2), .val (.ref a3), .val (.ref a4), .val (.ref a5), .val (.ref b435), .val (.ref a2), .unset, .unset, .unset]) rfl ?_
                        show Steps p.tables e below (T435.setTop (mkF m 207 #[.val (.ref a1), .val (.ref a2), .val (.ref a3), .val (.ref a4), .val (.ref a5), .val (.ref b435), .val (.ref a2), .unset, .unset, .unset] [])) _
                        refine XS.aload Xc468.here hx rfl (hb hby d2_207) rfl rfl ?_
                        show Steps p.tables e below (T435.setTop (mkF m 209 #[.val (.ref a1), .val (.ref a2), .val (.ref a3), .val (.ref a4), .val (.ref a5), .val (.ref b435), .val (.ref a2), .unset, .unset, .unset] [(.ref a2)])) _
                        refine Xc468.arraylength hx (by rw [e435]; exact Ar469.1) (State.isArrayOf_alike hZ.alike Ar469.2.1) (g := (mkF m 209 #[.val (.ref a1), .val (.ref a2), .val (.ref a3), .val (.ref a4), .val (.ref a5), .val (.ref b435), .val (.ref a2), .unset, .unset, .unset] [(.ref a2)])) rfl rfl (hb hby d2_209) _ ?_
                        rw [len_of S469 M469]
                        show Steps p.tables e below (T435.setTop (mkF m 210 #[.val (.ref a1), .val (.ref a2), .val (.ref a3), .val (.ref a4), .val (.ref a5), .val (.ref b435), .val (.ref a2), .unset, .unset, .unset] [(.int (5 : Int32))])) _
                        refine XS.istore Xc468.here hx rfl (hb hby d2_210) rfl (l' := #[.val (.ref a1), .val (.ref a2), .val (.ref a3), .val (.ref a4), .val (.ref a5), .val (.ref b435), .val (.ref a2), .val (.int (5 : Int32)), .unset, .unset]) rfl ?_
                        show Steps p.tables e below (T435.setTop (mkF m 212 #[.val (.ref a1), .val (.ref a2), .val (.ref a3), .val (.ref a4), .val (.ref a5), .val (.ref b435), .val (.ref a2), .val (.int (5 : Int32)), .unset, .unset] [])) _
                        refine XS.iconst Xc468.here hx rfl (hb hby d2_212) ?_
                        show Steps p.tables e below (T435.setTop (mkF m 213 #[.val (.ref a1), .val (.ref a2), .val (.ref a3), .val (.ref a4), .val (.ref a5), .val (.ref b435), .val (.ref a2), .val (.int (5 : Int32)), .unset, .unset] [(.int (0 : Int32))])) _
                        refine XS.istore Xc468.here hx rfl (hb hby d2_213) rfl (l' := #[.val (.ref a1), .val (.ref a2), .val (.ref a3), .val (.ref a4), .val (.ref a5), .val (.ref b435), .val (.ref a2), .val (.int (5 : Int32)), .val (.int (0 : Int32)), .unset]) rfl ?_
                        exact kt
                      obtain ⟨Lc471, Xc471, Nc471⟩ : ∃ L, Stand p l e ({ frames := 1, cells := 18, slots := 86, locals := 13 } : Room) s m #[(.ref a1), (.ref a2), (.ref a3), (.ref a4), (.ref a5)] below meth c T435 L 18 86 ∧ Fr n0 L := ⟨_, Xc468, Nc468⟩
                      clear pre447 Xc468 Nc468 Ar469 aq469 S469 M469 H469 G469
                      try clear cl469
                      try clear Lc468
                      as_aux_lemma =>
                        obtain ⟨cl472, Ar472, aq472, S472, M472, H472, G472⟩ := id fq459
                        have hin472 : ¬ ((0 : Int32) < 0 ∨ cl472.slots.size ≤ ((0 : Int32)).toNatClampNeg) := inb_of S472 ⟨by decide, by decide⟩
                        have hat472 : cl472.slots[((0 : Int32)).toNatClampNeg]? = some (.int e_a2_0) := Has.at H472 hin472 rfl
                        obtain ⟨cl473, Ar473, aq473, S473, M473, H473, G473⟩ := id V435
                        have hin473 : ¬ ((e_a2_0 + (1 : Int32)) < 0 ∨ cl473.slots.size ≤ ((e_a2_0 + (1 : Int32))).toNatClampNeg) := inb_of S473 (side_2_236 e_a2_0 e_a2_1 e_a2_2 e_a2_3 e_a2_4 hC)
                        have hat473 : cl473.slots[((e_a2_0 + (1 : Int32))).toNatClampNeg]? = some (.int (own_at own_tab_2_236 (e_a2_0 + (1 : Int32)))) := Has.at H473 hin473 (own_getD own_tab_2_236 ((e_a2_0 + (1 : Int32))).toNatClampNeg)
                        have sd474 : ¬ ((e_a2_0 + (1 : Int32)) < 0) ∧ (e_a2_0 + (1 : Int32)) < (6 : Int32) := (side_2_239_474 e_a2_0 e_a2_1 e_a2_2 e_a2_3 e_a2_4 hC)
                        have Vo474 : Arv Z h435 b435 k435 .int (6 : Int32) (([(0 : Int32), (0 : Int32), (0 : Int32), (0 : Int32), (0 : Int32), (0 : Int32)] : List Int32).map Value.int) (.int (0 : Int32)) := V435
                        obtain ⟨cl474, Ar474, aq474, S474, M474, H474, G474⟩ := id V435
                        obtain ⟨T474, h474, X474, e474, W474, st474⟩ := stI Xc471 hx hZ e435 Ar474 (j := (e_a2_0 + (1 : Int32))) (inb_of S474 sd474) (g := (mkF m 239 #[.val (.ref a1), .val (.ref a2), .val (.ref a3), .val (.ref a4), .val (.ref a5), .val (.ref b435), .val (.ref a2), .val (.int (5 : Int32)), .val (.int (0 : Int32)), .val (.int e_a2_0)] [(.int ((own_at own_tab_2_236 (e_a2_0 + (1 : Int32))) + (1 : Int32))), (.int (e_a2_0 + (1 : Int32))), (.ref b435)])) rfl rfl (hb hby d2_239)
                        have hl474 : (own_L2_0 e_a2_0 e_a2_1 e_a2_2 e_a2_3 e_a2_4).length = 6 := (List.length_set ..).trans rfl
                        have V474 : Arv Z h474 b435 k435 .int (6 : Int32) ((own_L2_0 e_a2_0 e_a2_1 e_a2_2 e_a2_3 e_a2_4).map Value.int) (.int (0 : Int32)) := own_setL Vo474 rfl W474 sd474
                        have N474 := Fr.snoc X474 Nc471 g_b435
                        have pre475 : ∀ t, Steps p.tables e below (T474.setTop (mkF m 215 #[.val (.ref a1), .val (.ref a2), .val (.ref a3), .val (.ref a4), .val (.ref a5), .val (.ref b435), .val (.ref a2), .val (.int (5 : Int32)), .val (.int (1 : Int32)), .val (.int e_a2_0)] [])) t → Steps p.tables e below (s₁.setTop (entryFrame m #[(.ref a1), (.ref a2), (.ref a3), (.ref a4), (.ref a5)] 10)) t := fun t kt => by
                          refine pre470 t ?_
                          show Steps p.tables e below (T435.setTop (mkF m 215 #[.val (.ref a1), .val (.ref a2), .val (.ref a3), .val (.ref a4), .val (.ref a5), .val (.ref b435), .val (.ref a2), .val (.int (5 : Int32)), .val (.int (0 : Int32)), .unset] [])) _
                          refine XS.iload Xc471.here hx rfl (hb hby d2_215) rfl ?_
                          show Steps p.tables e below (T435.setTop (mkF m 217 #[.val (.ref a1), .val (.ref a2), .val (.ref a3), .val (.ref a4), .val (.ref a5), .val (.ref b435), .val (.ref a2), .val (.int (5 : Int32)), .val (.int (0 : Int32)), .unset] [(.int (0 : Int32))])) _
                          refine XS.iload Xc471.here hx rfl (hb hby d2_217) rfl ?_
                          show Steps p.tables e below (T435.setTop (mkF m 219 #[.val (.ref a1), .val (.ref a2), .val (.ref a3), .val (.ref a4), .val (.ref a5), .val (.ref b435), .val (.ref a2), .val (.int (5 : Int32)), .val (.int (0 : Int32)), .unset] [(.int (5 : Int32)), (.int (0 : Int32))])) _
                          refine XS.icmpNo Xc471.here hx rfl (hb hby d2_219) rfl (tlt (by decide : (0 : Int32) < (5 : Int32))).2.1 ?_
                          show Steps p.tables e below (T435.setTop (mkF m 222 #[.val (.ref a1), .val (.ref a2), .val (.ref a3), .val (.ref a4), .val (.ref a5), .val (.ref b435), .val (.ref a2), .val (.int (5 : Int32)), .val (.int (0 : Int32)), .unset] [])) _
                          refine XS.aload Xc471.here hx rfl (hb hby d2_222) rfl rfl ?_
                          show Steps p.tables e below (T435.setTop (mkF m 224 #[.val (.ref a1), .val (.ref a2), .val (.ref a3), .val (.ref a4), .val (.ref a5), .val (.ref b435), .val (.ref a2), .val (.int (5 : Int32)), .val (.int (0 : Int32)), .unset] [(.ref a2)])) _
                          refine XS.iload Xc471.here hx rfl (hb hby d2_224) rfl ?_
                          show Steps p.tables e below (T435.setTop (mkF m 226 #[.val (.ref a1), .val (.ref a2), .val (.ref a3), .val (.ref a4), .val (.ref a5), .val (.ref b435), .val (.ref a2), .val (.int (5 : Int32)), .val (.int (0 : Int32)), .unset] [(.int (0 : Int32)), (.ref a2)])) _
                          refine Xc471.iaload hx (j := (0 : Int32)) (v := (.int e_a2_0)) (by rw [e435]; exact Ar472.1) (State.isArrayOf_alike hZ.alike Ar472.2.1) Ar472.2.2 hin472 hat472 (g := (mkF m 226 #[.val (.ref a1), .val (.ref a2), .val (.ref a3), .val (.ref a4), .val (.ref a5), .val (.ref b435), .val (.ref a2), .val (.int (5 : Int32)), .val (.int (0 : Int32)), .unset] [(.int (0 : Int32)), (.ref a2)])) rfl rfl (hb hby d2_226) _ ?_
                          show Steps p.tables e below (T435.setTop (mkF m 227 #[.val (.ref a1), .val (.ref a2), .val (.ref a3), .val (.ref a4), .val (.ref a5), .val (.ref b435), .val (.ref a2), .val (.int (5 : Int32)), .val (.int (0 : Int32)), .unset] [(.int e_a2_0)])) _
                          refine XS.istore Xc471.here hx rfl (hb hby d2_227) rfl (l' := #[.val (.ref a1), .val (.ref a2), .val (.ref a3), .val (.ref a4), .val (.ref a5), .val (.ref b435), .val (.ref a2), .val (.int (5 : Int32)), .val (.int (0 : Int32)), .val (.int e_a2_0)]) rfl ?_
                          show Steps p.tables e below (T435.setTop (mkF m 229 #[.val (.ref a1), .val (.ref a2), .val (.ref a3), .val (.ref a4), .val (.ref a5), .val (.ref b435), .val (.ref a2), .val (.int (5 : Int32)), .val (.int (0 : Int32)), .val (.int e_a2_0)] [])) _
                          refine XS.aload Xc471.here hx rfl (hb hby d2_229) rfl rfl ?_
                          show Steps p.tables e below (T435.setTop (mkF m 231 #[.val (.ref a1), .val (.ref a2), .val (.ref a3), .val (.ref a4), .val (.ref a5), .val (.ref b435), .val (.ref a2), .val (.int (5 : Int32)), .val (.int (0 : Int32)), .val (.int e_a2_0)] [(.ref b435)])) _
                          refine XS.iload Xc471.here hx rfl (hb hby d2_231) rfl ?_
                          show Steps p.tables e below (T435.setTop (mkF m 233 #[.val (.ref a1), .val (.ref a2), .val (.ref a3), .val (.ref a4), .val (.ref a5), .val (.ref b435), .val (.ref a2), .val (.int (5 : Int32)), .val (.int (0 : Int32)), .val (.int e_a2_0)] [(.int e_a2_0), (.ref b435)])) _
                          refine XS.iconst Xc471.here hx rfl (hb hby d2_233) ?_
                          show Steps p.tables e below (T435.setTop (mkF m 234 #[.val (.ref a1), .val (.ref a2), .val (.ref a3), .val (.ref a4), .val (.ref a5), .val (.ref b435), .val (.ref a2), .val (.int (5 : Int32)), .val (.int (0 : Int32)), .val (.int e_a2_0)] [(.int (1 : Int32)), (.int e_a2_0), (.ref b435)])) _
                          refine XS.iadd Xc471.here hx rfl (hb hby d2_234) rfl ?_
                          show Steps p.tables e below (T435.setTop (mkF m 235 #[.val (.ref a1), .val (.ref a2), .val (.ref a3), .val (.ref a4), .val (.ref a5), .val (.ref b435), .val (.ref a2), .val (.int (5 : Int32)), .val (.int (0 : Int32)), .val (.int e_a2_0)] [(.int (e_a2_0 + (1 : Int32))), (.ref b435)])) _
                          refine XT.dup2 Xc471.here hx rfl (hb hby d2_235) rfl rfl rfl ?_
                          show Steps p.tables e below (T435.setTop (mkF m 236 #[.val (.ref a1), .val (.ref a2), .val (.ref a3), .val (.ref a4), .val (.ref a5), .val (.ref b435), .val (.ref a2), .val (.int (5 : Int32)), .val (.int (0 : Int32)), .val (.int e_a2_0)] [(.int (e_a2_0 + (1 : Int32))), (.ref b435), (.int (e_a2_0 + (1 : Int32))), (.ref b435)])) _
                          refine Xc471.iaload hx (j := (e_a2_0 + (1 : Int32))) (v := (.int (own_at own_tab_2_236 (e_a2_0 + (1 : Int32))))) (by rw [e435]; exact Ar473.1) (State.isArrayOf_alike hZ.alike Ar473.2.1) Ar473.2.2 hin473 hat473 (g := (mkF m 236 #[.val (.ref a1), .val (.ref a2), .val (.ref a3), .val (.ref a4), .val (.ref a5), .val (.ref b435), .val (.ref a2), .val (.int (5 : Int32)), .val (.int (0 : Int32)), .val (.int e_a2_0)] [(.int (e_a2_0 + (1 : Int32))), (.ref b435), (.int (e_a2_0 + (1 : Int32))), (.ref b435)])) rfl rfl (hb hby d2_236) _ ?_
                          show Steps p.tables e below (T435.setTop (mkF m 237 #[.val (.ref a1), .val (.ref a2), .val (.ref a3), .val (.ref a4), .val (.ref a5), .val (.ref b435), .val (.ref a2), .val (.int (5 : Int32)), .val (.int (0 : Int32)), .val (.int e_a2_0)] [(.int (own_at own_tab_2_236 (e_a2_0 + (1 : Int32)))), (.int (e_a2_0 + (1 : Int32))), (.ref b435)])) _
                          refine XS.iconst Xc471.here hx rfl (hb hby d2_237) ?_
                          show Steps p.tables e below (T435.setTop (mkF m 238 #[.val (.ref a1), .val (.ref a2), .val (.ref a3), .val (.ref a4), .val (.ref a5), .val (.ref b435), .val (.ref a2), .val (.int (5 : Int32)), .val (.int (0 : Int32)), .val (.int e_a2_0)] [(.int (1 : Int32)), (.int (own_at own_tab_2_236 (e_a2_0 + (1 : Int32)))), (.int (e_a2_0 + (1 : Int32))), (.ref b435)])) _
                          refine XS.iadd Xc471.here hx rfl (hb hby d2_238) rfl ?_
                          show Steps p.tables e below (T435.setTop (mkF m 239 #[.val (.ref a1), .val (.ref a2), .val (.ref a3), .val (.ref a4), .val (.ref a5), .val (.ref b435), .val (.ref a2), .val (.int (5 : Int32)), .val (.int (0 : Int32)), .val (.int e_a2_0)] [(.int ((own_at own_tab_2_236 (e_a2_0 + (1 : Int32))) + (1 : Int32))), (.int (e_a2_0 + (1 : Int32))), (.ref b435)])) _
                          refine st474 _ ?_
                          show Steps p.tables e below (T474.setTop (mkF m 240 #[.val (.ref a1), .val (.ref a2), .val (.ref a3), .val (.ref a4), .val (.ref a5), .val (.ref b435), .val (.ref a2), .val (.int (5 : Int32)), .val (.int (0 : Int32)), .val (.int e_a2_0)] [])) _
                          refine XS.iinc X474.here hx rfl (hb hby d2_240) rfl (l' := #[.val (.ref a1), .val (.ref a2), .val (.ref a3), .val (.ref a4), .val (.ref a5), .val (.ref b435), .val (.ref a2), .val (.int (5 : Int32)), .val (.int (1 : Int32)), .val (.int e_a2_0)]) rfl ?_
                          show Steps p.tables e below (T474.setTop (mkF m 243 #[.val (.ref a1), .val (.ref a2), .val (.ref a3), .val (.ref a4), .val (.ref a5), .val (.ref b435), .val (.ref a2), .val (.int (5 : Int32)), .val (.int (1 : Int32)), .val (.int e_a2_0)] [])) _
                          refine XS.goto X474.here hx rfl (pc0 := 243) (pc' := 215) rfl (hb hby d2_243) (by decide) (by decide) ?_
                          exact kt
                        have fq476 := (Exa.wr W474 fq448)
                        have fq477 := (Fld.other W474 fq449 (Or.inl ne_a1_b435))
                        have fq478 := (Fld.other W474 fq450 (Or.inl ne_a1_b435))
                        have fq479 := (Fld.other W474 fq451 (Or.inl ne_a1_b435))
                        have fq480 := (Fld.other W474 fq452 (Or.inl ne_a1_b435))
                        have fq481 := (Fld.other W474 fq453 (Or.inl ne_a1_b435))
                        have fq482 := (Fld.other W474 fq454 (Or.inl ne_a1_b435))
                        have fq483 := (Fld.other W474 fq455 (Or.inl ne_a1_b435))
                        have fq484 := (Fld.other W474 fq456 (Or.inl ne_a1_b435))
                        have fq485 := (Fld.other W474 fq457 (Or.inl ne_a1_b435))
                        have fq486 := (Fld.other W474 fq458 (Or.inl ne_a1_b435))
                        have fq487 := (fq459.other W474 ne_a2_b435)
                        have fq488 := (fq460.other W474 ne_a4_b435)
                        have fq489 := (fq461.other W474 ne_b41_b435)
                        have fq490 := (fq462.other W474 ne_b47_b435)
                        have fq491 := (fq463.other W474 ne_b85_b435)
                        have fq492 := (fq464.other W474 ne_b91_b435)
                        have fq493 := (fq465.other W474 ne_b133_b435)
                        have fq494 := (fq466.other W474 ne_b139_b435)
                        have z495 : n0 ≤ h474.size := (Nat.le_trans z467 (Keep.of_wr W474).1)
                        obtain ⟨Lc496, Xc496, Nc496⟩ : ∃ L, Stand p l e ({ frames := 1, cells := 18, slots := 86, locals := 13 } : Room) s m #[(.ref a1), (.ref a2), (.ref a3), (.ref a4), (.ref a5)] below meth c T474 L 18 86 ∧ Fr n0 L := ⟨_, X474, N474⟩
                        clear e435 V435 fq448 fq449 fq450 fq451 fq452 fq453 fq454 fq455 fq456 fq457 fq458 fq459 fq460 fq461 fq462 fq463 fq464 fq465 fq466 z467 pre470 Xc471 Nc471 Ar472 aq472 S472 M472 H472 G472 hin472 hat472 Ar473 aq473 S473 M473 H473 G473 hin473 hat473 sd474 Vo474 Ar474 aq474 S474 M474 H474 G474 X474 W474 st474 N474
                        try clear cl474
                        try clear cl473
                        try clear cl472
                        try clear Lc471
                        try clear h435
                        try clear T435
                        as_aux_lemma =>
                          obtain ⟨cl497, Ar497, aq497, S497, M497, H497, G497⟩ := id fq487
                          have hin497 : ¬ ((1 : Int32) < 0 ∨ cl497.slots.size ≤ ((1 : Int32)).toNatClampNeg) := inb_of S497 ⟨by decide, by decide⟩
                          have hat497 : cl497.slots[((1 : Int32)).toNatClampNeg]? = some (.int e_a2_1) := Has.at H497 hin497 rfl
                          obtain ⟨cl498, Ar498, aq498, S498, M498, H498, G498⟩ := id V474
                          have hin498 : ¬ ((e_a2_1 + (1 : Int32)) < 0 ∨ cl498.slots.size ≤ ((e_a2_1 + (1 : Int32))).toNatClampNeg) := inb_of S498 (side_2_236_498 e_a2_0 e_a2_1 e_a2_2 e_a2_3 e_a2_4 hC)
                          have hat498 : cl498.slots[((e_a2_1 + (1 : Int32))).toNatClampNeg]? = some (.int (own_at (own_L2_0 e_a2_0 e_a2_1 e_a2_2 e_a2_3 e_a2_4) (e_a2_1 + (1 : Int32)))) := Has.at H498 hin498 (own_getD (own_L2_0 e_a2_0 e_a2_1 e_a2_2 e_a2_3 e_a2_4) ((e_a2_1 + (1 : Int32))).toNatClampNeg)
                          have sd499 : ¬ ((e_a2_1 + (1 : Int32)) < 0) ∧ (e_a2_1 + (1 : Int32)) < (6 : Int32) := (side_2_239_499 e_a2_0 e_a2_1 e_a2_2 e_a2_3 e_a2_4 hC)
                          have Vo499 : Arv Z h474 b435 k435 .int (6 : Int32) ((own_L2_0 e_a2_0 e_a2_1 e_a2_2 e_a2_3 e_a2_4).map Value.int) (.int (0 : Int32)) := V474
                          obtain ⟨cl499, Ar499, aq499, S499, M499, H499, G499⟩ := id V474
                          obtain ⟨T499, h499, X499, e499, W499, st499⟩ := stI Xc496 hx hZ e474 Ar499 (j := (e_a2_1 + (1 : Int32))) (inb_of S499 sd499) (g := (mkF m 239 #[.val (.ref a1), .val (.ref a2), .val (.ref a3), .val (.ref a4), .val (.ref a5), .val (.ref b435), .val (.ref a2), .val (.int (5 : Int32)), .val (.int (1 : Int32)), .val (.int e_a2_1)] [(.int ((own_at (own_L2_0 e_a2_0 e_a2_1 e_a2_2 e_a2_3 e_a2_4) (e_a2_1 + (1 : Int32))) + (1 : Int32))), (.int (e_a2_1 + (1 : Int32))), (.ref b435)])) rfl rfl (hb hby d2_239)
                          have hl499 : (own_L2_1 e_a2_0 e_a2_1 e_a2_2 e_a2_3 e_a2_4).length = 6 := (List.length_set ..).trans hl474
                          have V499 : Arv Z h499 b435 k435 .int (6 : Int32) ((own_L2_1 e_a2_0 e_a2_1 e_a2_2 e_a2_3 e_a2_4).map Value.int) (.int (0 : Int32)) := own_setL Vo499 hl474 W499 sd499
                          have N499 := Fr.snoc X499 Nc496 g_b435
                          have pre500 : ∀ t, Steps p.tables e below (T499.setTop (mkF m 215 #[.val (.ref a1), .val (.ref a2), .val (.ref a3), .val (.ref a4), .val (.ref a5), .val (.ref b435), .val (.ref a2), .val (.int (5 : Int32)), .val (.int (2 : Int32)), .val (.int e_a2_1)] [])) t → Steps p.tables e below (s₁.setTop (entryFrame m #[(.ref a1), (.ref a2), (.ref a3), (.ref a4), (.ref a5)] 10)) t := fun t kt => by
                            refine pre475 t ?_
                            show Steps p.tables e below (T474.setTop (mkF m 215 #[.val (.ref a1), .val (.ref a2), .val (.ref a3), .val (.ref a4), .val (.ref a5), .val (.ref b435), .val (.ref a2), .val (.int (5 : Int32)), .val (.int (1 : Int32)), .val (.int e_a2_0)] [])) _
                            refine XS.iload Xc496.here hx rfl (hb hby d2_215) rfl ?_
                            show Steps p.tables e below (T474.setTop (mkF m 217 #[.val (.ref a1), .val (.ref a2), .val (.ref a3), .val (.ref a4), .val (.ref a5), .val (.ref b435), .val (.ref a2), .val (.int (5 : Int32)), .val (.int (1 : Int32)), .val (.int e_a2_0)] [(.int (1 : Int32))])) _
                            refine XS.iload Xc496.here hx rfl (hb hby d2_217) rfl ?_
                            show Steps p.tables e below (T474.setTop (mkF m 219 #[.val (.ref a1), .val (.ref a2), .val (.ref a3), .val (.ref a4), .val (.ref a5), .val (.ref b435), .val (.ref a2), .val (.int (5 : Int32)), .val (.int (1 : Int32)), .val (.int e_a2_0)] [(.int (5 : Int32)), (.int (1 : Int32))])) _
                            refine XS.icmpNo Xc496.here hx rfl (hb hby d2_219) rfl (tlt (by decide : (1 : Int32) < (5 : Int32))).2.1 ?_
                            show Steps p.tables e below (T474.setTop (mkF m 222 #[.val (.ref a1), .val (.ref a2), .val (.ref a3), .val (.ref a4), .val (.ref a5), .val (.ref b435), .val (.ref a2), .val (.int (5 : Int32)), .val (.int (1 : Int32)), .val (.int e_a2_0)] [])) _
                            refine XS.aload Xc496.here hx rfl (hb hby d2_222) rfl rfl ?_
                            show Steps p.tables e below (T474.setTop (mkF m 224 #[.val (.ref a1), .val (.ref a2), .val (.ref a3), .val (.ref a4), .val (.ref a5), .val (.ref b435), .val (.ref a2), .val (.int (5 : Int32)), .val (.int (1 : Int32)), .val (.int e_a2_0)] [(.ref a2)])) _
                            refine XS.iload Xc496.here hx rfl (hb hby d2_224) rfl ?_
                            show Steps p.tables e below (T474.setTop (mkF m 226 #[.val (.ref a1), .val (.ref a2), .val (.ref a3), .val (.ref a4), .val (.ref a5), .val (.ref b435), .val (.ref a2), .val (.int (5 : Int32)), .val (.int (1 : Int32)), .val (.int e_a2_0)] [(.int (1 : Int32)), (.ref a2)])) _
                            refine Xc496.iaload hx (j := (1 : Int32)) (v := (.int e_a2_1)) (by rw [e474]; exact Ar497.1) (State.isArrayOf_alike hZ.alike Ar497.2.1) Ar497.2.2 hin497 hat497 (g := (mkF m 226 #[.val (.ref a1), .val (.ref a2), .val (.ref a3), .val (.ref a4), .val (.ref a5), .val (.ref b435), .val (.ref a2), .val (.int (5 : Int32)), .val (.int (1 : Int32)), .val (.int e_a2_0)] [(.int (1 : Int32)), (.ref a2)])) rfl rfl (hb hby d2_226) _ ?_
                            show Steps p.tables e below (T474.setTop (mkF m 227 #[.val (.ref a1), .val (.ref a2), .val (.ref a3), .val (.ref a4), .val (.ref a5), .val (.ref b435), .val (.ref a2), .val (.int (5 : Int32)), .val (.int (1 : Int32)), .val (.int e_a2_0)] [(.int e_a2_1)])) _
                            refine XS.istore Xc496.here hx rfl (hb hby d2_227) rfl (l' := #[.val (.ref a1), .val (.ref a2), .val (.ref a3), .val (.ref a4), .val (.ref a5), .val (.ref b435), .val (.ref a2), .val (.int (5 : Int32)), .val (.int (1 : Int32)), .val (.int e_a2_1)]) rfl ?_
                            show Steps p.tables e below (T474.setTop (mkF m 229 #[.val (.ref a1), .val (.ref a2), .val (.ref a3), .val (.ref a4), .val (.ref a5), .val (.ref b435), .val (.ref a2), .val (.int (5 : Int32)), .val (.int (1 : Int32)), .val (.int e_a2_1)] [])) _
                            refine XS.aload Xc496.here hx rfl (hb hby d2_229) rfl rfl ?_
                            show Steps p.tables e below (T474.setTop (mkF m 231 #[.val (.ref a1), .val (.ref a2), .val (.ref a3), .val (.ref a4), .val (.ref a5), .val (.ref b435), .val (.ref a2), .val (.int (5 : Int32)), .val (.int (1 : Int32)), .val (.int e_a2_1)] [(.ref b435)])) _
                            refine XS.iload Xc496.here hx rfl (hb hby d2_231) rfl ?_
                            show Steps p.tables e below (T474.setTop (mkF m 233 #[.val (.ref a1), .val (.ref a2), .val (.ref a3), .val (.ref a4), .val (.ref a5), .val (.ref b435), .val (.ref a2), .val (.int (5 : Int32)), .val (.int (1 : Int32)), .val (.int e_a2_1)] [(.int e_a2_1), (.ref b435)])) _
                            refine XS.iconst Xc496.here hx rfl (hb hby d2_233) ?_
                            show Steps p.tables e below (T474.setTop (mkF m 234 #[.val (.ref a1), .val (.ref a2), .val (.ref a3), .val (.ref a4), .val (.ref a5), .val (.ref b435), .val (.ref a2), .val (.int (5 : Int32)), .val (.int (1 : Int32)), .val (.int e_a2_1)] [(.int (1 : Int32)), (.int e_a2_1), (.ref b435)])) _
                            refine XS.iadd Xc496.here hx rfl (hb hby d2_234) rfl ?_
                            show Steps p.tables e below (T474.setTop (mkF m 235 #[.val (.ref a1), .val (.ref a2), .val (.ref a3), .val (.ref a4), .val (.ref a5), .val (.ref b435), .val (.ref a2), .val (.int (5 : Int32)), .val (.int (1 : Int32)), .val (.int e_a2_1)] [(.int (e_a2_1 + (1 : Int32))), (.ref b435)])) _
                            refine XT.dup2 Xc496.here hx rfl (hb hby d2_235) rfl rfl rfl ?_
                            show Steps p.tables e below (T474.setTop (mkF m 236 #[.val (.ref a1), .val (.ref a2), .val (.ref a3), .val (.ref a4), .val (.ref a5), .val (.ref b435), .val (.ref a2), .val (.int (5 : Int32)), .val (.int (1 : Int32)), .val (.int e_a2_1)] [(.int (e_a2_1 + (1 : Int32))), (.ref b435), (.int (e_a2_1 + (1 : Int32))), (.ref b435)])) _
                            refine Xc496.iaload hx (j := (e_a2_1 + (1 : Int32))) (v := (.int (own_at (own_L2_0 e_a2_0 e_a2_1 e_a2_2 e_a2_3 e_a2_4) (e_a2_1 + (1 : Int32))))) (by rw [e474]; exact Ar498.1) (State.isArrayOf_alike hZ.alike Ar498.2.1) Ar498.2.2 hin498 hat498 (g := (mkF m 236 #[.val (.ref a1), .val (.ref a2), .val (.ref a3), .val (.ref a4), .val (.ref a5), .val (.ref b435), .val (.ref a2), .val (.int (5 : Int32)), .val (.int (1 : Int32)), .val (.int e_a2_1)] [(.int (e_a2_1 + (1 : Int32))), (.ref b435), (.int (e_a2_1 + (1 : Int32))), (.ref b435)])) rfl rfl (hb hby d2_236) _ ?_
                            show Steps p.tables e below (T474.setTop (mkF m 237 #[.val (.ref a1), .val (.ref a2), .val (.ref a3), .val (.ref a4), .val (.ref a5), .val (.ref b435), .val (.ref a2), .val (.int (5 : Int32)), .val (.int (1 : Int32)), .val (.int e_a2_1)] [(.int (own_at (own_L2_0 e_a2_0 e_a2_1 e_a2_2 e_a2_3 e_a2_4) (e_a2_1 + (1 : Int32)))), (.int (e_a2_1 + (1 : Int32))), (.ref b435)])) _
                            refine XS.iconst Xc496.here hx rfl (hb hby d2_237) ?_
                            show Steps p.tables e below (T474.setTop (mkF m 238 #[.val (.ref a1), .val (.ref a2), .val (.ref a3), .val (.ref a4), .val (.ref a5), .val (.ref b435), .val (.ref a2), .val (.int (5 : Int32)), .val (.int (1 : Int32)), .val (.int e_a2_1)] [(.int (1 : Int32)), (.int (own_at (own_L2_0 e_a2_0 e_a2_1 e_a2_2 e_a2_3 e_a2_4) (e_a2_1 + (1 : Int32)))), (.int (e_a2_1 + (1 : Int32))), (.ref b435)])) _
                            refine XS.iadd Xc496.here hx rfl (hb hby d2_238) rfl ?_
                            show Steps p.tables e below (T474.setTop (mkF m 239 #[.val (.ref a1), .val (.ref a2), .val (.ref a3), .val (.ref a4), .val (.ref a5), .val (.ref b435), .val (.ref a2), .val (.int (5 : Int32)), .val (.int (1 : Int32)), .val (.int e_a2_1)] [(.int ((own_at (own_L2_0 e_a2_0 e_a2_1 e_a2_2 e_a2_3 e_a2_4) (e_a2_1 + (1 : Int32))) + (1 : Int32))), (.int (e_a2_1 + (1 : Int32))), (.ref b435)])) _
                            refine st499 _ ?_
                            show Steps p.tables e below (T499.setTop (mkF m 240 #[.val (.ref a1), .val (.ref a2), .val (.ref a3), .val (.ref a4), .val (.ref a5), .val (.ref b435), .val (.ref a2), .val (.int (5 : Int32)), .val (.int (1 : Int32)), .val (.int e_a2_1)] [])) _
                            refine XS.iinc X499.here hx rfl (hb hby d2_240) rfl (l' := #[.val (.ref a1), .val (.ref a2), .val (.ref a3), .val (.ref a4), .val (.ref a5), .val (.ref b435), .val (.ref a2), .val (.int (5 : Int32)), .val (.int (2 : Int32)), .val (.int e_a2_1)]) rfl ?_
                            show Steps p.tables e below (T499.setTop (mkF m 243 #[.val (.ref a1), .val (.ref a2), .val (.ref a3), .val (.ref a4), .val (.ref a5), .val (.ref b435), .val (.ref a2), .val (.int (5 : Int32)), .val (.int (2 : Int32)), .val (.int e_a2_1)] [])) _
                            refine XS.goto X499.here hx rfl (pc0 := 243) (pc' := 215) rfl (hb hby d2_243) (by decide) (by decide) ?_
                            exact kt
                          have fq501 := (Exa.wr W499 fq476)
                          have fq502 := (Fld.other W499 fq477 (Or.inl ne_a1_b435))
                          have fq503 := (Fld.other W499 fq478 (Or.inl ne_a1_b435))
                          have fq504 := (Fld.other W499 fq479 (Or.inl ne_a1_b435))
                          have fq505 := (Fld.other W499 fq480 (Or.inl ne_a1_b435))
                          have fq506 := (Fld.other W499 fq481 (Or.inl ne_a1_b435))
                          have fq507 := (Fld.other W499 fq482 (Or.inl ne_a1_b435))
                          have fq508 := (Fld.other W499 fq483 (Or.inl ne_a1_b435))
                          have fq509 := (Fld.other W499 fq484 (Or.inl ne_a1_b435))
                          have fq510 := (Fld.other W499 fq485 (Or.inl ne_a1_b435))
                          have fq511 := (Fld.other W499 fq486 (Or.inl ne_a1_b435))
                          have fq512 := (fq487.other W499 ne_a2_b435)
                          have fq513 := (fq488.other W499 ne_a4_b435)
                          have fq514 := (fq489.other W499 ne_b41_b435)
                          have fq515 := (fq490.other W499 ne_b47_b435)
                          have fq516 := (fq491.other W499 ne_b85_b435)
                          have fq517 := (fq492.other W499 ne_b91_b435)
                          have fq518 := (fq493.other W499 ne_b133_b435)
                          have fq519 := (fq494.other W499 ne_b139_b435)
                          have z520 : n0 ≤ h499.size := (Nat.le_trans z495 (Keep.of_wr W499).1)
                          obtain ⟨Lc521, Xc521, Nc521⟩ : ∃ L, Stand p l e ({ frames := 1, cells := 18, slots := 86, locals := 13 } : Room) s m #[(.ref a1), (.ref a2), (.ref a3), (.ref a4), (.ref a5)] below meth c T499 L 18 86 ∧ Fr n0 L := ⟨_, X499, N499⟩
                          clear e474 hl474 V474 pre475 fq476 fq477 fq478 fq479 fq480 fq481 fq482 fq483 fq484 fq485 fq486 fq487 fq488 fq489 fq490 fq491 fq492 fq493 fq494 z495 Xc496 Nc496 Ar497 aq497 S497 M497 H497 G497 hin497 hat497 Ar498 aq498 S498 M498 H498 G498 hin498 hat498 sd499 Vo499 Ar499 aq499 S499 M499 H499 G499 X499 W499 st499 N499
                          try clear cl499
                          try clear cl498
                          try clear cl497
                          try clear Lc496
                          try clear h474
                          try clear T474
                          as_aux_lemma =>
                            obtain ⟨cl522, Ar522, aq522, S522, M522, H522, G522⟩ := id fq512
                            have hin522 : ¬ ((2 : Int32) < 0 ∨ cl522.slots.size ≤ ((2 : Int32)).toNatClampNeg) := inb_of S522 ⟨by decide, by decide⟩
                            have hat522 : cl522.slots[((2 : Int32)).toNatClampNeg]? = some (.int e_a2_2) := Has.at H522 hin522 rfl
                            obtain ⟨cl523, Ar523, aq523, S523, M523, H523, G523⟩ := id V499
                            have hin523 : ¬ ((e_a2_2 + (1 : Int32)) < 0 ∨ cl523.slots.size ≤ ((e_a2_2 + (1 : Int32))).toNatClampNeg) := inb_of S523 (side_2_236_523 e_a2_0 e_a2_1 e_a2_2 e_a2_3 e_a2_4 hC)
                            have hat523 : cl523.slots[((e_a2_2 + (1 : Int32))).toNatClampNeg]? = some (.int (own_at (own_L2_1 e_a2_0 e_a2_1 e_a2_2 e_a2_3 e_a2_4) (e_a2_2 + (1 : Int32)))) := Has.at H523 hin523 (own_getD (own_L2_1 e_a2_0 e_a2_1 e_a2_2 e_a2_3 e_a2_4) ((e_a2_2 + (1 : Int32))).toNatClampNeg)
                            have sd524 : ¬ ((e_a2_2 + (1 : Int32)) < 0) ∧ (e_a2_2 + (1 : Int32)) < (6 : Int32) := (side_2_239_524 e_a2_0 e_a2_1 e_a2_2 e_a2_3 e_a2_4 hC)
                            have Vo524 : Arv Z h499 b435 k435 .int (6 : Int32) ((own_L2_1 e_a2_0 e_a2_1 e_a2_2 e_a2_3 e_a2_4).map Value.int) (.int (0 : Int32)) := V499
                            obtain ⟨cl524, Ar524, aq524, S524, M524, H524, G524⟩ := id V499
                            obtain ⟨T524, h524, X524, e524, W524, st524⟩ := stI Xc521 hx hZ e499 Ar524 (j := (e_a2_2 + (1 : Int32))) (inb_of S524 sd524) (g := (mkF m 239 #[.val (.ref a1), .val (.ref a2), .val (.ref a3), .val (.ref a4), .val (.ref a5), .val (.ref b435), .val (.ref a2), .val (.int (5 : Int32)), .val (.int (2 : Int32)), .val (.int e_a2_2)] [(.int ((own_at (own_L2_1 e_a2_0 e_a2_1 e_a2_2 e_a2_3 e_a2_4) (e_a2_2 + (1 : Int32))) + (1 : Int32))), (.int (e_a2_2 + (1 : Int32))), (.ref b435)])) rfl rfl (hb hby d2_239)
                            have hl524 : (own_L2_2 e_a2_0 e_a2_1 e_a2_2 e_a2_3 e_a2_4).length = 6 := (List.length_set ..).trans hl499
                            have V524 : Arv Z h524 b435 k435 .int (6 : Int32) ((own_L2_2 e_a2_0 e_a2_1 e_a2_2 e_a2_3 e_a2_4).map Value.int) (.int (0 : Int32)) := own_setL Vo524 hl499 W524 sd524
                            have N524 := Fr.snoc X524 Nc521 g_b435
                            have pre525 : ∀ t, Steps p.tables e below (T524.setTop (mkF m 215 #[.val (.ref a1), .val (.ref a2), .val (.ref a3), .val (.ref a4), .val (.ref a5), .val (.ref b435), .val (.ref a2), .val (.int (5 : Int32)), .val (.int (3 : Int32)), .val (.int e_a2_2)] [])) t → Steps p.tables e below (s₁.setTop (entryFrame m #[(.ref a1), (.ref a2), (.ref a3), (.ref a4), (.ref a5)] 10)) t := fun t kt => by
                              refine pre500 t ?_
                              show Steps p.tables e below (T499.setTop (mkF m 215 #[.val (.ref a1), .val (.ref a2), .val (.ref a3), .val (.ref a4), .val (.ref a5), .val (.ref b435), .val (.ref a2), .val (.int (5 : Int32)), .val (.int (2 : Int32)), .val (.int e_a2_1)] [])) _
                              refine XS.iload Xc521.here hx rfl (hb hby d2_215) rfl ?_
                              show Steps p.tables e below (T499.setTop (mkF m 217 #[.val (.ref a1), .val (.ref a2), .val (.ref a3), .val (.ref a4), .val (.ref a5), .val (.ref b435), .val (.ref a2), .val (.int (5 : Int32)), .val (.int (2 : Int32)), .val (.int e_a2_1)] [(.int (2 : Int32))])) _
                              refine XS.iload Xc521.here hx rfl (hb hby d2_217) rfl ?_
                              show Steps p.tables e below (T499.setTop (mkF m 219 #[.val (.ref a1), .val (.ref a2), .val (.ref a3), .val (.ref a4), .val (.ref a5), .val (.ref b435), .val (.ref a2), .val (.int (5 : Int32)), .val (.int (2 : Int32)), .val (.int e_a2_1)] [(.int (5 : Int32)), (.int (2 : Int32))])) _
                              refine XS.icmpNo Xc521.here hx rfl (hb hby d2_219) rfl (tlt (by decide : (2 : Int32) < (5 : Int32))).2.1 ?_
                              show Steps p.tables e below (T499.setTop (mkF m 222 #[.val (.ref a1), .val (.ref a2), .val (.ref a3), .val (.ref a4), .val (.ref a5), .val (.ref b435), .val (.ref a2), .val (.int (5 : Int32)), .val (.int (2 : Int32)), .val (.int e_a2_1)] [])) _
                              refine XS.aload Xc521.here hx rfl (hb hby d2_222) rfl rfl ?_
                              show Steps p.tables e below (T499.setTop (mkF m 224 #[.val (.ref a1), .val (.ref a2), .val (.ref a3), .val (.ref a4), .val (.ref a5), .val (.ref b435), .val (.ref a2), .val (.int (5 : Int32)), .val (.int (2 : Int32)), .val (.int e_a2_1)] [(.ref a2)])) _
                              refine XS.iload Xc521.here hx rfl (hb hby d2_224) rfl ?_
                              show Steps p.tables e below (T499.setTop (mkF m 226 #[.val (.ref a1), .val (.ref a2), .val (.ref a3), .val (.ref a4), .val (.ref a5), .val (.ref b435), .val (.ref a2), .val (.int (5 : Int32)), .val (.int (2 : Int32)), .val (.int e_a2_1)] [(.int (2 : Int32)), (.ref a2)])) _
                              refine Xc521.iaload hx (j := (2 : Int32)) (v := (.int e_a2_2)) (by rw [e499]; exact Ar522.1) (State.isArrayOf_alike hZ.alike Ar522.2.1) Ar522.2.2 hin522 hat522 (g := (mkF m 226 #[.val (.ref a1), .val (.ref a2), .val (.ref a3), .val (.ref a4), .val (.ref a5), .val (.ref b435), .val (.ref a2), .val (.int (5 : Int32)), .val (.int (2 : Int32)), .val (.int e_a2_1)] [(.int (2 : Int32)), (.ref a2)])) rfl rfl (hb hby d2_226) _ ?_
                              show Steps p.tables e below (T499.setTop (mkF m 227 #[.val (.ref a1), .val (.ref a2), .val (.ref a3), .val (.ref a4), .val (.ref a5), .val (.ref b435), .val (.ref a2), .val (.int (5 : Int32)), .val (.int (2 : Int32)), .val (.int e_a2_1)] [(.int e_a2_2)])) _
                              refine XS.istore Xc521.here hx rfl (hb hby d2_227) rfl (l' := #[.val (.ref a1), .val (.ref a2), .val (.ref a3), .val (.ref a4), .val (.ref a5), .val (.ref b435), .val (.ref a2), .val (.int (5 : Int32)), .val (.int (2 : Int32)), .val (.int e_a2_2)]) rfl ?_
                              show Steps p.tables e below (T499.setTop (mkF m 229 #[.val (.ref a1), .val (.ref a2), .val (.ref a3), .val (.ref a4), .val (.ref a5), .val (.ref b435), .val (.ref a2), .val (.int (5 : Int32)), .val (.int (2 : Int32)), .val (.int e_a2_2)] [])) _
                              refine XS.aload Xc521.here hx rfl (hb hby d2_229) rfl rfl ?_
                              show Steps p.tables e below (T499.setTop (mkF m 231 #[.val (.ref a1), .val (.ref a2), .val (.ref a3), .val (.ref a4), .val (.ref a5), .val (.ref b435), .val (.ref a2), .val (.int (5 : Int32)), .val (.int (2 : Int32)), .val (.int e_a2_2)] [(.ref b435)])) _
                              refine XS.iload Xc521.here hx rfl (hb hby d2_231) rfl ?_
                              show Steps p.tables e below (T499.setTop (mkF m 233 #[.val (.ref a1), .val (.ref a2), .val (.ref a3), .val (.ref a4), .val (.ref a5), .val (.ref b435), .val (.ref a2), .val (.int (5 : Int32)), .val (.int (2 : Int32)), .val (.int e_a2_2)] [(.int e_a2_2), (.ref b435)])) _
                              refine XS.iconst Xc521.here hx rfl (hb hby d2_233) ?_
                              show Steps p.tables e below (T499.setTop (mkF m 234 #[.val (.ref a1), .val (.ref a2), .val (.ref a3), .val (.ref a4), .val (.ref a5), .val (.ref b435), .val (.ref a2), .val (.int (5 : Int32)), .val (.int (2 : Int32)), .val (.int e_a2_2)] [(.int (1 : Int32)), (.int e_a2_2), (.ref b435)])) _
                              refine XS.iadd Xc521.here hx rfl (hb hby d2_234) rfl ?_
                              show Steps p.tables e below (T499.setTop (mkF m 235 #[.val (.ref a1), .val (.ref a2), .val (.ref a3), .val (.ref a4), .val (.ref a5), .val (.ref b435), .val (.ref a2), .val (.int (5 : Int32)), .val (.int (2 : Int32)), .val (.int e_a2_2)] [(.int (e_a2_2 + (1 : Int32))), (.ref b435)])) _
                              refine XT.dup2 Xc521.here hx rfl (hb hby d2_235) rfl rfl rfl ?_
                              show Steps p.tables e below (T499.setTop (mkF m 236 #[.val (.ref a1), .val (.ref a2), .val (.ref a3), .val (.ref a4), .val (.ref a5), .val (.ref b435), .val (.ref a2), .val (.int (5 : Int32)), .val (.int (2 : Int32)), .val (.int e_a2_2)] [(.int (e_a2_2 + (1 : Int32))), (.ref b435), (.int (e_a2_2 + (1 : Int32))), (.ref b435)])) _
                              refine Xc521.iaload hx (j := (e_a2_2 + (1 : Int32))) (v := (.int (own_at (own_L2_1 e_a2_0 e_a2_1 e_a2_2 e_a2_3 e_a2_4) (e_a2_2 + (1 : Int32))))) (by rw [e499]; exact Ar523.1) (State.isArrayOf_alike hZ.alike Ar523.2.1) Ar523.2.2 hin523 hat523 (g := (mkF m 236 #[.val (.ref a1), .val (.ref a2), .val (.ref a3), .val (.ref a4), .val (.ref a5), .val (.ref b435), .val (.ref a2), .val (.int (5 : Int32)), .val (.int (2 : Int32)), .val (.int e_a2_2)] [(.int (e_a2_2 + (1 : Int32))), (.ref b435), (.int (e_a2_2 + (1 : Int32))), (.ref b435)])) rfl rfl (hb hby d2_236) _ ?_
                              show Steps p.tables e below (T499.setTop (mkF m 237 #[.val (.ref a1), .val (.ref a2), .val (.ref a3), .val (.ref a4), .val (.ref a5), .val (.ref b435), .val (.ref a2), .val (.int (5 : Int32)), .val (.int (2 : Int32)), .val (.int e_a2_2)] [(.int (own_at (own_L2_1 e_a2_0 e_a2_1 e_a2_2 e_a2_3 e_a2_4) (e_a2_2 + (1 : Int32)))), (.int (e_a2_2 + (1 : Int32))), (.ref b435)])) _
                              refine XS.iconst Xc521.here hx rfl (hb hby d2_237) ?_
                              show Steps p.tables e below (T499.setTop (mkF m 238 #[.val (.ref a1), .val (.ref a2), .val (.ref a3), .val (.ref a4), .val (.ref a5), .val (.ref b435), .val (.ref a2), .val (.int (5 : Int32)), .val (.int (2 : Int32)), .val (.int e_a2_2)] [(.int (1 : Int32)), (.int (own_at (own_L2_1 e_a2_0 e_a2_1 e_a2_2 e_a2_3 e_a2_4) (e_a2_2 + (1 : Int32)))), (.int (e_a2_2 + (1 : Int32))), (.ref b435)])) _
                              refine XS.iadd Xc521.here hx rfl (hb hby d2_238) rfl ?_
                              show Steps p.tables e below (T499.setTop (mkF m 239 #[.val (.ref a1), .val (.ref a2), .val (.ref a3), .val (.ref a4), .val (.ref a5), .val (.ref b435), .val (.ref a2), .val (.int (5 : Int32)), .val (.int (2 : Int32)), .val (.int e_a2_2)] [(.int ((own_at (own_L2_1 e_a2_0 e_a2_1 e_a2_2 e_a2_3 e_a2_4) (e_a2_2 + (1 : Int32))) + (1 : Int32))), (.int (e_a2_2 + (1 : Int32))), (.ref b435)])) _
                              refine st524 _ ?_
                              show Steps p.tables e below (T524.setTop (mkF m 240 #[.val (.ref a1), .val (.ref a2), .val (.ref a3), .val (.ref a4), .val (.ref a5), .val (.ref b435), .val (.ref a2), .val (.int (5 : Int32)), .val (.int (2 : Int32)), .val (.int e_a2_2)] [])) _
                              refine XS.iinc X524.here hx rfl (hb hby d2_240) rfl (l' := #[.val (.ref a1), .val (.ref a2), .val (.ref a3), .val (.ref a4), .val (.ref a5), .val (.ref b435), .val (.ref a2), .val (.int (5 : Int32)), .val (.int (3 : Int32)), .val (.int e_a2_2)]) rfl ?_
                              show Steps p.tables e below (T524.setTop (mkF m 243 #[.val (.ref a1), .val (.ref a2), .val (.ref a3), .val (.ref a4), .val (.ref a5), .val (.ref b435), .val (.ref a2), .val (.int (5 : Int32)), .val (.int (3 : Int32)), .val (.int e_a2_2)] [])) _
                              refine XS.goto X524.here hx rfl (pc0 := 243) (pc' := 215) rfl (hb hby d2_243) (by decide) (by decide) ?_
                              exact kt
                            have fq526 := (Exa.wr W524 fq501)
                            have fq527 := (Fld.other W524 fq502 (Or.inl ne_a1_b435))
                            have fq528 := (Fld.other W524 fq503 (Or.inl ne_a1_b435))
                            have fq529 := (Fld.other W524 fq504 (Or.inl ne_a1_b435))
                            have fq530 := (Fld.other W524 fq505 (Or.inl ne_a1_b435))
                            have fq531 := (Fld.other W524 fq506 (Or.inl ne_a1_b435))
                            have fq532 := (Fld.other W524 fq507 (Or.inl ne_a1_b435))
                            have fq533 := (Fld.other W524 fq508 (Or.inl ne_a1_b435))
                            have fq534 := (Fld.other W524 fq509 (Or.inl ne_a1_b435))
                            have fq535 := (Fld.other W524 fq510 (Or.inl ne_a1_b435))
                            have fq536 := (Fld.other W524 fq511 (Or.inl ne_a1_b435))
                            have fq537 := (fq512.other W524 ne_a2_b435)
                            have fq538 := (fq513.other W524 ne_a4_b435)
                            have fq539 := (fq514.other W524 ne_b41_b435)
                            have fq540 := (fq515.other W524 ne_b47_b435)
                            have fq541 := (fq516.other W524 ne_b85_b435)
                            have fq542 := (fq517.other W524 ne_b91_b435)
                            have fq543 := (fq518.other W524 ne_b133_b435)
                            have fq544 := (fq519.other W524 ne_b139_b435)
                            have z545 : n0 ≤ h524.size := (Nat.le_trans z520 (Keep.of_wr W524).1)
                            obtain ⟨Lc546, Xc546, Nc546⟩ : ∃ L, Stand p l e ({ frames := 1, cells := 18, slots := 86, locals := 13 } : Room) s m #[(.ref a1), (.ref a2), (.ref a3), (.ref a4), (.ref a5)] below meth c T524 L 18 86 ∧ Fr n0 L := ⟨_, X524, N524⟩
                            clear e499 hl499 V499 pre500 fq501 fq502 fq503 fq504 fq505 fq506 fq507 fq508 fq509 fq510 fq511 fq512 fq513 fq514 fq515 fq516 fq517 fq518 fq519 z520 Xc521 Nc521 Ar522 aq522 S522 M522 H522 G522 hin522 hat522 Ar523 aq523 S523 M523 H523 G523 hin523 hat523 sd524 Vo524 Ar524 aq524 S524 M524 H524 G524 X524 W524 st524 N524
                            try clear cl524
                            try clear cl523
                            try clear cl522
                            try clear Lc521
                            try clear h499
                            try clear T499
                            as_aux_lemma =>
                              obtain ⟨cl547, Ar547, aq547, S547, M547, H547, G547⟩ := id fq537
                              have hin547 : ¬ ((3 : Int32) < 0 ∨ cl547.slots.size ≤ ((3 : Int32)).toNatClampNeg) := inb_of S547 ⟨by decide, by decide⟩
                              have hat547 : cl547.slots[((3 : Int32)).toNatClampNeg]? = some (.int e_a2_3) := Has.at H547 hin547 rfl
                              obtain ⟨cl548, Ar548, aq548, S548, M548, H548, G548⟩ := id V524
                              have hin548 : ¬ ((e_a2_3 + (1 : Int32)) < 0 ∨ cl548.slots.size ≤ ((e_a2_3 + (1 : Int32))).toNatClampNeg) := inb_of S548 (side_2_236_548 e_a2_0 e_a2_1 e_a2_2 e_a2_3 e_a2_4 hC)
                              have hat548 : cl548.slots[((e_a2_3 + (1 : Int32))).toNatClampNeg]? = some (.int (own_at (own_L2_2 e_a2_0 e_a2_1 e_a2_2 e_a2_3 e_a2_4) (e_a2_3 + (1 : Int32)))) := Has.at H548 hin548 (own_getD (own_L2_2 e_a2_0 e_a2_1 e_a2_2 e_a2_3 e_a2_4) ((e_a2_3 + (1 : Int32))).toNatClampNeg)
                              have sd549 : ¬ ((e_a2_3 + (1 : Int32)) < 0) ∧ (e_a2_3 + (1 : Int32)) < (6 : Int32) := (side_2_239_549 e_a2_0 e_a2_1 e_a2_2 e_a2_3 e_a2_4 hC)
                              have Vo549 : Arv Z h524 b435 k435 .int (6 : Int32) ((own_L2_2 e_a2_0 e_a2_1 e_a2_2 e_a2_3 e_a2_4).map Value.int) (.int (0 : Int32)) := V524
                              obtain ⟨cl549, Ar549, aq549, S549, M549, H549, G549⟩ := id V524
                              obtain ⟨T549, h549, X549, e549, W549, st549⟩ := stI Xc546 hx hZ e524 Ar549 (j := (e_a2_3 + (1 : Int32))) (inb_of S549 sd549) (g := (mkF m 239 #[.val (.ref a1), .val (.ref a2), .val (.ref a3), .val (.ref a4), .val (.ref a5), .val (.ref b435), .val (.ref a2), .val (.int (5 : Int32)), .val (.int (3 : Int32)), .val (.int e_a2_3)] [(.int ((own_at (own_L2_2 e_a2_0 e_a2_1 e_a2_2 e_a2_3 e_a2_4) (e_a2_3 + (1 : Int32))) + (1 : Int32))), (.int (e_a2_3 + (1 : Int32))), (.ref b435)])) rfl rfl (hb hby d2_239)
                              have hl549 : (own_L2_3 e_a2_0 e_a2_1 e_a2_2 e_a2_3 e_a2_4).length = 6 := (List.length_set ..).trans hl524
                              have V549 : Arv Z h549 b435 k435 .int (6 : Int32) ((own_L2_3 e_a2_0 e_a2_1 e_a2_2 e_a2_3 e_a2_4).map Value.int) (.int (0 : Int32)) := own_setL Vo549 hl524 W549 sd549
                              have N549 := Fr.snoc X549 Nc546 g_b435
                              have pre550 : ∀ t, Steps p.tables e below (T549.setTop (mkF m 215 #[.val (.ref a1), .val (.ref a2), .val (.ref a3), .val (.ref a4), .val (.ref a5), .val (.ref b435), .val (.ref a2), .val (.int (5 : Int32)), .val (.int (4 : Int32)), .val (.int e_a2_3)] [])) t → Steps p.tables e below (s₁.setTop (entryFrame m #[(.ref a1), (.ref a2), (.ref a3), (.ref a4), (.ref a5)] 10)) t := fun t kt => by
                                refine pre525 t ?_
                                show Steps p.tables e below (T524.setTop (mkF m 215 #[.val (.ref a1), .val (.ref a2), .val (.ref a3), .val (.ref a4), .val (.ref a5), .val (.ref b435), .val (.ref a2), .val (.int (5 : Int32)), .val (.int (3 : Int32)), .val (.int e_a2_2)] [])) _
                                refine XS.iload Xc546.here hx rfl (hb hby d2_215) rfl ?_
                                show Steps p.tables e below (T524.setTop (mkF m 217 #[.val (.ref a1), .val (.ref a2), .val (.ref a3), .val (.ref a4), .val (.ref a5), .val (.ref b435), .val (.ref a2), .val (.int (5 : Int32)), .val (.int (3 : Int32)), .val (.int e_a2_2)] [(.int (3 : Int32))])) _
                                refine XS.iload Xc546.here hx rfl (hb hby d2_217) rfl ?_
                                show Steps p.tables e below (T524.setTop (mkF m 219 #[.val (.ref a1), .val (.ref a2), .val (.ref a3), .val (.ref a4), .val (.ref a5), .val (.ref b435), .val (.ref a2), .val (.int (5 : Int32)), .val (.int (3 : Int32)), .val (.int e_a2_2)] [(.int (5 : Int32)), (.int (3 : Int32))])) _
                                refine XS.icmpNo Xc546.here hx rfl (hb hby d2_219) rfl (tlt (by decide : (3 : Int32) < (5 : Int32))).2.1 ?_
                                show Steps p.tables e below (T524.setTop (mkF m 222 #[.val (.ref a1), .val (.ref a2), .val (.ref a3), .val (.ref a4), .val (.ref a5), .val (.ref b435), .val (.ref a2), .val (.int (5 : Int32)), .val (.int (3 : Int32)), .val (.int e_a2_2)] [])) _
                                refine XS.aload Xc546.here hx rfl (hb hby d2_222) rfl rfl ?_
                                show Steps p.tables e below (T524.setTop (mkF m 224 #[.val (.ref a1), .val (.ref a2), .val (.ref a3), .val (.ref a4), .val (.ref a5), .val (.ref b435), .val (.ref a2), .val (.int (5 : Int32)), .val (.int (3 : Int32)), .val (.int e_a2_2)] [(.ref a2)])) _
                                refine XS.iload Xc546.here hx rfl (hb hby d2_224) rfl ?_
                                show Steps p.tables e below (T524.setTop (mkF m 226 #[.val (.ref a1), .val (.ref a2), .val (.ref a3), .val (.ref a4), .val (.ref a5), .val (.ref b435), .val (.ref a2), .val (.int (5 : Int32)), .val (.int (3 : Int32)), .val (.int e_a2_2)] [(.int (3 : Int32)), (.ref a2)])) _
                                refine Xc546.iaload hx (j := (3 : Int32)) (v := (.int e_a2_3)) (by rw [e524]; exact Ar547.1) (State.isArrayOf_alike hZ.alike Ar547.2.1) Ar547.2.2 hin547 hat547 (g := (mkF m 226 #[.val (.ref a1), .val (.ref a2), .val (.ref a3), .val (.ref a4), .val (.ref a5), .val (.ref b435), .val (.ref a2), .val (.int (5 : Int32)), .val (.int (3 : Int32)), .val (.int e_a2_2)] [(.int (3 : Int32)), (.ref a2)])) rfl rfl (hb hby d2_226) _ ?_
                                show Steps p.tables e below (T524.setTop (mkF m 227 #[.val (.ref a1), .val (.ref a2), .val (.ref a3), .val (.ref a4), .val (.ref a5), .val (.ref b435), .val (.ref a2), .val (.int (5 : Int32)), .val (.int (3 : Int32)), .val (.int e_a2_2)] [(.int e_a2_3)])) _
                                refine XS.istore Xc546.here hx rfl (hb hby d2_227) rfl (l' := #[.val (.ref a1), .val (.ref a2), .val (.ref a3), .val (.ref a4), .val (.ref a5), .val (.ref b435), .val (.ref a2), .val (.int (5 : Int32)), .val (.int (3 : Int32)), .val (.int e_a2_3)]) rfl ?_
                                show Steps p.tables e below (T524.setTop (mkF m 229 #[.val (.ref a1), .val (.ref a2), .val (.ref a3), .val (.ref a4), .val (.ref a5), .val (.ref b435), .val (.ref a2), .val (.int (5 : Int32)), .val (.int (3 : Int32)), .val (.int e_a2_3)] [])) _
                                refine XS.aload Xc546.here hx rfl (hb hby d2_229) rfl rfl ?_
                                show Steps p.tables e below (T524.setTop (mkF m 231 #[.val (.ref a1), .val (.ref a2), .val (.ref a3), .val (.ref a4), .val (.ref a5), .val (.ref b435), .val (.ref a2), .val (.int (5 : Int32)), .val (.int (3 : Int32)), .val (.int e_a2_3)] [(.ref b435)])) _
                                refine XS.iload Xc546.here hx rfl (hb hby d2_231) rfl ?_
                                show Steps p.tables e below (T524.setTop (mkF m 233 #[.val (.ref a1), .val (.ref a2), .val (.ref a3), .val (.ref a4), .val (.ref a5), .val (.ref b435), .val (.ref a2), .val (.int (5 : Int32)), .val (.int (3 : Int32)), .val (.int e_a2_3)] [(.int e_a2_3), (.ref b435)])) _
                                refine XS.iconst Xc546.here hx rfl (hb hby d2_233) ?_
                                show Steps p.tables e below (T524.setTop (mkF m 234 #[.val (.ref a1), .val (.ref a2), .val (.ref a3), .val (.ref a4), .val (.ref a5), .val (.ref b435), .val (.ref a2), .val (.int (5 : Int32)), .val (.int (3 : Int32)), .val (.int e_a2_3)] [(.int (1 : Int32)), (.int e_a2_3), (.ref b435)])) _
                                refine XS.iadd Xc546.here hx rfl (hb hby d2_234) rfl ?_
                                show Steps p.tables e below (T524.setTop (mkF m 235 #[.val (.ref a1), .val (.ref a2), .val (.ref a3), .val (.ref a4), .val (.ref a5), .val (.ref b435), .val (.ref a2), .val (.int (5 : Int32)), .val (.int (3 : Int32)), .val (.int e_a2_3)] [(.int (e_a2_3 + (1 : Int32))), (.ref b435)])) _
                                refine XT.dup2 Xc546.here hx rfl (hb hby d2_235) rfl rfl rfl ?_
                                show Steps p.tables e below (T524.setTop (mkF m 236 #[.val (.ref a1), .val (.ref a2), .val (.ref a3), .val (.ref a4), .val (.ref a5), .val (.ref b435), .val (.ref a2), .val (.int (5 : Int32)), .val (.int (3 : Int32)), .val (.int e_a2_3)] [(.int (e_a2_3 + (1 : Int32))), (.ref b435), (.int (e_a2_3 + (1 : Int32))), (.ref b435)])) _
                                refine Xc546.iaload hx (j := (e_a2_3 + (1 : Int32))) (v := (.int (own_at (own_L2_2 e_a2_0 e_a2_1 e_a2_2 e_a2_3 e_a2_4) (e_a2_3 + (1 : Int32))))) (by rw [e524]; exact Ar548.1) (State.isArrayOf_alike hZ.alike Ar548.2.1) Ar548.2.2 hin548 hat548 (g := (mkF m 236 #[.val (.ref a1), .val (.ref a2), .val (.ref a3), .val (.ref a4), .val (.ref a5), .val (.ref b435), .val (.ref a2), .val (.int (5 : Int32)), .val (.int (3 : Int32)), .val (.int e_a2_3)] [(.int (e_a2_3 + (1 : Int32))), (.ref b435), (.int (e_a2_3 + (1 : Int32))), (.ref b435)])) rfl rfl (hb hby d2_236) _ ?_
                                show Steps p.tables e below (T524.setTop (mkF m 237 #[.val (.ref a1), .val (.ref a2), .val (.ref a3), .val (.ref a4), .val (.ref a5), .val (.ref b435), .val (.ref a2), .val (.int (5 : Int32)), .val (.int (3 : Int32)), .val (.int e_a2_3)] [(.int (own_at (own_L2_2 e_a2_0 e_a2_1 e_a2_2 e_a2_3 e_a2_4) (e_a2_3 + (1 : Int32)))), (.int (e_a2_3 + (1 : Int32))), (.ref b435)])) _
                                refine XS.iconst Xc546.here hx rfl (hb hby d2_237) ?_
                                show Steps p.tables e below (T524.setTop (mkF m 238 #[.val (.ref a1), .val (.ref a2), .val (.ref a3), .val (.ref a4), .val (.ref a5), .val (.ref b435), .val (.ref a2), .val (.int (5 : Int32)), .val (.int (3 : Int32)), .val (.int e_a2_3)] [(.int (1 : Int32)), (.int (own_at (own_L2_2 e_a2_0 e_a2_1 e_a2_2 e_a2_3 e_a2_4) (e_a2_3 + (1 : Int32)))), (.int (e_a2_3 + (1 : Int32))), (.ref b435)])) _
                                refine XS.iadd Xc546.here hx rfl (hb hby d2_238) rfl ?_
                                show Steps p.tables e below (T524.setTop (mkF m 239 #[.val (.ref a1), .val (.ref a2), .val (.ref a3), .val (.ref a4), .val (.ref a5), .val (.ref b435), .val (.ref a2), .val (.int (5 : Int32)), .val (.int (3 : Int32)), .val (.int e_a2_3)] [(.int ((own_at (own_L2_2 e_a2_0 e_a2_1 e_a2_2 e_a2_3 e_a2_4) (e_a2_3 + (1 : Int32))) + (1 : Int32))), (.int (e_a2_3 + (1 : Int32))), (.ref b435)])) _
                                refine st549 _ ?_
                                show Steps p.tables e below (T549.setTop (mkF m 240 #[.val (.ref a1), .val (.ref a2), .val (.ref a3), .val (.ref a4), .val (.ref a5), .val (.ref b435), .val (.ref a2), .val (.int (5 : Int32)), .val (.int (3 : Int32)), .val (.int e_a2_3)] [])) _
                                refine XS.iinc X549.here hx rfl (hb hby d2_240) rfl (l' := #[.val (.ref a1), .val (.ref a2), .val (.ref a3), .val (.ref a4), .val (.ref a5), .val (.ref b435), .val (.ref a2), .val (.int (5 : Int32)), .val (.int (4 : Int32)), .val (.int e_a2_3)]) rfl ?_
                                show Steps p.tables e below (T549.setTop (mkF m 243 #[.val (.ref a1), .val (.ref a2), .val (.ref a3), .val (.ref a4), .val (.ref a5), .val (.ref b435), .val (.ref a2), .val (.int (5 : Int32)), .val (.int (4 : Int32)), .val (.int e_a2_3)] [])) _
                                refine XS.goto X549.here hx rfl (pc0 := 243) (pc' := 215) rfl (hb hby d2_243) (by decide) (by decide) ?_
                                exact kt
                              have fq551 := (Exa.wr W549 fq526)
                              have fq552 := (Fld.other W549 fq527 (Or.inl ne_a1_b435))
                              have fq553 := (Fld.other W549 fq528 (Or.inl ne_a1_b435))
                              have fq554 := (Fld.other W549 fq529 (Or.inl ne_a1_b435))
                              have fq555 := (Fld.other W549 fq530 (Or.inl ne_a1_b435))
                              have fq556 := (Fld.other W549 fq531 (Or.inl ne_a1_b435))
                              have fq557 := (Fld.other W549 fq532 (Or.inl ne_a1_b435))
                              have fq558 := (Fld.other W549 fq533 (Or.inl ne_a1_b435))
                              have fq559 := (Fld.other W549 fq534 (Or.inl ne_a1_b435))
                              have fq560 := (Fld.other W549 fq535 (Or.inl ne_a1_b435))
                              have fq561 := (Fld.other W549 fq536 (Or.inl ne_a1_b435))
                              have fq562 := (fq537.other W549 ne_a2_b435)
                              have fq563 := (fq538.other W549 ne_a4_b435)
                              have fq564 := (fq539.other W549 ne_b41_b435)
                              have fq565 := (fq540.other W549 ne_b47_b435)
                              have fq566 := (fq541.other W549 ne_b85_b435)
                              have fq567 := (fq542.other W549 ne_b91_b435)
                              have fq568 := (fq543.other W549 ne_b133_b435)
                              have fq569 := (fq544.other W549 ne_b139_b435)
                              have z570 : n0 ≤ h549.size := (Nat.le_trans z545 (Keep.of_wr W549).1)
                              obtain ⟨Lc571, Xc571, Nc571⟩ : ∃ L, Stand p l e ({ frames := 1, cells := 18, slots := 86, locals := 13 } : Room) s m #[(.ref a1), (.ref a2), (.ref a3), (.ref a4), (.ref a5)] below meth c T549 L 18 86 ∧ Fr n0 L := ⟨_, X549, N549⟩
                              clear e524 hl524 V524 pre525 fq526 fq527 fq528 fq529 fq530 fq531 fq532 fq533 fq534 fq535 fq536 fq537 fq538 fq539 fq540 fq541 fq542 fq543 fq544 z545 Xc546 Nc546 Ar547 aq547 S547 M547 H547 G547 hin547 hat547 Ar548 aq548 S548 M548 H548 G548 hin548 hat548 sd549 Vo549 Ar549 aq549 S549 M549 H549 G549 X549 W549 st549 N549
                              try clear cl549
                              try clear cl548
                              try clear cl547
                              try clear Lc546
                              try clear h524
                              try clear T524
                              as_aux_lemma =>
                                obtain ⟨cl572, Ar572, aq572, S572, M572, H572, G572⟩ := id fq562
                                have hin572 : ¬ ((4 : Int32) < 0 ∨ cl572.slots.size ≤ ((4 : Int32)).toNatClampNeg) := inb_of S572 ⟨by decide, by decide⟩
                                have hat572 : cl572.slots[((4 : Int32)).toNatClampNeg]? = some (.int e_a2_4) := Has.at H572 hin572 rfl
                                obtain ⟨cl573, Ar573, aq573, S573, M573, H573, G573⟩ := id V549
                                have hin573 : ¬ ((e_a2_4 + (1 : Int32)) < 0 ∨ cl573.slots.size ≤ ((e_a2_4 + (1 : Int32))).toNatClampNeg) := inb_of S573 (side_2_236_573 e_a2_0 e_a2_1 e_a2_2 e_a2_3 e_a2_4 hC)
                                have hat573 : cl573.slots[((e_a2_4 + (1 : Int32))).toNatClampNeg]? = some (.int (own_at (own_L2_3 e_a2_0 e_a2_1 e_a2_2 e_a2_3 e_a2_4) (e_a2_4 + (1 : Int32)))) := Has.at H573 hin573 (own_getD (own_L2_3 e_a2_0 e_a2_1 e_a2_2 e_a2_3 e_a2_4) ((e_a2_4 + (1 : Int32))).toNatClampNeg)
                                have sd574 : ¬ ((e_a2_4 + (1 : Int32)) < 0) ∧ (e_a2_4 + (1 : Int32)) < (6 : Int32) := (side_2_239_574 e_a2_0 e_a2_1 e_a2_2 e_a2_3 e_a2_4 hC)
                                have Vo574 : Arv Z h549 b435 k435 .int (6 : Int32) ((own_L2_3 e_a2_0 e_a2_1 e_a2_2 e_a2_3 e_a2_4).map Value.int) (.int (0 : Int32)) := V549
                                obtain ⟨cl574, Ar574, aq574, S574, M574, H574, G574⟩ := id V549
                                obtain ⟨T574, h574, X574, e574, W574, st574⟩ := stI Xc571 hx hZ e549 Ar574 (j := (e_a2_4 + (1 : Int32))) (inb_of S574 sd574) (g := (mkF m 239 #[.val (.ref a1), .val (.ref a2), .val (.ref a3), .val (.ref a4), .val (.ref a5), .val (.ref b435), .val (.ref a2), .val (.int (5 : Int32)), .val (.int (4 : Int32)), .val (.int e_a2_4)] [(.int ((own_at (own_L2_3 e_a2_0 e_a2_1 e_a2_2 e_a2_3 e_a2_4) (e_a2_4 + (1 : Int32))) + (1 : Int32))), (.int (e_a2_4 + (1 : Int32))), (.ref b435)])) rfl rfl (hb hby d2_239)
                                have hl574 : (own_L2_4 e_a2_0 e_a2_1 e_a2_2 e_a2_3 e_a2_4).length = 6 := (List.length_set ..).trans hl549
                                have V574 : Arv Z h574 b435 k435 .int (6 : Int32) ((own_L2_4 e_a2_0 e_a2_1 e_a2_2 e_a2_3 e_a2_4).map Value.int) (.int (0 : Int32)) := own_setL Vo574 hl549 W574 sd574
                                have N574 := Fr.snoc X574 Nc571 g_b435
                                have pre575 : ∀ t, Steps p.tables e below (T574.setTop (mkF m 215 #[.val (.ref a1), .val (.ref a2), .val (.ref a3), .val (.ref a4), .val (.ref a5), .val (.ref b435), .val (.ref a2), .val (.int (5 : Int32)), .val (.int (5 : Int32)), .val (.int e_a2_4)] [])) t → Steps p.tables e below (s₁.setTop (entryFrame m #[(.ref a1), (.ref a2), (.ref a3), (.ref a4), (.ref a5)] 10)) t := fun t kt => by
                                  refine pre550 t ?_
                                  show Steps p.tables e below (T549.setTop (mkF m 215 #[.val (.ref a1), .val (.ref a2), .val (.ref a3), .val (.ref a4), .val (.ref a5), .val (.ref b435), .val (.ref a2), .val (.int (5 : Int32)), .val (.int (4 : Int32)), .val (.int e_a2_3)] [])) _
                                  refine XS.iload Xc571.here hx rfl (hb hby d2_215) rfl ?_
                                  show Steps p.tables e below (T549.setTop (mkF m 217 #[.val (.ref a1), .val (.ref a2), .val (.ref a3), .val (.ref a4), .val (.ref a5), .val (.ref b435), .val (.ref a2), .val (.int (5 : Int32)), .val (.int (4 : Int32)), .val (.int e_a2_3)] [(.int (4 : Int32))])) _
                                  refine XS.iload Xc571.here hx rfl (hb hby d2_217) rfl ?_
                                  show Steps p.tables e below (T549.setTop (mkF m 219 #[.val (.ref a1), .val (.ref a2), .val (.ref a3), .val (.ref a4), .val (.ref a5), .val (.ref b435), .val (.ref a2), .val (.int (5 : Int32)), .val (.int (4 : Int32)), .val (.int e_a2_3)] [(.int (5 : Int32)), (.int (4 : Int32))])) _
                                  refine XS.icmpNo Xc571.here hx rfl (hb hby d2_219) rfl (tlt (by decide : (4 : Int32) < (5 : Int32))).2.1 ?_
                                  show Steps p.tables e below (T549.setTop (mkF m 222 #[.val (.ref a1), .val (.ref a2), .val (.ref a3), .val (.ref a4), .val (.ref a5), .val (.ref b435), .val (.ref a2), .val (.int (5 : Int32)), .val (.int (4 : Int32)), .val (.int e_a2_3)] [])) _
                                  refine XS.aload Xc571.here hx rfl (hb hby d2_222) rfl rfl ?_
                                  show Steps p.tables e below (T549.setTop (mkF m 224 #[.val (.ref a1), .val (.ref a2), .val (.ref a3), .val (.ref a4), .val (.ref a5), .val (.ref b435), .val (.ref a2), .val (.int (5 : Int32)), .val (.int (4 : Int32)), .val (.int e_a2_3)] [(.ref a2)])) _
                                  refine XS.iload Xc571.here hx rfl (hb hby d2_224) rfl ?_
                                  show Steps p.tables e below (T549.setTop (mkF m 226 #[.val (.ref a1), .val (.ref a2), .val (.ref a3), .val (.ref a4), .val (.ref a5), .val (.ref b435), .val (.ref a2), .val (.int (5 : Int32)), .val (.int (4 : Int32)), .val (.int e_a2_3)] [(.int (4 : Int32)), (.ref a2)])) _
                                  refine Xc571.iaload hx (j := (4 : Int32)) (v := (.int e_a2_4)) (by rw [e549]; exact Ar572.1) (State.isArrayOf_alike hZ.alike Ar572.2.1) Ar572.2.2 hin572 hat572 (g := (mkF m 226 #[.val (.ref a1), .val (.ref a2), .val (.ref a3), .val (.ref a4), .val (.ref a5), .val (.ref b435), .val (.ref a2), .val (.int (5 : Int32)), .val (.int (4 : Int32)), .val (.int e_a2_3)] [(.int (4 : Int32)), (.ref a2)])) rfl rfl (hb hby d2_226) _ ?_
                                  show Steps p.tables e below (T549.setTop (mkF m 227 #[.val (.ref a1), .val (.ref a2), .val (.ref a3), .val (.ref a4), .val (.ref a5), .val (.ref b435), .val (.ref a2), .val (.int (5 : Int32)), .val (.int (4 : Int32)), .val (.int e_a2_3)] [(.int e_a2_4)])) _
                                  refine XS.istore Xc571.here hx rfl (hb hby d2_227) rfl (l' := #[.val (.ref a1), .val (.ref a2), .val (.ref a3), .val (.ref a4), .val (.ref a5), .val (.ref b435), .val (.ref a2), .val (.int (5 : Int32)), .val (.int (4 : Int32)), .val (.int e_a2_4)]) rfl ?_
                                  show Steps p.tables e below (T549.setTop (mkF m 229 #[.val (.ref a1), .val (.ref a2), .val (.ref a3), .val (.ref a4), .val (.ref a5), .val (.ref b435), .val (.ref a2), .val (.int (5 : Int32)), .val (.int (4 : Int32)), .val (.int e_a2_4)] [])) _
                                  refine XS.aload Xc571.here hx rfl (hb hby d2_229) rfl rfl ?_
                                  show Steps p.tables e below (T549.setTop (mkF m 231 #[.val (.ref a1), .val (.ref a2), .val (.ref a3), .val (.ref a4), .val (.ref a5), .val (.ref b435), .val (.ref a2), .val (.int (5 : Int32)), .val (.int (4 : Int32)), .val (.int e_a2_4)] [(.ref b435)])) _
                                  refine XS.iload Xc571.here hx rfl (hb hby d2_231) rfl ?_
                                  show Steps p.tables e below (T549.setTop (mkF m 233 #[.val (.ref a1), .val (.ref a2), .val (.ref a3), .val (.ref a4), .val (.ref a5), .val (.ref b435), .val (.ref a2), .val (.int (5 : Int32)), .val (.int (4 : Int32)), .val (.int e_a2_4)] [(.int e_a2_4), (.ref b435)])) _
                                  refine XS.iconst Xc571.here hx rfl (hb hby d2_233) ?_
                                  show Steps p.tables e below (T549.setTop (mkF m 234 #[.val (.ref a1), .val (.ref a2), .val (.ref a3), .val (.ref a4), .val (.ref a5), .val (.ref b435), .val (.ref a2), .val (.int (5 : Int32)), .val (.int (4 : Int32)), .val (.int e_a2_4)] [(.int (1 : Int32)), (.int e_a2_4), (.ref b435)])) _
                                  refine XS.iadd Xc571.here hx rfl (hb hby d2_234) rfl ?_
                                  show Steps p.tables e below (T549.setTop (mkF m 235 #[.val (.ref a1), .val (.ref a2), .val (.ref a3), .val (.ref a4), .val (.ref a5), .val (.ref b435), .val (.ref a2), .val (.int (5 : Int32)), .val (.int (4 : Int32)), .val (.int e_a2_4)] [(.int (e_a2_4 + (1 : Int32))), (.ref b435)])) _
                                  refine XT.dup2 Xc571.here hx rfl (hb hby d2_235) rfl rfl rfl ?_
                                  show Steps p.tables e below (T549.setTop (mkF m 236 #[.val (.ref a1), .val (.ref a2), .val (.ref a3), .val (.ref a4), .val (.ref a5), .val (.ref b435), .val (.ref a2), .val (.int (5 : Int32)), .val (.int (4 : Int32)), .val (.int e_a2_4)] [(.int (e_a2_4 + (1 : Int32))), (.ref b435), (.int (e_a2_4 + (1 : Int32))), (.ref b435)])) _
                                  refine Xc571.iaload hx (j := (e_a2_4 + (1 : Int32))) (v := (.int (own_at (own_L2_3 e_a2_0 e_a2_1 e_a2_2 e_a2_3 e_a2_4) (e_a2_4 + (1 : Int32))))) (by rw [e549]; exact Ar573.1) (State.isArrayOf_alike hZ.alike Ar573.2.1) Ar573.2.2 hin573 hat573 (g := (mkF m 236 #[.val (.ref a1), .val (.ref a2), .val (.ref a3), .val (.ref a4), .val (.ref a5), .val (.ref b435), .val (.ref a2), .val (.int (5 : Int32)), .val (.int (4 : Int32)), .val (.int e_a2_4)] [(.int (e_a2_4 + (1 : Int32))), (.ref b435), (.int (e_a2_4 + (1 : Int32))), (.ref b435)])) rfl rfl (hb hby d2_236) _ ?_
                                  show Steps p.tables e below (T549.setTop (mkF m 237 #[.val (.ref a1), .val (.ref a2), .val (.ref a3), .val (.ref a4), .val (.ref a5), .val (.ref b435), .val (.ref a2), .val (.int (5 : Int32)), .val (.int (4 : Int32)), .val (.int e_a2_4)] [(.int (own_at (own_L2_3 e_a2_0 e_a2_1 e_a2_2 e_a2_3 e_a2_4) (e_a2_4 + (1 : Int32)))), (.int (e_a2_4 + (1 : Int32))), (.ref b435)])) _
                                  refine XS.iconst Xc571.here hx rfl (hb hby d2_237) ?_
                                  show Steps p.tables e below (T549.setTop (mkF m 238 #[.val (.ref a1), .val (.ref a2), .val (.ref a3), .val (.ref a4), .val (.ref a5), .val (.ref b435), .val (.ref a2), .val (.int (5 : Int32)), .val (.int (4 : Int32)), .val (.int e_a2_4)] [(.int (1 : Int32)), (.int (own_at (own_L2_3 e_a2_0 e_a2_1 e_a2_2 e_a2_3 e_a2_4) (e_a2_4 + (1 : Int32)))), (.int (e_a2_4 + (1 : Int32))), (.ref b435)])) _
                                  refine XS.iadd Xc571.here hx rfl (hb hby d2_238) rfl ?_
                                  show Steps p.tables e below (T549.setTop (mkF m 239 #[.val (.ref a1), .val (.ref a2), .val (.ref a3), .val (.ref a4), .val (.ref a5), .val (.ref b435), .val (.ref a2), .val (.int (5 : Int32)), .val (.int (4 : Int32)), .val (.int e_a2_4)] [(.int ((own_at (own_L2_3 e_a2_0 e_a2_1 e_a2_2 e_a2_3 e_a2_4) (e_a2_4 + (1 : Int32))) + (1 : Int32))), (.int (e_a2_4 + (1 : Int32))), (.ref b435)])) _
                                  refine st574 _ ?_
                                  show Steps p.tables e below (T574.setTop (mkF m 240 #[.val (.ref a1), .val (.ref a2), .val (.ref a3), .val (.ref a4), .val (.ref a5), .val (.ref b435), .val (.ref a2), .val (.int (5 : Int32)), .val (.int (4 : Int32)), .val (.int e_a2_4)] [])) _
                                  refine XS.iinc X574.here hx rfl (hb hby d2_240) rfl (l' := #[.val (.ref a1), .val (.ref a2), .val (.ref a3), .val (.ref a4), .val (.ref a5), .val (.ref b435), .val (.ref a2), .val (.int (5 : Int32)), .val (.int (5 : Int32)), .val (.int e_a2_4)]) rfl ?_
                                  show Steps p.tables e below (T574.setTop (mkF m 243 #[.val (.ref a1), .val (.ref a2), .val (.ref a3), .val (.ref a4), .val (.ref a5), .val (.ref b435), .val (.ref a2), .val (.int (5 : Int32)), .val (.int (5 : Int32)), .val (.int e_a2_4)] [])) _
                                  refine XS.goto X574.here hx rfl (pc0 := 243) (pc' := 215) rfl (hb hby d2_243) (by decide) (by decide) ?_
                                  exact kt
                                have fq576 := (Exa.wr W574 fq551)
                                have fq577 := (Fld.other W574 fq552 (Or.inl ne_a1_b435))
                                have fq578 := (Fld.other W574 fq553 (Or.inl ne_a1_b435))
                                have fq579 := (Fld.other W574 fq554 (Or.inl ne_a1_b435))
                                have fq580 := (Fld.other W574 fq555 (Or.inl ne_a1_b435))
                                have fq581 := (Fld.other W574 fq556 (Or.inl ne_a1_b435))
                                have fq582 := (Fld.other W574 fq557 (Or.inl ne_a1_b435))
                                have fq583 := (Fld.other W574 fq558 (Or.inl ne_a1_b435))
                                have fq584 := (Fld.other W574 fq559 (Or.inl ne_a1_b435))
                                have fq585 := (Fld.other W574 fq560 (Or.inl ne_a1_b435))
                                have fq586 := (Fld.other W574 fq561 (Or.inl ne_a1_b435))
                                have fq587 := (fq562.other W574 ne_a2_b435)
                                have fq588 := (fq563.other W574 ne_a4_b435)
                                have fq589 := (fq564.other W574 ne_b41_b435)
                                have fq590 := (fq565.other W574 ne_b47_b435)
                                have fq591 := (fq566.other W574 ne_b85_b435)
                                have fq592 := (fq567.other W574 ne_b91_b435)
                                have fq593 := (fq568.other W574 ne_b133_b435)
                                have fq594 := (fq569.other W574 ne_b139_b435)
                                have z595 : n0 ≤ h574.size := (Nat.le_trans z570 (Keep.of_wr W574).1)
                                obtain ⟨Lc596, Xc596, Nc596⟩ : ∃ L, Stand p l e ({ frames := 1, cells := 18, slots := 86, locals := 13 } : Room) s m #[(.ref a1), (.ref a2), (.ref a3), (.ref a4), (.ref a5)] below meth c T574 L 18 86 ∧ Fr n0 L := ⟨_, X574, N574⟩
                                clear e549 hl549 V549 pre550 fq551 fq552 fq553 fq554 fq555 fq556 fq557 fq558 fq559 fq560 fq561 fq562 fq563 fq564 fq565 fq566 fq567 fq568 fq569 z570 Xc571 Nc571 Ar572 aq572 S572 M572 H572 G572 hin572 hat572 Ar573 aq573 S573 M573 H573 G573 hin573 hat573 sd574 Vo574 Ar574 aq574 S574 M574 H574 G574 X574 W574 st574 N574
                                try clear cl574
                                try clear cl573
                                try clear cl572
                                try clear Lc571
                                try clear h549
                                try clear T549
                                as_aux_lemma =>
                                  have pre597 : ∀ t, Steps p.tables e below (T574.setTop (mkF m 249 #[.val (.ref a1), .val (.ref a2), .val (.ref a3), .val (.ref a4), .val (.ref a5), .val (.ref b435), .val (.int (0 : Int32)), .val (.int (5 : Int32)), .val (.int (5 : Int32)), .val (.int e_a2_4)] [])) t → Steps p.tables e below (s₁.setTop (entryFrame m #[(.ref a1), (.ref a2), (.ref a3), (.ref a4), (.ref a5)] 10)) t := fun t kt => by
                                    refine pre575 t ?_
                                    show Steps p.tables e below (T574.setTop (mkF m 215 #[.val (.ref a1), .val (.ref a2), .val (.ref a3), .val (.ref a4), .val (.ref a5), .val (.ref b435), .val (.ref a2), .val (.int (5 : Int32)), .val (.int (5 : Int32)), .val (.int e_a2_4)] [])) _
                                    refine XS.iload Xc596.here hx rfl (hb hby d2_215) rfl ?_
                                    show Steps p.tables e below (T574.setTop (mkF m 217 #[.val (.ref a1), .val (.ref a2), .val (.ref a3), .val (.ref a4), .val (.ref a5), .val (.ref b435), .val (.ref a2), .val (.int (5 : Int32)), .val (.int (5 : Int32)), .val (.int e_a2_4)] [(.int (5 : Int32))])) _
                                    refine XS.iload Xc596.here hx rfl (hb hby d2_217) rfl ?_
                                    show Steps p.tables e below (T574.setTop (mkF m 219 #[.val (.ref a1), .val (.ref a2), .val (.ref a3), .val (.ref a4), .val (.ref a5), .val (.ref b435), .val (.ref a2), .val (.int (5 : Int32)), .val (.int (5 : Int32)), .val (.int e_a2_4)] [(.int (5 : Int32)), (.int (5 : Int32))])) _
                                    refine XS.icmpYes Xc596.here hx rfl (pc0 := 219) (pc' := 246) rfl (hb hby d2_219) rfl (flt (by decide : ¬ ((5 : Int32) < (5 : Int32)))).2.1 (by decide) (by decide) ?_
                                    show Steps p.tables e below (T574.setTop (mkF m 246 #[.val (.ref a1), .val (.ref a2), .val (.ref a3), .val (.ref a4), .val (.ref a5), .val (.ref b435), .val (.ref a2), .val (.int (5 : Int32)), .val (.int (5 : Int32)), .val (.int e_a2_4)] [])) _
                                    refine XS.iconst Xc596.here hx rfl (hb hby d2_246) ?_
                                    show Steps p.tables e below (T574.setTop (mkF m 247 #[.val (.ref a1), .val (.ref a2), .val (.ref a3), .val (.ref a4), .val (.ref a5), .val (.ref b435), .val (.ref a2), .val (.int (5 : Int32)), .val (.int (5 : Int32)), .val (.int e_a2_4)] [(.int (0 : Int32))])) _
                                    refine XS.istore Xc596.here hx rfl (hb hby d2_247) rfl (l' := #[.val (.ref a1), .val (.ref a2), .val (.ref a3), .val (.ref a4), .val (.ref a5), .val (.ref b435), .val (.int (0 : Int32)), .val (.int (5 : Int32)), .val (.int (5 : Int32)), .val (.int e_a2_4)]) rfl ?_
                                    exact kt
                                  obtain ⟨Lc598, Xc598, Nc598⟩ : ∃ L, Stand p l e ({ frames := 1, cells := 18, slots := 86, locals := 13 } : Room) s m #[(.ref a1), (.ref a2), (.ref a3), (.ref a4), (.ref a5)] below meth c T574 L 18 86 ∧ Fr n0 L := ⟨_, Xc596, Nc596⟩
                                  clear pre575 Xc596 Nc596
                                  try clear Lc596
                                  as_aux_lemma =>
                                    obtain ⟨T599, X599, e599, st599⟩ := getF Xc598 hx hZ hown (host := "") (Or.inl hw15) Via.refl e574 fq580 (g := (mkF m 252 #[.val (.ref a1), .val (.ref a2), .val (.ref a3), .val (.ref a4), .val (.ref a5), .val (.ref b435), .val (.int (0 : Int32)), .val (.int (5 : Int32)), .val (.int (5 : Int32)), .val (.int e_a2_4)] [(.ref a1), (.int (0 : Int32))])) rfl rfl (hb hby d2_252)
                                    obtain ⟨cl600, Ar600, aq600, S600, M600, H600, G600⟩ := id V574
                                    have hin600 : ¬ ((1 : Int32) < 0 ∨ cl600.slots.size ≤ ((1 : Int32)).toNatClampNeg) := inb_of S600 ⟨by decide, by decide⟩
                                    have hat600 : cl600.slots[((1 : Int32)).toNatClampNeg]? = some (.int (own_at (own_L2_4 e_a2_0 e_a2_1 e_a2_2 e_a2_3 e_a2_4) (1 : Int32))) := Has.at H600 hin600 (own_getD (own_L2_4 e_a2_0 e_a2_1 e_a2_2 e_a2_3 e_a2_4) ((1 : Int32)).toNatClampNeg)
                                    obtain ⟨cl601, Ar601, aq601, S601, M601, H601, G601⟩ := id V574
                                    have hin601 : ¬ ((0 : Int32) < 0 ∨ cl601.slots.size ≤ ((0 : Int32)).toNatClampNeg) := inb_of S601 ⟨by decide, by decide⟩
                                    have hat601 : cl601.slots[((0 : Int32)).toNatClampNeg]? = some (.int (own_at (own_L2_4 e_a2_0 e_a2_1 e_a2_2 e_a2_3 e_a2_4) (0 : Int32))) := Has.at H601 hin601 (own_getD (own_L2_4 e_a2_0 e_a2_1 e_a2_2 e_a2_3 e_a2_4) ((0 : Int32)).toNatClampNeg)
                                    have sd602 : ¬ ((1 : Int32) < 0) ∧ (1 : Int32) < (6 : Int32) := ⟨by decide, by decide⟩
                                    have Vo602 : Arv Z h574 b435 k435 .int (6 : Int32) ((own_L2_4 e_a2_0 e_a2_1 e_a2_2 e_a2_3 e_a2_4).map Value.int) (.int (0 : Int32)) := V574
                                    obtain ⟨cl602, Ar602, aq602, S602, M602, H602, G602⟩ := id V574
                                    obtain ⟨T602, h602, X602, e602, W602, st602⟩ := stI X599 hx hZ e599 Ar602 (j := (1 : Int32)) (inb_of S602 sd602) (g := (mkF m 272 #[.val (.ref a1), .val (.ref a2), .val (.ref a3), .val (.ref a4), .val (.ref a5), .val (.ref b435), .val (.int (0 : Int32)), .val (.int (5 : Int32)), .val (.int (5 : Int32)), .val (.int e_a2_4)] [(.int ((own_at (own_L2_4 e_a2_0 e_a2_1 e_a2_2 e_a2_3 e_a2_4) (1 : Int32)) + (own_at (own_L2_4 e_a2_0 e_a2_1 e_a2_2 e_a2_3 e_a2_4) (0 : Int32)))), (.int (1 : Int32)), (.ref b435)])) rfl rfl (hb hby d2_272)
                                    have hl602 : (own_L2_5 e_a2_0 e_a2_1 e_a2_2 e_a2_3 e_a2_4).length = 6 := (List.length_set ..).trans hl574
                                    have V602 : Arv Z h602 b435 k435 .int (6 : Int32) ((own_L2_5 e_a2_0 e_a2_1 e_a2_2 e_a2_3 e_a2_4).map Value.int) (.int (0 : Int32)) := own_setL Vo602 hl574 W602 sd602
                                    have N602 := Fr.snoc X602 Nc598 g_b435
                                    have pre603 : ∀ t, Steps p.tables e below (T602.setTop (mkF m 249 #[.val (.ref a1), .val (.ref a2), .val (.ref a3), .val (.ref a4), .val (.ref a5), .val (.ref b435), .val (.int (1 : Int32)), .val (.int (5 : Int32)), .val (.int (5 : Int32)), .val (.int e_a2_4)] [])) t → Steps p.tables e below (s₁.setTop (entryFrame m #[(.ref a1), (.ref a2), (.ref a3), (.ref a4), (.ref a5)] 10)) t := fun t kt => by
                                      refine pre597 t ?_
                                      show Steps p.tables e below (T574.setTop (mkF m 249 #[.val (.ref a1), .val (.ref a2), .val (.ref a3), .val (.ref a4), .val (.ref a5), .val (.ref b435), .val (.int (0 : Int32)), .val (.int (5 : Int32)), .val (.int (5 : Int32)), .val (.int e_a2_4)] [])) _
                                      refine XS.iload Xc598.here hx rfl (hb hby d2_249) rfl ?_
                                      show Steps p.tables e below (T574.setTop (mkF m 251 #[.val (.ref a1), .val (.ref a2), .val (.ref a3), .val (.ref a4), .val (.ref a5), .val (.ref b435), .val (.int (0 : Int32)), .val (.int (5 : Int32)), .val (.int (5 : Int32)), .val (.int e_a2_4)] [(.int (0 : Int32))])) _
                                      refine XS.aloadN Xc598.here hx rfl (hb hby d2_251) rfl rfl ?_
                                      show Steps p.tables e below (T574.setTop (mkF m 252 #[.val (.ref a1), .val (.ref a2), .val (.ref a3), .val (.ref a4), .val (.ref a5), .val (.ref b435), .val (.int (0 : Int32)), .val (.int (5 : Int32)), .val (.int (5 : Int32)), .val (.int e_a2_4)] [(.ref a1), (.int (0 : Int32))])) _
                                      refine st599 _ ?_
                                      show Steps p.tables e below (T599.setTop (mkF m 255 #[.val (.ref a1), .val (.ref a2), .val (.ref a3), .val (.ref a4), .val (.ref a5), .val (.ref b435), .val (.int (0 : Int32)), .val (.int (5 : Int32)), .val (.int (5 : Int32)), .val (.int e_a2_4)] [(.int (5 : Int32)), (.int (0 : Int32))])) _
                                      refine XS.icmpNo X599.here hx rfl (hb hby d2_255) rfl (tlt (by decide : (0 : Int32) < (5 : Int32))).2.1 ?_
                                      show Steps p.tables e below (T599.setTop (mkF m 258 #[.val (.ref a1), .val (.ref a2), .val (.ref a3), .val (.ref a4), .val (.ref a5), .val (.ref b435), .val (.int (0 : Int32)), .val (.int (5 : Int32)), .val (.int (5 : Int32)), .val (.int e_a2_4)] [])) _
                                      refine XS.aload X599.here hx rfl (hb hby d2_258) rfl rfl ?_
                                      show Steps p.tables e below (T599.setTop (mkF m 260 #[.val (.ref a1), .val (.ref a2), .val (.ref a3), .val (.ref a4), .val (.ref a5), .val (.ref b435), .val (.int (0 : Int32)), .val (.int (5 : Int32)), .val (.int (5 : Int32)), .val (.int e_a2_4)] [(.ref b435)])) _
                                      refine XS.iload X599.here hx rfl (hb hby d2_260) rfl ?_
                                      show Steps p.tables e below (T599.setTop (mkF m 262 #[.val (.ref a1), .val (.ref a2), .val (.ref a3), .val (.ref a4), .val (.ref a5), .val (.ref b435), .val (.int (0 : Int32)), .val (.int (5 : Int32)), .val (.int (5 : Int32)), .val (.int e_a2_4)] [(.int (0 : Int32)), (.ref b435)])) _
                                      refine XS.iconst X599.here hx rfl (hb hby d2_262) ?_
                                      show Steps p.tables e below (T599.setTop (mkF m 263 #[.val (.ref a1), .val (.ref a2), .val (.ref a3), .val (.ref a4), .val (.ref a5), .val (.ref b435), .val (.int (0 : Int32)), .val (.int (5 : Int32)), .val (.int (5 : Int32)), .val (.int e_a2_4)] [(.int (1 : Int32)), (.int (0 : Int32)), (.ref b435)])) _
                                      refine XS.iadd X599.here hx rfl (hb hby d2_263) rfl ?_
                                      show Steps p.tables e below (T599.setTop (mkF m 264 #[.val (.ref a1), .val (.ref a2), .val (.ref a3), .val (.ref a4), .val (.ref a5), .val (.ref b435), .val (.int (0 : Int32)), .val (.int (5 : Int32)), .val (.int (5 : Int32)), .val (.int e_a2_4)] [(.int (1 : Int32)), (.ref b435)])) _
                                      refine XT.dup2 X599.here hx rfl (hb hby d2_264) rfl rfl rfl ?_
                                      show Steps p.tables e below (T599.setTop (mkF m 265 #[.val (.ref a1), .val (.ref a2), .val (.ref a3), .val (.ref a4), .val (.ref a5), .val (.ref b435), .val (.int (0 : Int32)), .val (.int (5 : Int32)), .val (.int (5 : Int32)), .val (.int e_a2_4)] [(.int (1 : Int32)), (.ref b435), (.int (1 : Int32)), (.ref b435)])) _
                                      refine X599.iaload hx (j := (1 : Int32)) (v := (.int (own_at (own_L2_4 e_a2_0 e_a2_1 e_a2_2 e_a2_3 e_a2_4) (1 : Int32)))) (by rw [e599]; exact Ar600.1) (State.isArrayOf_alike hZ.alike Ar600.2.1) Ar600.2.2 hin600 hat600 (g := (mkF m 265 #[.val (.ref a1), .val (.ref a2), .val (.ref a3), .val (.ref a4), .val (.ref a5), .val (.ref b435), .val (.int (0 : Int32)), .val (.int (5 : Int32)), .val (.int (5 : Int32)), .val (.int e_a2_4)] [(.int (1 : Int32)), (.ref b435), (.int (1 : Int32)), (.ref b435)])) rfl rfl (hb hby d2_265) _ ?_
                                      show Steps p.tables e below (T599.setTop (mkF m 266 #[.val (.ref a1), .val (.ref a2), .val (.ref a3), .val (.ref a4), .val (.ref a5), .val (.ref b435), .val (.int (0 : Int32)), .val (.int (5 : Int32)), .val (.int (5 : Int32)), .val (.int e_a2_4)] [(.int (own_at (own_L2_4 e_a2_0 e_a2_1 e_a2_2 e_a2_3 e_a2_4) (1 : Int32))), (.int (1 : Int32)), (.ref b435)])) _
                                      refine XS.aload X599.here hx rfl (hb hby d2_266) rfl rfl ?_
                                      show Steps p.tables e below (T599.setTop (mkF m 268 #[.val (.ref a1), .val (.ref a2), .val (.ref a3), .val (.ref a4), .val (.ref a5), .val (.ref b435), .val (.int (0 : Int32)), .val (.int (5 : Int32)), .val (.int (5 : Int32)), .val (.int e_a2_4)] [(.ref b435), (.int (own_at (own_L2_4 e_a2_0 e_a2_1 e_a2_2 e_a2_3 e_a2_4) (1 : Int32))), (.int (1 : Int32)), (.ref b435)])) _
                                      refine XS.iload X599.here hx rfl (hb hby d2_268) rfl ?_
                                      show Steps p.tables e below (T599.setTop (mkF m 270 #[.val (.ref a1), .val (.ref a2), .val (.ref a3), .val (.ref a4), .val (.ref a5), .val (.ref b435), .val (.int (0 : Int32)), .val (.int (5 : Int32)), .val (.int (5 : Int32)), .val (.int e_a2_4)] [(.int (0 : Int32)), (.ref b435), (.int (own_at (own_L2_4 e_a2_0 e_a2_1 e_a2_2 e_a2_3 e_a2_4) (1 : Int32))), (.int (1 : Int32)), (.ref b435)])) _
                                      refine X599.iaload hx (j := (0 : Int32)) (v := (.int (own_at (own_L2_4 e_a2_0 e_a2_1 e_a2_2 e_a2_3 e_a2_4) (0 : Int32)))) (by rw [e599]; exact Ar601.1) (State.isArrayOf_alike hZ.alike Ar601.2.1) Ar601.2.2 hin601 hat601 (g := (mkF m 270 #[.val (.ref a1), .val (.ref a2), .val (.ref a3), .val (.ref a4), .val (.ref a5), .val (.ref b435), .val (.int (0 : Int32)), .val (.int (5 : Int32)), .val (.int (5 : Int32)), .val (.int e_a2_4)] [(.int (0 : Int32)), (.ref b435), (.int (own_at (own_L2_4 e_a2_0 e_a2_1 e_a2_2 e_a2_3 e_a2_4) (1 : Int32))), (.int (1 : Int32)), (.ref b435)])) rfl rfl (hb hby d2_270) _ ?_
                                      show Steps p.tables e below (T599.setTop (mkF m 271 #[.val (.ref a1), .val (.ref a2), .val (.ref a3), .val (.ref a4), .val (.ref a5), .val (.ref b435), .val (.int (0 : Int32)), .val (.int (5 : Int32)), .val (.int (5 : Int32)), .val (.int e_a2_4)] [(.int (own_at (own_L2_4 e_a2_0 e_a2_1 e_a2_2 e_a2_3 e_a2_4) (0 : Int32))), (.int (own_at (own_L2_4 e_a2_0 e_a2_1 e_a2_2 e_a2_3 e_a2_4) (1 : Int32))), (.int (1 : Int32)), (.ref b435)])) _
                                      refine XS.iadd X599.here hx rfl (hb hby d2_271) rfl ?_
                                      show Steps p.tables e below (T599.setTop (mkF m 272 #[.val (.ref a1), .val (.ref a2), .val (.ref a3), .val (.ref a4), .val (.ref a5), .val (.ref b435), .val (.int (0 : Int32)), .val (.int (5 : Int32)), .val (.int (5 : Int32)), .val (.int e_a2_4)] [(.int ((own_at (own_L2_4 e_a2_0 e_a2_1 e_a2_2 e_a2_3 e_a2_4) (1 : Int32)) + (own_at (own_L2_4 e_a2_0 e_a2_1 e_a2_2 e_a2_3 e_a2_4) (0 : Int32)))), (.int (1 : Int32)), (.ref b435)])) _
                                      refine st602 _ ?_
                                      show Steps p.tables e below (T602.setTop (mkF m 273 #[.val (.ref a1), .val (.ref a2), .val (.ref a3), .val (.ref a4), .val (.ref a5), .val (.ref b435), .val (.int (0 : Int32)), .val (.int (5 : Int32)), .val (.int (5 : Int32)), .val (.int e_a2_4)] [])) _
                                      refine XS.iinc X602.here hx rfl (hb hby d2_273) rfl (l' := #[.val (.ref a1), .val (.ref a2), .val (.ref a3), .val (.ref a4), .val (.ref a5), .val (.ref b435), .val (.int (1 : Int32)), .val (.int (5 : Int32)), .val (.int (5 : Int32)), .val (.int e_a2_4)]) rfl ?_
                                      show Steps p.tables e below (T602.setTop (mkF m 276 #[.val (.ref a1), .val (.ref a2), .val (.ref a3), .val (.ref a4), .val (.ref a5), .val (.ref b435), .val (.int (1 : Int32)), .val (.int (5 : Int32)), .val (.int (5 : Int32)), .val (.int e_a2_4)] [])) _
                                      refine XS.goto X602.here hx rfl (pc0 := 276) (pc' := 249) rfl (hb hby d2_276) (by decide) (by decide) ?_
                                      exact kt
                                    have fq604 := (Exa.wr W602 fq576)
                                    have fq605 := (Fld.other W602 fq577 (Or.inl ne_a1_b435))
                                    have fq606 := (Fld.other W602 fq578 (Or.inl ne_a1_b435))
                                    have fq607 := (Fld.other W602 fq579 (Or.inl ne_a1_b435))
                                    have fq608 := (Fld.other W602 fq580 (Or.inl ne_a1_b435))
                                    have fq609 := (Fld.other W602 fq581 (Or.inl ne_a1_b435))
                                    have fq610 := (Fld.other W602 fq582 (Or.inl ne_a1_b435))
                                    have fq611 := (Fld.other W602 fq583 (Or.inl ne_a1_b435))
                                    have fq612 := (Fld.other W602 fq584 (Or.inl ne_a1_b435))
                                    have fq613 := (Fld.other W602 fq585 (Or.inl ne_a1_b435))
                                    have fq614 := (Fld.other W602 fq586 (Or.inl ne_a1_b435))
                                    have fq615 := (fq587.other W602 ne_a2_b435)
                                    have fq616 := (fq588.other W602 ne_a4_b435)
                                    have fq617 := (fq589.other W602 ne_b41_b435)
                                    have fq618 := (fq590.other W602 ne_b47_b435)
                                    have fq619 := (fq591.other W602 ne_b85_b435)
                                    have fq620 := (fq592.other W602 ne_b91_b435)
                                    have fq621 := (fq593.other W602 ne_b133_b435)
                                    have fq622 := (fq594.other W602 ne_b139_b435)
                                    have z623 : n0 ≤ h602.size := (Nat.le_trans z595 (Keep.of_wr W602).1)
                                    obtain ⟨Lc624, Xc624, Nc624⟩ : ∃ L, Stand p l e ({ frames := 1, cells := 18, slots := 86, locals := 13 } : Room) s m #[(.ref a1), (.ref a2), (.ref a3), (.ref a4), (.ref a5)] below meth c T602 L 18 86 ∧ Fr n0 L := ⟨_, X602, N602⟩
                                    clear e574 hl574 V574 fq576 fq577 fq578 fq579 fq580 fq581 fq582 fq583 fq584 fq585 fq586 fq587 fq588 fq589 fq590 fq591 fq592 fq593 fq594 z595 pre597 Xc598 Nc598 X599 e599 st599 Ar600 aq600 S600 M600 H600 G600 hin600 hat600 Ar601 aq601 S601 M601 H601 G601 hin601 hat601 sd602 Vo602 Ar602 aq602 S602 M602 H602 G602 X602 W602 st602 N602
                                    try clear cl602
                                    try clear cl601
                                    try clear cl600
                                    try clear T599
                                    try clear Lc598
                                    try clear h574
                                    try clear T574
                                    as_aux_lemma =>
                                      obtain ⟨T625, X625, e625, st625⟩ := getF Xc624 hx hZ hown (host := "") (Or.inl hw15) Via.refl e602 fq608 (g := (mkF m 252 #[.val (.ref a1), .val (.ref a2), .val (.ref a3), .val (.ref a4), .val (.ref a5), .val (.ref b435), .val (.int (1 : Int32)), .val (.int (5 : Int32)), .val (.int (5 : Int32)), .val (.int e_a2_4)] [(.ref a1), (.int (1 : Int32))])) rfl rfl (hb hby d2_252)
                                      obtain ⟨cl626, Ar626, aq626, S626, M626, H626, G626⟩ := id V602
                                      have hin626 : ¬ ((2 : Int32) < 0 ∨ cl626.slots.size ≤ ((2 : Int32)).toNatClampNeg) := inb_of S626 ⟨by decide, by decide⟩
                                      have hat626 : cl626.slots[((2 : Int32)).toNatClampNeg]? = some (.int (own_at (own_L2_5 e_a2_0 e_a2_1 e_a2_2 e_a2_3 e_a2_4) (2 : Int32))) := Has.at H626 hin626 (own_getD (own_L2_5 e_a2_0 e_a2_1 e_a2_2 e_a2_3 e_a2_4) ((2 : Int32)).toNatClampNeg)
                                      obtain ⟨cl627, Ar627, aq627, S627, M627, H627, G627⟩ := id V602
                                      have hin627 : ¬ ((1 : Int32) < 0 ∨ cl627.slots.size ≤ ((1 : Int32)).toNatClampNeg) := inb_of S627 ⟨by decide, by decide⟩
                                      have hat627 : cl627.slots[((1 : Int32)).toNatClampNeg]? = some (.int (own_at (own_L2_5 e_a2_0 e_a2_1 e_a2_2 e_a2_3 e_a2_4) (1 : Int32))) := Has.at H627 hin627 (own_getD (own_L2_5 e_a2_0 e_a2_1 e_a2_2 e_a2_3 e_a2_4) ((1 : Int32)).toNatClampNeg)
                                      have sd628 : ¬ ((2 : Int32) < 0) ∧ (2 : Int32) < (6 : Int32) := ⟨by decide, by decide⟩
                                      have Vo628 : Arv Z h602 b435 k435 .int (6 : Int32) ((own_L2_5 e_a2_0 e_a2_1 e_a2_2 e_a2_3 e_a2_4).map Value.int) (.int (0 : Int32)) := V602
                                      obtain ⟨cl628, Ar628, aq628, S628, M628, H628, G628⟩ := id V602
                                      obtain ⟨T628, h628, X628, e628, W628, st628⟩ := stI X625 hx hZ e625 Ar628 (j := (2 : Int32)) (inb_of S628 sd628) (g := (mkF m 272 #[.val (.ref a1), .val (.ref a2), .val (.ref a3), .val (.ref a4), .val (.ref a5), .val (.ref b435), .val (.int (1 : Int32)), .val (.int (5 : Int32)), .val (.int (5 : Int32)), .val (.int e_a2_4)] [(.int ((own_at (own_L2_5 e_a2_0 e_a2_1 e_a2_2 e_a2_3 e_a2_4) (2 : Int32)) + (own_at (own_L2_5 e_a2_0 e_a2_1 e_a2_2 e_a2_3 e_a2_4) (1 : Int32)))), (.int (2 : Int32)), (.ref b435)])) rfl rfl (hb hby d2_272)
                                      have hl628 : (own_L2_6 e_a2_0 e_a2_1 e_a2_2 e_a2_3 e_a2_4).length = 6 := (List.length_set ..).trans hl602
                                      have V628 : Arv Z h628 b435 k435 .int (6 : Int32) ((own_L2_6 e_a2_0 e_a2_1 e_a2_2 e_a2_3 e_a2_4).map Value.int) (.int (0 : Int32)) := own_setL Vo628 hl602 W628 sd628
                                      have N628 := Fr.snoc X628 Nc624 g_b435
                                      have pre629 : ∀ t, Steps p.tables e below (T628.setTop (mkF m 249 #[.val (.ref a1), .val (.ref a2), .val (.ref a3), .val (.ref a4), .val (.ref a5), .val (.ref b435), .val (.int (2 : Int32)), .val (.int (5 : Int32)), .val (.int (5 : Int32)), .val (.int e_a2_4)] [])) t → Steps p.tables e below (s₁.setTop (entryFrame m #[(.ref a1), (.ref a2), (.ref a3), (.ref a4), (.ref a5)] 10)) t := fun t kt => by
                                        refine pre603 t ?_
                                        show Steps p.tables e below (T602.setTop (mkF m 249 #[.val (.ref a1), .val (.ref a2), .val (.ref a3), .val (.ref a4), .val (.ref a5), .val (.ref b435), .val (.int (1 : Int32)), .val (.int (5 : Int32)), .val (.int (5 : Int32)), .val (.int e_a2_4)] [])) _
                                        refine XS.iload Xc624.here hx rfl (hb hby d2_249) rfl ?_
                                        show Steps p.tables e below (T602.setTop (mkF m 251 #[.val (.ref a1), .val (.ref a2), .val (.ref a3), .val (.ref a4), .val (.ref a5), .val (.ref b435), .val (.int (1 : Int32)), .val (.int (5 : Int32)), .val (.int (5 : Int32)), .val (.int e_a2_4)] [(.int (1 : Int32))])) _
                                        refine XS.aloadN Xc624.here hx rfl (hb hby d2_251) rfl rfl ?_
                                        show Steps p.tables e below (T602.setTop (mkF m 252 #[.val (.ref a1), .val (.ref a2), .val (.ref a3), .val (.ref a4), .val (.ref a5), .val (.ref b435), .val (.int (1 : Int32)), .val (.int (5 : Int32)), .val (.int (5 : Int32)), .val (.int e_a2_4)] [(.ref a1), (.int (1 : Int32))])) _
                                        refine st625 _ ?_
                                        show Steps p.tables e below (T625.setTop (mkF m 255 #[.val (.ref a1), .val (.ref a2), .val (.ref a3), .val (.ref a4), .val (.ref a5), .val (.ref b435), .val (.int (1 : Int32)), .val (.int (5 : Int32)), .val (.int (5 : Int32)), .val (.int e_a2_4)] [(.int (5 : Int32)), (.int (1 : Int32))])) _
                                        refine XS.icmpNo X625.here hx rfl (hb hby d2_255) rfl (tlt (by decide : (1 : Int32) < (5 : Int32))).2.1 ?_
                                        show Steps p.tables e below (T625.setTop (mkF m 258 #[.val (.ref a1), .val (.ref a2), .val (.ref a3), .val (.ref a4), .val (.ref a5), .val (.ref b435), .val (.int (1 : Int32)), .val (.int (5 : Int32)), .val (.int (5 : Int32)), .val (.int e_a2_4)] [])) _
                                        refine XS.aload X625.here hx rfl (hb hby d2_258) rfl rfl ?_
                                        show Steps p.tables e below (T625.setTop (mkF m 260 #[.val (.ref a1), .val (.ref a2), .val (.ref a3), .val (.ref a4), .val (.ref a5), .val (.ref b435), .val (.int (1 : Int32)), .val (.int (5 : Int32)), .val (.int (5 : Int32)), .val (.int e_a2_4)] [(.ref b435)])) _
                                        refine XS.iload X625.here hx rfl (hb hby d2_260) rfl ?_
                                        show Steps p.tables e below (T625.setTop (mkF m 262 #[.val (.ref a1), .val (.ref a2), .val (.ref a3), .val (.ref a4), .val (.ref a5), .val (.ref b435), .val (.int (1 : Int32)), .val (.int (5 : Int32)), .val (.int (5 : Int32)), .val (.int e_a2_4)] [(.int (1 : Int32)), (.ref b435)])) _
                                        refine XS.iconst X625.here hx rfl (hb hby d2_262) ?_
                                        show Steps p.tables e below (T625.setTop (mkF m 263 #[.val (.ref a1), .val (.ref a2), .val (.ref a3), .val (.ref a4), .val (.ref a5), .val (.ref b435), .val (.int (1 : Int32)), .val (.int (5 : Int32)), .val (.int (5 : Int32)), .val (.int e_a2_4)] [(.int (1 : Int32)), (.int (1 : Int32)), (.ref b435)])) _
                                        refine XS.iadd X625.here hx rfl (hb hby d2_263) rfl ?_
                                        show Steps p.tables e below (T625.setTop (mkF m 264 #[.val (.ref a1), .val (.ref a2), .val (.ref a3), .val (.ref a4), .val (.ref a5), .val (.ref b435), .val (.int (1 : Int32)), .val (.int (5 : Int32)), .val (.int (5 : Int32)), .val (.int e_a2_4)] [(.int (2 : Int32)), (.ref b435)])) _
                                        refine XT.dup2 X625.here hx rfl (hb hby d2_264) rfl rfl rfl ?_
                                        show Steps p.tables e below (T625.setTop (mkF m 265 #[.val (.ref a1), .val (.ref a2), .val (.ref a3), .val (.ref a4), .val (.ref a5), .val (.ref b435), .val (.int (1 : Int32)), .val (.int (5 : Int32)), .val (.int (5 : Int32)), .val (.int e_a2_4)] [(.int (2 : Int32)), (.ref b435), (.int (2 : Int32)), (.ref b435)])) _
                                        refine X625.iaload hx (j := (2 : Int32)) (v := (.int (own_at (own_L2_5 e_a2_0 e_a2_1 e_a2_2 e_a2_3 e_a2_4) (2 : Int32)))) (by rw [e625]; exact Ar626.1) (State.isArrayOf_alike hZ.alike Ar626.2.1) Ar626.2.2 hin626 hat626 (g := (mkF m 265 #[.val (.ref a1), .val (.ref a2), .val (.ref a3), .val (.ref a4), .val (.ref a5), .val (.ref b435), .val (.int (1 : Int32)), .val (.int (5 : Int32)), .val (.int (5 : Int32)), .val (.int e_a2_4)] [(.int (2 : Int32)), (.ref b435), (.int (2 : Int32)), (.ref b435)])) rfl rfl (hb hby d2_265) _ ?_
                                        show Steps p.tables e below (T625.setTop (mkF m 266 #[.val (.ref a1), .val (.ref a2), .val (.ref a3), .val (.ref a4), .val (.ref a5), .val (.ref b435), .val (.int (1 : Int32)), .val (.int (5 : Int32)), .val (.int (5 : Int32)), .val (.int e_a2_4)] [(.int (own_at (own_L2_5 e_a2_0 e_a2_1 e_a2_2 e_a2_3 e_a2_4) (2 : Int32))), (.int (2 : Int32)), (.ref b435)])) _
                                        refine XS.aload X625.here hx rfl (hb hby d2_266) rfl rfl ?_
                                        show Steps p.tables e below (T625.setTop (mkF m 268 #[.val (.ref a1), .val (.ref a2), .val (.ref a3), .val (.ref a4), .val (.ref a5), .val (.ref b435), .val (.int (1 : Int32)), .val (.int (5 : Int32)), .val (.int (5 : Int32)), .val (.int e_a2_4)] [(.ref b435), (.int (own_at (own_L2_5 e_a2_0 e_a2_1 e_a2_2 e_a2_3 e_a2_4) (2 : Int32))), (.int (2 : Int32)), (.ref b435)])) _
                                        refine XS.iload X625.here hx rfl (hb hby d2_268) rfl ?_
                                        show Steps p.tables e below (T625.setTop (mkF m 270 #[.val (.ref a1), .val (.ref a2), .val (.ref a3), .val (.ref a4), .val (.ref a5), .val (.ref b435), .val (.int (1 : Int32)), .val (.int (5 : Int32)), .val (.int (5 : Int32)), .val (.int e_a2_4)] [(.int (1 : Int32)), (.ref b435), (.int (own_at (own_L2_5 e_a2_0 e_a2_1 e_a2_2 e_a2_3 e_a2_4) (2 : Int32))), (.int (2 : Int32)), (.ref b435)])) _
                                        refine X625.iaload hx (j := (1 : Int32)) (v := (.int (own_at (own_L2_5 e_a2_0 e_a2_1 e_a2_2 e_a2_3 e_a2_4) (1 : Int32)))) (by rw [e625]; exact Ar627.1) (State.isArrayOf_alike hZ.alike Ar627.2.1) Ar627.2.2 hin627 hat627 (g := (mkF m 270 #[.val (.ref a1), .val (.ref a2), .val (.ref a3), .val (.ref a4), .val (.ref a5), .val (.ref b435), .val (.int (1 : Int32)), .val (.int (5 : Int32)), .val (.int (5 : Int32)), .val (.int e_a2_4)] [(.int (1 : Int32)), (.ref b435), (.int (own_at (own_L2_5 e_a2_0 e_a2_1 e_a2_2 e_a2_3 e_a2_4) (2 : Int32))), (.int (2 : Int32)), (.ref b435)])) rfl rfl (hb hby d2_270) _ ?_
                                        show Steps p.tables e below (T625.setTop (mkF m 271 #[.val (.ref a1), .val (.ref a2), .val (.ref a3), .val (.ref a4), .val (.ref a5), .val (.ref b435), .val (.int (1 : Int32)), .val (.int (5 : Int32)), .val (.int (5 : Int32)), .val (.int e_a2_4)] [(.int (own_at (own_L2_5 e_a2_0 e_a2_1 e_a2_2 e_a2_3 e_a2_4) (1 : Int32))), (.int (own_at (own_L2_5 e_a2_0 e_a2_1 e_a2_2 e_a2_3 e_a2_4) (2 : Int32))), (.int (2 : Int32)), (.ref b435)])) _
                                        refine XS.iadd X625.here hx rfl (hb hby d2_271) rfl ?_
                                        show Steps p.tables e below (T625.setTop (mkF m 272 #[.val (.ref a1), .val (.ref a2), .val (.ref a3), .val (.ref a4), .val (.ref a5), .val (.ref b435), .val (.int (1 : Int32)), .val (.int (5 : Int32)), .val (.int (5 : Int32)), .val (.int e_a2_4)] [(.int ((own_at (own_L2_5 e_a2_0 e_a2_1 e_a2_2 e_a2_3 e_a2_4) (2 : Int32)) + (own_at (own_L2_5 e_a2_0 e_a2_1 e_a2_2 e_a2_3 e_a2_4) (1 : Int32)))), (.int (2 : Int32)), (.ref b435)])) _
                                        refine st628 _ ?_
                                        show Steps p.tables e below (T628.setTop (mkF m 273 #[.val (.ref a1), .val (.ref a2), .val (.ref a3), .val (.ref a4), .val (.ref a5), .val (.ref b435), .val (.int (1 : Int32)), .val (.int (5 : Int32)), .val (.int (5 : Int32)), .val (.int e_a2_4)] [])) _
                                        refine XS.iinc X628.here hx rfl (hb hby d2_273) rfl (l' := #[.val (.ref a1), .val (.ref a2), .val (.ref a3), .val (.ref a4), .val (.ref a5), .val (.ref b435), .val (.int (2 : Int32)), .val (.int (5 : Int32)), .val (.int (5 : Int32)), .val (.int e_a2_4)]) rfl ?_
                                        show Steps p.tables e below (T628.setTop (mkF m 276 #[.val (.ref a1), .val (.ref a2), .val (.ref a3), .val (.ref a4), .val (.ref a5), .val (.ref b435), .val (.int (2 : Int32)), .val (.int (5 : Int32)), .val (.int (5 : Int32)), .val (.int e_a2_4)] [])) _
                                        refine XS.goto X628.here hx rfl (pc0 := 276) (pc' := 249) rfl (hb hby d2_276) (by decide) (by decide) ?_
                                        exact kt
                                      have fq630 := (Exa.wr W628 fq604)
                                      have fq631 := (Fld.other W628 fq605 (Or.inl ne_a1_b435))
                                      have fq632 := (Fld.other W628 fq606 (Or.inl ne_a1_b435))
                                      have fq633 := (Fld.other W628 fq607 (Or.inl ne_a1_b435))
                                      have fq634 := (Fld.other W628 fq608 (Or.inl ne_a1_b435))
                                      have fq635 := (Fld.other W628 fq609 (Or.inl ne_a1_b435))
                                      have fq636 := (Fld.other W628 fq610 (Or.inl ne_a1_b435))
                                      have fq637 := (Fld.other W628 fq611 (Or.inl ne_a1_b435))
                                      have fq638 := (Fld.other W628 fq612 (Or.inl ne_a1_b435))
                                      have fq639 := (Fld.other W628 fq613 (Or.inl ne_a1_b435))
                                      have fq640 := (Fld.other W628 fq614 (Or.inl ne_a1_b435))
                                      have fq641 := (fq615.other W628 ne_a2_b435)
                                      have fq642 := (fq616.other W628 ne_a4_b435)
                                      have fq643 := (fq617.other W628 ne_b41_b435)
                                      have fq644 := (fq618.other W628 ne_b47_b435)
                                      have fq645 := (fq619.other W628 ne_b85_b435)
                                      have fq646 := (fq620.other W628 ne_b91_b435)
                                      have fq647 := (fq621.other W628 ne_b133_b435)
                                      have fq648 := (fq622.other W628 ne_b139_b435)
                                      have z649 : n0 ≤ h628.size := (Nat.le_trans z623 (Keep.of_wr W628).1)
                                      obtain ⟨Lc650, Xc650, Nc650⟩ : ∃ L, Stand p l e ({ frames := 1, cells := 18, slots := 86, locals := 13 } : Room) s m #[(.ref a1), (.ref a2), (.ref a3), (.ref a4), (.ref a5)] below meth c T628 L 18 86 ∧ Fr n0 L := ⟨_, X628, N628⟩
                                      clear e602 hl602 V602 pre603 fq604 fq605 fq606 fq607 fq608 fq609 fq610 fq611 fq612 fq613 fq614 fq615 fq616 fq617 fq618 fq619 fq620 fq621 fq622 z623 Xc624 Nc624 X625 e625 st625 Ar626 aq626 S626 M626 H626 G626 hin626 hat626 Ar627 aq627 S627 M627 H627 G627 hin627 hat627 sd628 Vo628 Ar628 aq628 S628 M628 H628 G628 X628 W628 st628 N628
                                      try clear cl628
                                      try clear cl627
                                      try clear cl626
                                      try clear T625
                                      try clear Lc624
                                      try clear h602
                                      try clear T602
                                      as_aux_lemma =>
                                        obtain ⟨T651, X651, e651, st651⟩ := getF Xc650 hx hZ hown (host := "") (Or.inl hw15) Via.refl e628 fq634 (g := (mkF m 252 #[.val (.ref a1), .val (.ref a2), .val (.ref a3), .val (.ref a4), .val (.ref a5), .val (.ref b435), .val (.int (2 : Int32)), .val (.int (5 : Int32)), .val (.int (5 : Int32)), .val (.int e_a2_4)] [(.ref a1), (.int (2 : Int32))])) rfl rfl (hb hby d2_252)
                                        obtain ⟨cl652, Ar652, aq652, S652, M652, H652, G652⟩ := id V628
                                        have hin652 : ¬ ((3 : Int32) < 0 ∨ cl652.slots.size ≤ ((3 : Int32)).toNatClampNeg) := inb_of S652 ⟨by decide, by decide⟩
                                        have hat652 : cl652.slots[((3 : Int32)).toNatClampNeg]? = some (.int (own_at (own_L2_6 e_a2_0 e_a2_1 e_a2_2 e_a2_3 e_a2_4) (3 : Int32))) := Has.at H652 hin652 (own_getD (own_L2_6 e_a2_0 e_a2_1 e_a2_2 e_a2_3 e_a2_4) ((3 : Int32)).toNatClampNeg)
                                        obtain ⟨cl653, Ar653, aq653, S653, M653, H653, G653⟩ := id V628
                                        have hin653 : ¬ ((2 : Int32) < 0 ∨ cl653.slots.size ≤ ((2 : Int32)).toNatClampNeg) := inb_of S653 ⟨by decide, by decide⟩
                                        have hat653 : cl653.slots[((2 : Int32)).toNatClampNeg]? = some (.int (own_at (own_L2_6 e_a2_0 e_a2_1 e_a2_2 e_a2_3 e_a2_4) (2 : Int32))) := Has.at H653 hin653 (own_getD (own_L2_6 e_a2_0 e_a2_1 e_a2_2 e_a2_3 e_a2_4) ((2 : Int32)).toNatClampNeg)
                                        have sd654 : ¬ ((3 : Int32) < 0) ∧ (3 : Int32) < (6 : Int32) := ⟨by decide, by decide⟩
                                        have Vo654 : Arv Z h628 b435 k435 .int (6 : Int32) ((own_L2_6 e_a2_0 e_a2_1 e_a2_2 e_a2_3 e_a2_4).map Value.int) (.int (0 : Int32)) := V628
                                        obtain ⟨cl654, Ar654, aq654, S654, M654, H654, G654⟩ := id V628
                                        obtain ⟨T654, h654, X654, e654, W654, st654⟩ := stI X651 hx hZ e651 Ar654 (j := (3 : Int32)) (inb_of S654 sd654) (g := (mkF m 272 #[.val (.ref a1), .val (.ref a2), .val (.ref a3), .val (.ref a4), .val (.ref a5), .val (.ref b435), .val (.int (2 : Int32)), .val (.int (5 : Int32)), .val (.int (5 : Int32)), .val (.int e_a2_4)] [(.int ((own_at (own_L2_6 e_a2_0 e_a2_1 e_a2_2 e_a2_3 e_a2_4) (3 : Int32)) + (own_at (own_L2_6 e_a2_0 e_a2_1 e_a2_2 e_a2_3 e_a2_4) (2 : Int32)))), (.int (3 : Int32)), (.ref b435)])) rfl rfl (hb hby d2_272)
                                        have hl654 : (own_L2_7 e_a2_0 e_a2_1 e_a2_2 e_a2_3 e_a2_4).length = 6 := (List.length_set ..).trans hl628
                                        have V654 : Arv Z h654 b435 k435 .int (6 : Int32) ((own_L2_7 e_a2_0 e_a2_1 e_a2_2 e_a2_3 e_a2_4).map Value.int) (.int (0 : Int32)) := own_setL Vo654 hl628 W654 sd654
                                        have N654 := Fr.snoc X654 Nc650 g_b435
                                        have pre655 : ∀ t, Steps p.tables e below (T654.setTop (mkF m 249 #[.val (.ref a1), .val (.ref a2), .val (.ref a3), .val (.ref a4), .val (.ref a5), .val (.ref b435), .val (.int (3 : Int32)), .val (.int (5 : Int32)), .val (.int (5 : Int32)), .val (.int e_a2_4)] [])) t → Steps p.tables e below (s₁.setTop (entryFrame m #[(.ref a1), (.ref a2), (.ref a3), (.ref a4), (.ref a5)] 10)) t := fun t kt => by
                                          refine pre629 t ?_
                                          show Steps p.tables e below (T628.setTop (mkF m 249 #[.val (.ref a1), .val (.ref a2), .val (.ref a3), .val (.ref a4), .val (.ref a5), .val (.ref b435), .val (.int (2 : Int32)), .val (.int (5 : Int32)), .val (.int (5 : Int32)), .val (.int e_a2_4)] [])) _
                                          refine XS.iload Xc650.here hx rfl (hb hby d2_249) rfl ?_
                                          show Steps p.tables e below (T628.setTop (mkF m 251 #[.val (.ref a1), .val (.ref a2), .val (.ref a3), .val (.ref a4), .val (.ref a5), .val (.ref b435), .val (.int (2 : Int32)), .val (.int (5 : Int32)), .val (.int (5 : Int32)), .val (.int e_a2_4)] [(.int (2 : Int32))])) _
                                          refine XS.aloadN Xc650.here hx rfl (hb hby d2_251) rfl rfl ?_
                                          show Steps p.tables e below (T628.setTop (mkF m 252 #[.val (.ref a1), .val (.ref a2), .val (.ref a3), .val (.ref a4), .val (.ref a5), .val (.ref b435), .val (.int (2 : Int32)), .val (.int (5 : Int32)), .val (.int (5 : Int32)), .val (.int e_a2_4)] [(.ref a1), (.int (2 : Int32))])) _
                                          refine st651 _ ?_
                                          show Steps p.tables e below (T651.setTop (mkF m 255 #[.val (.ref a1), .val (.ref a2), .val (.ref a3), .val (.ref a4), .val (.ref a5), .val (.ref b435), .val (.int (2 : Int32)), .val (.int (5 : Int32)), .val (.int (5 : Int32)), .val (.int e_a2_4)] [(.int (5 : Int32)), (.int (2 : Int32))])) _
                                          refine XS.icmpNo X651.here hx rfl (hb hby d2_255) rfl (tlt (by decide : (2 : Int32) < (5 : Int32))).2.1 ?_
                                          show Steps p.tables e below (T651.setTop (mkF m 258 #[.val (.ref a1), .val (.ref a2), .val (.ref a3), .val (.ref a4), .val (.ref a5), .val (.ref b435), .val (.int (2 : Int32)), .val (.int (5 : Int32)), .val (.int (5 : Int32)), .val (.int e_a2_4)] [])) _
                                          refine XS.aload X651.here hx rfl (hb hby d2_258) rfl rfl ?_
                                          show Steps p.tables e below (T651.setTop (mkF m 260 #[.val (.ref a1), .val (.ref a2), .val (.ref a3), .val (.ref a4), .val (.ref a5), .val (.ref b435), .val (.int (2 : Int32)), .val (.int (5 : Int32)), .val (.int (5 : Int32)), .val (.int e_a2_4)] [(.ref b435)])) _
                                          refine XS.iload X651.here hx rfl (hb hby d2_260) rfl ?_
                                          show Steps p.tables e below (T651.setTop (mkF m 262 #[.val (.ref a1), .val (.ref a2), .val (.ref a3), .val (.ref a4), .val (.ref a5), .val (.ref b435), .val (.int (2 : Int32)), .val (.int (5 : Int32)), .val (.int (5 : Int32)), .val (.int e_a2_4)] [(.int (2 : Int32)), (.ref b435)])) _
                                          refine XS.iconst X651.here hx rfl (hb hby d2_262) ?_
                                          show Steps p.tables e below (T651.setTop (mkF m 263 #[.val (.ref a1), .val (.ref a2), .val (.ref a3), .val (.ref a4), .val (.ref a5), .val (.ref b435), .val (.int (2 : Int32)), .val (.int (5 : Int32)), .val (.int (5 : Int32)), .val (.int e_a2_4)] [(.int (1 : Int32)), (.int (2 : Int32)), (.ref b435)])) _
                                          refine XS.iadd X651.here hx rfl (hb hby d2_263) rfl ?_
                                          show Steps p.tables e below (T651.setTop (mkF m 264 #[.val (.ref a1), .val (.ref a2), .val (.ref a3), .val (.ref a4), .val (.ref a5), .val (.ref b435), .val (.int (2 : Int32)), .val (.int (5 : Int32)), .val (.int (5 : Int32)), .val (.int e_a2_4)] [(.int (3 : Int32)), (.ref b435)])) _
                                          refine XT.dup2 X651.here hx rfl (hb hby d2_264) rfl rfl rfl ?_
                                          show Steps p.tables e below (T651.setTop (mkF m 265 #[.val (.ref a1), .val (.ref a2), .val (.ref a3), .val (.ref a4), .val (.ref a5), .val (.ref b435), .val (.int (2 : Int32)), .val (.int (5 : Int32)), .val (.int (5 : Int32)), .val (.int e_a2_4)] [(.int (3 : Int32)), (.ref b435), (.int (3 : Int32)), (.ref b435)])) _
                                          refine X651.iaload hx (j := (3 : Int32)) (v := (.int (own_at (own_L2_6 e_a2_0 e_a2_1 e_a2_2 e_a2_3 e_a2_4) (3 : Int32)))) (by rw [e651]; exact Ar652.1) (State.isArrayOf_alike hZ.alike Ar652.2.1) Ar652.2.2 hin652 hat652 (g := (mkF m 265 #[.val (.ref a1), .val (.ref a2), .val (.ref a3), .val (.ref a4), .val (.ref a5), .val (.ref b435), .val (.int (2 : Int32)), .val (.int (5 : Int32)), .val (.int (5 : Int32)), .val (.int e_a2_4)] [(.int (3 : Int32)), (.ref b435), (.int (3 : Int32)), (.ref b435)])) rfl rfl (hb hby d2_265) _ ?_
                                          show Steps p.tables e below (T651.setTop (mkF m 266 #[.val (.ref a1), .val (.ref a2), .val (.ref a3), .val (.ref a4), .val (.ref a5), .val (.ref b435), .val (.int (2 : Int32)), .val (.int (5 : Int32)), .val (.int (5 : Int32)), .val (.int e_a2_4)] [(.int (own_at (own_L2_6 e_a2_0 e_a2_1 e_a2_2 e_a2_3 e_a2_4) (3 : Int32))), (.int (3 : Int32)), (.ref b435)])) _
                                          refine XS.aload X651.here hx rfl (hb hby d2_266) rfl rfl ?_
                                          show Steps p.tables e below (T651.setTop (mkF m 268 #[.val (.ref a1), .val (.ref a2), .val (.ref a3), .val (.ref a4), .val (.ref a5), .val (.ref b435), .val (.int (2 : Int32)), .val (.int (5 : Int32)), .val (.int (5 : Int32)), .val (.int e_a2_4)] [(.ref b435), (.int (own_at (own_L2_6 e_a2_0 e_a2_1 e_a2_2 e_a2_3 e_a2_4) (3 : Int32))), (.int (3 : Int32)), (.ref b435)])) _
                                          refine XS.iload X651.here hx rfl (hb hby d2_268) rfl ?_
                                          show Steps p.tables e below (T651.setTop (mkF m 270 #[.val (.ref a1), .val (.ref a2), .val (.ref a3), .val (.ref a4), .val (.ref a5), .val (.ref b435), .val (.int (2 : Int32)), .val (.int (5 : Int32)), .val (.int (5 : Int32)), .val (.int e_a2_4)] [(.int (2 : Int32)), (.ref b435), (.int (own_at (own_L2_6 e_a2_0 e_a2_1 e_a2_2 e_a2_3 e_a2_4) (3 : Int32))), (.int (3 : Int32)), (.ref b435)])) _
                                          refine X651.iaload hx (j := (2 : Int32)) (v := (.int (own_at (own_L2_6 e_a2_0 e_a2_1 e_a2_2 e_a2_3 e_a2_4) (2 : Int32)))) (by rw [e651]; exact Ar653.1) (State.isArrayOf_alike hZ.alike Ar653.2.1) Ar653.2.2 hin653 hat653 (g := (mkF m 270 #[.val (.ref a1), .val (.ref a2), .val (.ref a3), .val (.ref a4), .val (.ref a5), .val (.ref b435), .val (.int (2 : Int32)), .val (.int (5 : Int32)), .val (.int (5 : Int32)), .val (.int e_a2_4)] [(.int (2 : Int32)), (.ref b435), (.int (own_at (own_L2_6 e_a2_0 e_a2_1 e_a2_2 e_a2_3 e_a2_4) (3 : Int32))), (.int (3 : Int32)), (.ref b435)])) rfl rfl (hb hby d2_270) _ ?_
                                          show Steps p.tables e below (T651.setTop (mkF m 271 #[.val (.ref a1), .val (.ref a2), .val (.ref a3), .val (.ref a4), .val (.ref a5), .val (.ref b435), .val (.int (2 : Int32)), .val (.int (5 : Int32)), .val (.int (5 : Int32)), .val (.int e_a2_4)] [(.int (own_at (own_L2_6 e_a2_0 e_a2_1 e_a2_2 e_a2_3 e_a2_4) (2 : Int32))), (.int (own_at (own_L2_6 e_a2_0 e_a2_1 e_a2_2 e_a2_3 e_a2_4) (3 : Int32))), (.int (3 : Int32)), (.ref b435)])) _
                                          refine XS.iadd X651.here hx rfl (hb hby d2_271) rfl ?_
                                          show Steps p.tables e below (T651.setTop (mkF m 272 #[.val (.ref a1), .val (.ref a2), .val (.ref a3), .val (.ref a4), .val (.ref a5), .val (.ref b435), .val (.int (2 : Int32)), .val (.int (5 : Int32)), .val (.int (5 : Int32)), .val (.int e_a2_4)] [(.int ((own_at (own_L2_6 e_a2_0 e_a2_1 e_a2_2 e_a2_3 e_a2_4) (3 : Int32)) + (own_at (own_L2_6 e_a2_0 e_a2_1 e_a2_2 e_a2_3 e_a2_4) (2 : Int32)))), (.int (3 : Int32)), (.ref b435)])) _
                                          refine st654 _ ?_
                                          show Steps p.tables e below (T654.setTop (mkF m 273 #[.val (.ref a1), .val (.ref a2), .val (.ref a3), .val (.ref a4), .val (.ref a5), .val (.ref b435), .val (.int (2 : Int32)), .val (.int (5 : Int32)), .val (.int (5 : Int32)), .val (.int e_a2_4)] [])) _
                                          refine XS.iinc X654.here hx rfl (hb hby d2_273) rfl (l' := #[.val (.ref a1), .val (.ref a2), .val (.ref a3), .val (.ref a4), .val (.ref a5), .val (.ref b435), .val (.int (3 : Int32)), .val (.int (5 : Int32)), .val (.int (5 : Int32)), .val (.int e_a2_4)]) rfl ?_
                                          show Steps p.tables e below (T654.setTop (mkF m 276 #[.val (.ref a1), .val (.ref a2), .val (.ref a3), .val (.ref a4), .val (.ref a5), .val (.ref b435), .val (.int (3 : Int32)), .val (.int (5 : Int32)), .val (.int (5 : Int32)), .val (.int e_a2_4)] [])) _
                                          refine XS.goto X654.here hx rfl (pc0 := 276) (pc' := 249) rfl (hb hby d2_276) (by decide) (by decide) ?_
                                          exact kt
                                        have fq656 := (Exa.wr W654 fq630)
                                        have fq657 := (Fld.other W654 fq631 (Or.inl ne_a1_b435))
                                        have fq658 := (Fld.other W654 fq632 (Or.inl ne_a1_b435))
                                        have fq659 := (Fld.other W654 fq633 (Or.inl ne_a1_b435))
                                        have fq660 := (Fld.other W654 fq634 (Or.inl ne_a1_b435))
                                        have fq661 := (Fld.other W654 fq635 (Or.inl ne_a1_b435))
                                        have fq662 := (Fld.other W654 fq636 (Or.inl ne_a1_b435))
                                        have fq663 := (Fld.other W654 fq637 (Or.inl ne_a1_b435))
                                        have fq664 := (Fld.other W654 fq638 (Or.inl ne_a1_b435))
                                        have fq665 := (Fld.other W654 fq639 (Or.inl ne_a1_b435))
                                        have fq666 := (Fld.other W654 fq640 (Or.inl ne_a1_b435))
                                        have fq667 := (fq641.other W654 ne_a2_b435)
                                        have fq668 := (fq642.other W654 ne_a4_b435)
                                        have fq669 := (fq643.other W654 ne_b41_b435)
                                        have fq670 := (fq644.other W654 ne_b47_b435)
                                        have fq671 := (fq645.other W654 ne_b85_b435)
                                        have fq672 := (fq646.other W654 ne_b91_b435)
                                        have fq673 := (fq647.other W654 ne_b133_b435)
                                        have fq674 := (fq648.other W654 ne_b139_b435)
                                        have z675 : n0 ≤ h654.size := (Nat.le_trans z649 (Keep.of_wr W654).1)
                                        obtain ⟨Lc676, Xc676, Nc676⟩ : ∃ L, Stand p l e ({ frames := 1, cells := 18, slots := 86, locals := 13 } : Room) s m #[(.ref a1), (.ref a2), (.ref a3), (.ref a4), (.ref a5)] below meth c T654 L 18 86 ∧ Fr n0 L := ⟨_, X654, N654⟩
                                        clear e628 hl628 V628 pre629 fq630 fq631 fq632 fq633 fq634 fq635 fq636 fq637 fq638 fq639 fq640 fq641 fq642 fq643 fq644 fq645 fq646 fq647 fq648 z649 Xc650 Nc650 X651 e651 st651 Ar652 aq652 S652 M652 H652 G652 hin652 hat652 Ar653 aq653 S653 M653 H653 G653 hin653 hat653 sd654 Vo654 Ar654 aq654 S654 M654 H654 G654 X654 W654 st654 N654
                                        try clear cl654
                                        try clear cl653
                                        try clear cl652
                                        try clear T651
                                        try clear Lc650
                                        try clear h628
                                        try clear T628
                                        as_aux_lemma =>
                                          obtain ⟨T677, X677, e677, st677⟩ := getF Xc676 hx hZ hown (host := "") (Or.inl hw15) Via.refl e654 fq660 (g := (mkF m 252 #[.val (.ref a1), .val (.ref a2), .val (.ref a3), .val (.ref a4), .val (.ref a5), .val (.ref b435), .val (.int (3 : Int32)), .val (.int (5 : Int32)), .val (.int (5 : Int32)), .val (.int e_a2_4)] [(.ref a1), (.int (3 : Int32))])) rfl rfl (hb hby d2_252)
                                          obtain ⟨cl678, Ar678, aq678, S678, M678, H678, G678⟩ := id V654
                                          have hin678 : ¬ ((4 : Int32) < 0 ∨ cl678.slots.size ≤ ((4 : Int32)).toNatClampNeg) := inb_of S678 ⟨by decide, by decide⟩
                                          have hat678 : cl678.slots[((4 : Int32)).toNatClampNeg]? = some (.int (own_at (own_L2_7 e_a2_0 e_a2_1 e_a2_2 e_a2_3 e_a2_4) (4 : Int32))) := Has.at H678 hin678 (own_getD (own_L2_7 e_a2_0 e_a2_1 e_a2_2 e_a2_3 e_a2_4) ((4 : Int32)).toNatClampNeg)
                                          obtain ⟨cl679, Ar679, aq679, S679, M679, H679, G679⟩ := id V654
                                          have hin679 : ¬ ((3 : Int32) < 0 ∨ cl679.slots.size ≤ ((3 : Int32)).toNatClampNeg) := inb_of S679 ⟨by decide, by decide⟩
                                          have hat679 : cl679.slots[((3 : Int32)).toNatClampNeg]? = some (.int (own_at (own_L2_7 e_a2_0 e_a2_1 e_a2_2 e_a2_3 e_a2_4) (3 : Int32))) := Has.at H679 hin679 (own_getD (own_L2_7 e_a2_0 e_a2_1 e_a2_2 e_a2_3 e_a2_4) ((3 : Int32)).toNatClampNeg)
                                          have sd680 : ¬ ((4 : Int32) < 0) ∧ (4 : Int32) < (6 : Int32) := ⟨by decide, by decide⟩
                                          have Vo680 : Arv Z h654 b435 k435 .int (6 : Int32) ((own_L2_7 e_a2_0 e_a2_1 e_a2_2 e_a2_3 e_a2_4).map Value.int) (.int (0 : Int32)) := V654
                                          obtain ⟨cl680, Ar680, aq680, S680, M680, H680, G680⟩ := id V654
                                          obtain ⟨T680, h680, X680, e680, W680, st680⟩ := stI X677 hx hZ e677 Ar680 (j := (4 : Int32)) (inb_of S680 sd680) (g := (mkF m 272 #[.val (.ref a1), .val (.ref a2), .val (.ref a3), .val (.ref a4), .val (.ref a5), .val (.ref b435), .val (.int (3 : Int32)), .val (.int (5 : Int32)), .val (.int (5 : Int32)), .val (.int e_a2_4)] [(.int ((own_at (own_L2_7 e_a2_0 e_a2_1 e_a2_2 e_a2_3 e_a2_4) (4 : Int32)) + (own_at (own_L2_7 e_a2_0 e_a2_1 e_a2_2 e_a2_3 e_a2_4) (3 : Int32)))), (.int (4 : Int32)), (.ref b435)])) rfl rfl (hb hby d2_272)
                                          have hl680 : (own_L2_8 e_a2_0 e_a2_1 e_a2_2 e_a2_3 e_a2_4).length = 6 := (List.length_set ..).trans hl654
                                          have V680 : Arv Z h680 b435 k435 .int (6 : Int32) ((own_L2_8 e_a2_0 e_a2_1 e_a2_2 e_a2_3 e_a2_4).map Value.int) (.int (0 : Int32)) := own_setL Vo680 hl654 W680 sd680
                                          have N680 := Fr.snoc X680 Nc676 g_b435
                                          have pre681 : ∀ t, Steps p.tables e below (T680.setTop (mkF m 249 #[.val (.ref a1), .val (.ref a2), .val (.ref a3), .val (.ref a4), .val (.ref a5), .val (.ref b435), .val (.int (4 : Int32)), .val (.int (5 : Int32)), .val (.int (5 : Int32)), .val (.int e_a2_4)] [])) t → Steps p.tables e below (s₁.setTop (entryFrame m #[(.ref a1), (.ref a2), (.ref a3), (.ref a4), (.ref a5)] 10)) t := fun t kt => by
                                            refine pre655 t ?_
                                            show Steps p.tables e below (T654.setTop (mkF m 249 #[.val (.ref a1), .val (.ref a2), .val (.ref a3), .val (.ref a4), .val (.ref a5), .val (.ref b435), .val (.int (3 : Int32)), .val (.int (5 : Int32)), .val (.int (5 : Int32)), .val (.int e_a2_4)] [])) _
                                            refine XS.iload Xc676.here hx rfl (hb hby d2_249) rfl ?_
                                            show Steps p.tables e below (T654.setTop (mkF m 251 #[.val (.ref a1), .val (.ref a2), .val (.ref a3), .val (.ref a4), .val (.ref a5), .val (.ref b435), .val (.int (3 : Int32)), .val (.int (5 : Int32)), .val (.int (5 : Int32)), .val (.int e_a2_4)] [(.int (3 : Int32))])) _
                                            refine XS.aloadN Xc676.here hx rfl (hb hby d2_251) rfl rfl ?_
                                            show Steps p.tables e below (T654.setTop (mkF m 252 #[.val (.ref a1), .val (.ref a2), .val (.ref a3), .val (.ref a4), .val (.ref a5), .val (.ref b435), .val (.int (3 : Int32)), .val (.int (5 : Int32)), .val (.int (5 : Int32)), .val (.int e_a2_4)] [(.ref a1), (.int (3 : Int32))])) _
                                            refine st677 _ ?_
                                            show Steps p.tables e below (T677.setTop (mkF m 255 #[.val (.ref a1), .val (.ref a2), .val (.ref a3), .val (.ref a4), .val (.ref a5), .val (.ref b435), .val (.int (3 : Int32)), .val (.int (5 : Int32)), .val (.int (5 : Int32)), .val (.int e_a2_4)] [(.int (5 : Int32)), (.int (3 : Int32))])) _
                                            refine XS.icmpNo X677.here hx rfl (hb hby d2_255) rfl (tlt (by decide : (3 : Int32) < (5 : Int32))).2.1 ?_
                                            show Steps p.tables e below (T677.setTop (mkF m 258 #[.val (.ref a1), .val (.ref a2), .val (.ref a3), .val (.ref a4), .val (.ref a5), .val (.ref b435), .val (.int (3 : Int32)), .val (.int (5 : Int32)), .val (.int (5 : Int32)), .val (.int e_a2_4)] [])) _
                                            refine XS.aload X677.here hx rfl (hb hby d2_258) rfl rfl ?_
                                            show Steps p.tables e below (T677.setTop (mkF m 260 #[.val (.ref a1), .val (.ref a2), .val (.ref a3), .val (.ref a4), .val (.ref a5), .val (.ref b435), .val (.int (3 : Int32)), .val (.int (5 : Int32)), .val (.int (5 : Int32)), .val (.int e_a2_4)] [(.ref b435)])) _
                                            refine XS.iload X677.here hx rfl (hb hby d2_260) rfl ?_
                                            show Steps p.tables e below (T677.setTop (mkF m 262 #[.val (.ref a1), .val (.ref a2), .val (.ref a3), .val (.ref a4), .val (.ref a5), .val (.ref b435), .val (.int (3 : Int32)), .val (.int (5 : Int32)), .val (.int (5 : Int32)), .val (.int e_a2_4)] [(.int (3 : Int32)), (.ref b435)])) _
                                            refine XS.iconst X677.here hx rfl (hb hby d2_262) ?_
                                            show Steps p.tables e below (T677.setTop (mkF m 263 #[.val (.ref a1), .val (.ref a2), .val (.ref a3), .val (.ref a4), .val (.ref a5), .val (.ref b435), .val (.int (3 : Int32)), .val (.int (5 : Int32)), .val (.int (5 : Int32)), .val (.int e_a2_4)] [(.int (1 : Int32)), (.int (3 : Int32)), (.ref b435)])) _
                                            refine XS.iadd X677.here hx rfl (hb hby d2_263) rfl ?_
                                            show Steps p.tables e below (T677.setTop (mkF m 264 #[.val (.ref a1), .val (.ref a2), .val (.ref a3), .val (.ref a4), .val (.ref a5), .val (.ref b435), .val (.int (3 : Int32)), .val (.int (5 : Int32)), .val (.int (5 : Int32)), .val (.int e_a2_4)] [(.int (4 : Int32)), (.ref b435)])) _
                                            refine XT.dup2 X677.here hx rfl (hb hby d2_264) rfl rfl rfl ?_
                                            show Steps p.tables e below (T677.setTop (mkF m 265 #[.val (.ref a1), .val (.ref a2), .val (.ref a3), .val (.ref a4), .val (.ref a5), .val (.ref b435), .val (.int (3 : Int32)), .val (.int (5 : Int32)), .val (.int (5 : Int32)), .val (.int e_a2_4)] [(.int (4 : Int32)), (.ref b435), (.int (4 : Int32)), (.ref b435)])) _
                                            refine X677.iaload hx (j := (4 : Int32)) (v := (.int (own_at (own_L2_7 e_a2_0 e_a2_1 e_a2_2 e_a2_3 e_a2_4) (4 : Int32)))) (by rw [e677]; exact Ar678.1) (State.isArrayOf_alike hZ.alike Ar678.2.1) Ar678.2.2 hin678 hat678 (g := (mkF m 265 #[.val (.ref a1), .val (.ref a2), .val (.ref a3), .val (.ref a4), .val (.ref a5), .val (.ref b435), .val (.int (3 : Int32)), .val (.int (5 : Int32)), .val (.int (5 : Int32)), .val (.int e_a2_4)] [(.int (4 : Int32)), (.ref b435), (.int (4 : Int32)), (.ref b435)])) rfl rfl (hb hby d2_265) _ ?_
                                            show Steps p.tables e below (T677.setTop (mkF m 266 #[.val (.ref a1), .val (.ref a2), .val (.ref a3), .val (.ref a4), .val (.ref a5), .val (.ref b435), .val (.int (3 : Int32)), .val (.int (5 : Int32)), .val (.int (5 : Int32)), .val (.int e_a2_4)] [(.int (own_at (own_L2_7 e_a2_0 e_a2_1 e_a2_2 e_a2_3 e_a2_4) (4 : Int32))), (.int (4 : Int32)), (.ref b435)])) _
                                            refine XS.aload X677.here hx rfl (hb hby d2_266) rfl rfl ?_
                                            show Steps p.tables e below (T677.setTop (mkF m 268 #[.val (.ref a1), .val (.ref a2), .val (.ref a3), .val (.ref a4), .val (.ref a5), .val (.ref b435), .val (.int (3 : Int32)), .val (.int (5 : Int32)), .val (.int (5 : Int32)), .val (.int e_a2_4)] [(.ref b435), (.int (own_at (own_L2_7 e_a2_0 e_a2_1 e_a2_2 e_a2_3 e_a2_4) (4 : Int32))), (.int (4 : Int32)), (.ref b435)])) _
                                            refine XS.iload X677.here hx rfl (hb hby d2_268) rfl ?_
                                            show Steps p.tables e below (T677.setTop (mkF m 270 #[.val (.ref a1), .val (.ref a2), .val (.ref a3), .val (.ref a4), .val (.ref a5), .val (.ref b435), .val (.int (3 : Int32)), .val (.int (5 : Int32)), .val (.int (5 : Int32)), .val (.int e_a2_4)] [(.int (3 : Int32)), (.ref b435), (.int (own_at (own_L2_7 e_a2_0 e_a2_1 e_a2_2 e_a2_3 e_a2_4) (4 : Int32))), (.int (4 : Int32)), (.ref b435)])) _
                                            refine X677.iaload hx (j := (3 : Int32)) (v := (.int (own_at (own_L2_7 e_a2_0 e_a2_1 e_a2_2 e_a2_3 e_a2_4) (3 : Int32)))) (by rw [e677]; exact Ar679.1) (State.isArrayOf_alike hZ.alike Ar679.2.1) Ar679.2.2 hin679 hat679 (g := (mkF m 270 #[.val (.ref a1), .val (.ref a2), .val (.ref a3), .val (.ref a4), .val (.ref a5), .val (.ref b435), .val (.int (3 : Int32)), .val (.int (5 : Int32)), .val (.int (5 : Int32)), .val (.int e_a2_4)] [(.int (3 : Int32)), (.ref b435), (.int (own_at (own_L2_7 e_a2_0 e_a2_1 e_a2_2 e_a2_3 e_a2_4) (4 : Int32))), (.int (4 : Int32)), (.ref b435)])) rfl rfl (hb hby d2_270) _ ?_
                                            show Steps p.tables e below (T677.setTop (mkF m 271 #[.val (.ref a1), .val (.ref a2), .val (.ref a3), .val (.ref a4), .val (.ref a5), .val (.ref b435), .val (.int (3 : Int32)), .val (.int (5 : Int32)), .val (.int (5 : Int32)), .val (.int e_a2_4)] [(.int (own_at (own_L2_7 e_a2_0 e_a2_1 e_a2_2 e_a2_3 e_a2_4) (3 : Int32))), (.int (own_at (own_L2_7 e_a2_0 e_a2_1 e_a2_2 e_a2_3 e_a2_4) (4 : Int32))), (.int (4 : Int32)), (.ref b435)])) _
                                            refine XS.iadd X677.here hx rfl (hb hby d2_271) rfl ?_
                                            show Steps p.tables e below (T677.setTop (mkF m 272 #[.val (.ref a1), .val (.ref a2), .val (.ref a3), .val (.ref a4), .val (.ref a5), .val (.ref b435), .val (.int (3 : Int32)), .val (.int (5 : Int32)), .val (.int (5 : Int32)), .val (.int e_a2_4)] [(.int ((own_at (own_L2_7 e_a2_0 e_a2_1 e_a2_2 e_a2_3 e_a2_4) (4 : Int32)) + (own_at (own_L2_7 e_a2_0 e_a2_1 e_a2_2 e_a2_3 e_a2_4) (3 : Int32)))), (.int (4 : Int32)), (.ref b435)])) _
                                            refine st680 _ ?_
                                            show Steps p.tables e below (T680.setTop (mkF m 273 #[.val (.ref a1), .val (.ref a2), .val (.ref a3), .val (.ref a4), .val (.ref a5), .val (.ref b435), .val (.int (3 : Int32)), .val (.int (5 : Int32)), .val (.int (5 : Int32)), .val (.int e_a2_4)] [])) _
                                            refine XS.iinc X680.here hx rfl (hb hby d2_273) rfl (l' := #[.val (.ref a1), .val (.ref a2), .val (.ref a3), .val (.ref a4), .val (.ref a5), .val (.ref b435), .val (.int (4 : Int32)), .val (.int (5 : Int32)), .val (.int (5 : Int32)), .val (.int e_a2_4)]) rfl ?_
                                            show Steps p.tables e below (T680.setTop (mkF m 276 #[.val (.ref a1), .val (.ref a2), .val (.ref a3), .val (.ref a4), .val (.ref a5), .val (.ref b435), .val (.int (4 : Int32)), .val (.int (5 : Int32)), .val (.int (5 : Int32)), .val (.int e_a2_4)] [])) _
                                            refine XS.goto X680.here hx rfl (pc0 := 276) (pc' := 249) rfl (hb hby d2_276) (by decide) (by decide) ?_
                                            exact kt
                                          have fq682 := (Exa.wr W680 fq656)
                                          have fq683 := (Fld.other W680 fq657 (Or.inl ne_a1_b435))
                                          have fq684 := (Fld.other W680 fq658 (Or.inl ne_a1_b435))
                                          have fq685 := (Fld.other W680 fq659 (Or.inl ne_a1_b435))
                                          have fq686 := (Fld.other W680 fq660 (Or.inl ne_a1_b435))
                                          have fq687 := (Fld.other W680 fq661 (Or.inl ne_a1_b435))
                                          have fq688 := (Fld.other W680 fq662 (Or.inl ne_a1_b435))
                                          have fq689 := (Fld.other W680 fq663 (Or.inl ne_a1_b435))
                                          have fq690 := (Fld.other W680 fq664 (Or.inl ne_a1_b435))
                                          have fq691 := (Fld.other W680 fq665 (Or.inl ne_a1_b435))
                                          have fq692 := (Fld.other W680 fq666 (Or.inl ne_a1_b435))
                                          have fq693 := (fq667.other W680 ne_a2_b435)
                                          have fq694 := (fq668.other W680 ne_a4_b435)
                                          have fq695 := (fq669.other W680 ne_b41_b435)
                                          have fq696 := (fq670.other W680 ne_b47_b435)
                                          have fq697 := (fq671.other W680 ne_b85_b435)
                                          have fq698 := (fq672.other W680 ne_b91_b435)
                                          have fq699 := (fq673.other W680 ne_b133_b435)
                                          have fq700 := (fq674.other W680 ne_b139_b435)
                                          have z701 : n0 ≤ h680.size := (Nat.le_trans z675 (Keep.of_wr W680).1)
                                          obtain ⟨Lc702, Xc702, Nc702⟩ : ∃ L, Stand p l e ({ frames := 1, cells := 18, slots := 86, locals := 13 } : Room) s m #[(.ref a1), (.ref a2), (.ref a3), (.ref a4), (.ref a5)] below meth c T680 L 18 86 ∧ Fr n0 L := ⟨_, X680, N680⟩
                                          clear e654 hl654 V654 pre655 fq656 fq657 fq658 fq659 fq660 fq661 fq662 fq663 fq664 fq665 fq666 fq667 fq668 fq669 fq670 fq671 fq672 fq673 fq674 z675 Xc676 Nc676 X677 e677 st677 Ar678 aq678 S678 M678 H678 G678 hin678 hat678 Ar679 aq679 S679 M679 H679 G679 hin679 hat679 sd680 Vo680 Ar680 aq680 S680 M680 H680 G680 X680 W680 st680 N680
                                          try clear cl680
                                          try clear cl679
                                          try clear cl678
                                          try clear T677
                                          try clear Lc676
                                          try clear h654
                                          try clear T654
                                          as_aux_lemma =>
                                            obtain ⟨T703, X703, e703, st703⟩ := getF Xc702 hx hZ hown (host := "") (Or.inl hw15) Via.refl e680 fq686 (g := (mkF m 252 #[.val (.ref a1), .val (.ref a2), .val (.ref a3), .val (.ref a4), .val (.ref a5), .val (.ref b435), .val (.int (4 : Int32)), .val (.int (5 : Int32)), .val (.int (5 : Int32)), .val (.int e_a2_4)] [(.ref a1), (.int (4 : Int32))])) rfl rfl (hb hby d2_252)
                                            obtain ⟨cl704, Ar704, aq704, S704, M704, H704, G704⟩ := id V680
                                            have hin704 : ¬ ((5 : Int32) < 0 ∨ cl704.slots.size ≤ ((5 : Int32)).toNatClampNeg) := inb_of S704 ⟨by decide, by decide⟩
                                            have hat704 : cl704.slots[((5 : Int32)).toNatClampNeg]? = some (.int (own_at (own_L2_8 e_a2_0 e_a2_1 e_a2_2 e_a2_3 e_a2_4) (5 : Int32))) := Has.at H704 hin704 (own_getD (own_L2_8 e_a2_0 e_a2_1 e_a2_2 e_a2_3 e_a2_4) ((5 : Int32)).toNatClampNeg)
                                            obtain ⟨cl705, Ar705, aq705, S705, M705, H705, G705⟩ := id V680
                                            have hin705 : ¬ ((4 : Int32) < 0 ∨ cl705.slots.size ≤ ((4 : Int32)).toNatClampNeg) := inb_of S705 ⟨by decide, by decide⟩
                                            have hat705 : cl705.slots[((4 : Int32)).toNatClampNeg]? = some (.int (own_at (own_L2_8 e_a2_0 e_a2_1 e_a2_2 e_a2_3 e_a2_4) (4 : Int32))) := Has.at H705 hin705 (own_getD (own_L2_8 e_a2_0 e_a2_1 e_a2_2 e_a2_3 e_a2_4) ((4 : Int32)).toNatClampNeg)
                                            have sd706 : ¬ ((5 : Int32) < 0) ∧ (5 : Int32) < (6 : Int32) := ⟨by decide, by decide⟩
                                            have Vo706 : Arv Z h680 b435 k435 .int (6 : Int32) ((own_L2_8 e_a2_0 e_a2_1 e_a2_2 e_a2_3 e_a2_4).map Value.int) (.int (0 : Int32)) := V680
                                            obtain ⟨cl706, Ar706, aq706, S706, M706, H706, G706⟩ := id V680
                                            obtain ⟨T706, h706, X706, e706, W706, st706⟩ := stI X703 hx hZ e703 Ar706 (j := (5 : Int32)) (inb_of S706 sd706) (g := (mkF m 272 #[.val (.ref a1), .val (.ref a2), .val (.ref a3), .val (.ref a4), .val (.ref a5), .val (.ref b435), .val (.int (4 : Int32)), .val (.int (5 : Int32)), .val (.int (5 : Int32)), .val (.int e_a2_4)] [(.int ((own_at (own_L2_8 e_a2_0 e_a2_1 e_a2_2 e_a2_3 e_a2_4) (5 : Int32)) + (own_at (own_L2_8 e_a2_0 e_a2_1 e_a2_2 e_a2_3 e_a2_4) (4 : Int32)))), (.int (5 : Int32)), (.ref b435)])) rfl rfl (hb hby d2_272)
                                            have hl706 : (own_L2_9 e_a2_0 e_a2_1 e_a2_2 e_a2_3 e_a2_4).length = 6 := (List.length_set ..).trans hl680
                                            have V706 : Arv Z h706 b435 k435 .int (6 : Int32) ((own_L2_9 e_a2_0 e_a2_1 e_a2_2 e_a2_3 e_a2_4).map Value.int) (.int (0 : Int32)) := own_setL Vo706 hl680 W706 sd706
                                            have N706 := Fr.snoc X706 Nc702 g_b435
                                            have pre707 : ∀ t, Steps p.tables e below (T706.setTop (mkF m 249 #[.val (.ref a1), .val (.ref a2), .val (.ref a3), .val (.ref a4), .val (.ref a5), .val (.ref b435), .val (.int (5 : Int32)), .val (.int (5 : Int32)), .val (.int (5 : Int32)), .val (.int e_a2_4)] [])) t → Steps p.tables e below (s₁.setTop (entryFrame m #[(.ref a1), (.ref a2), (.ref a3), (.ref a4), (.ref a5)] 10)) t := fun t kt => by
                                              refine pre681 t ?_
                                              show Steps p.tables e below (T680.setTop (mkF m 249 #[.val (.ref a1), .val (.ref a2), .val (.ref a3), .val (.ref a4), .val (.ref a5), .val (.ref b435), .val (.int (4 : Int32)), .val (.int (5 : Int32)), .val (.int (5 : Int32)), .val (.int e_a2_4)] [])) _
                                              refine XS.iload Xc702.here hx rfl (hb hby d2_249) rfl ?_
                                              show Steps p.tables e below (T680.setTop (mkF m 251 #[.val (.ref a1), .val (.ref a2), .val (.ref a3), .val (.ref a4), .val (.ref a5), .val (.ref b435), .val (.int (4 : Int32)), .val (.int (5 : Int32)), .val (.int (5 : Int32)), .val (.int e_a2_4)] [(.int (4 : Int32))])) _
                                              refine XS.aloadN Xc702.here hx rfl (hb hby d2_251) rfl rfl ?_
                                              show Steps p.tables e below (T680.setTop (mkF m 252 #[.val (.ref a1), .val (.ref a2), .val (.ref a3), .val (.ref a4), .val (.ref a5), .val (.ref b435), .val (.int (4 : Int32)), .val (.int (5 : Int32)), .val (.int (5 : Int32)), .val (.int e_a2_4)] [(.ref a1), (.int (4 : Int32))])) _
                                              refine st703 _ ?_
                                              show Steps p.tables e below (T703.setTop (mkF m 255 #[.val (.ref a1), .val (.ref a2), .val (.ref a3), .val (.ref a4), .val (.ref a5), .val (.ref b435), .val (.int (4 : Int32)), .val (.int (5 : Int32)), .val (.int (5 : Int32)), .val (.int e_a2_4)] [(.int (5 : Int32)), (.int (4 : Int32))])) _
                                              refine XS.icmpNo X703.here hx rfl (hb hby d2_255) rfl (tlt (by decide : (4 : Int32) < (5 : Int32))).2.1 ?_
                                              show Steps p.tables e below (T703.setTop (mkF m 258 #[.val (.ref a1), .val (.ref a2), .val (.ref a3), .val (.ref a4), .val (.ref a5), .val (.ref b435), .val (.int (4 : Int32)), .val (.int (5 : Int32)), .val (.int (5 : Int32)), .val (.int e_a2_4)] [])) _
                                              refine XS.aload X703.here hx rfl (hb hby d2_258) rfl rfl ?_
                                              show Steps p.tables e below (T703.setTop (mkF m 260 #[.val (.ref a1), .val (.ref a2), .val (.ref a3), .val (.ref a4), .val (.ref a5), .val (.ref b435), .val (.int (4 : Int32)), .val (.int (5 : Int32)), .val (.int (5 : Int32)), .val (.int e_a2_4)] [(.ref b435)])) _
                                              refine XS.iload X703.here hx rfl (hb hby d2_260) rfl ?_
                                              show Steps p.tables e below (T703.setTop (mkF m 262 #[.val (.ref a1), .val (.ref a2), .val (.ref a3), .val (.ref a4), .val (.ref a5), .val (.ref b435), .val (.int (4 : Int32)), .val (.int (5 : Int32)), .val (.int (5 : Int32)), .val (.int e_a2_4)] [(.int (4 : Int32)), (.ref b435)])) _
                                              refine XS.iconst X703.here hx rfl (hb hby d2_262) ?_
                                              show Steps p.tables e below (T703.setTop (mkF m 263 #[.val (.ref a1), .val (.ref a2), .val (.ref a3), .val (.ref a4), .val (.ref a5), .val (.ref b435), .val (.int (4 : Int32)), .val (.int (5 : Int32)), .val (.int (5 : Int32)), .val (.int e_a2_4)] [(.int (1 : Int32)), (.int (4 : Int32)), (.ref b435)])) _
                                              refine XS.iadd X703.here hx rfl (hb hby d2_263) rfl ?_
                                              show Steps p.tables e below (T703.setTop (mkF m 264 #[.val (.ref a1), .val (.ref a2), .val (.ref a3), .val (.ref a4), .val (.ref a5), .val (.ref b435), .val (.int (4 : Int32)), .val (.int (5 : Int32)), .val (.int (5 : Int32)), .val (.int e_a2_4)] [(.int (5 : Int32)), (.ref b435)])) _
                                              refine XT.dup2 X703.here hx rfl (hb hby d2_264) rfl rfl rfl ?_
                                              show Steps p.tables e below (T703.setTop (mkF m 265 #[.val (.ref a1), .val (.ref a2), .val (.ref a3), .val (.ref a4), .val (.ref a5), .val (.ref b435), .val (.int (4 : Int32)), .val (.int (5 : Int32)), .val (.int (5 : Int32)), .val (.int e_a2_4)] [(.int (5 : Int32)), (.ref b435), (.int (5 : Int32)), (.ref b435)])) _
                                              refine X703.iaload hx (j := (5 : Int32)) (v := (.int (own_at (own_L2_8 e_a2_0 e_a2_1 e_a2_2 e_a2_3 e_a2_4) (5 : Int32)))) (by rw [e703]; exact Ar704.1) (State.isArrayOf_alike hZ.alike Ar704.2.1) Ar704.2.2 hin704 hat704 (g := (mkF m 265 #[.val (.ref a1), .val (.ref a2), .val (.ref a3), .val (.ref a4), .val (.ref a5), .val (.ref b435), .val (.int (4 : Int32)), .val (.int (5 : Int32)), .val (.int (5 : Int32)), .val (.int e_a2_4)] [(.int (5 : Int32)), (.ref b435), (.int (5 : Int32)), (.ref b435)])) rfl rfl (hb hby d2_265) _ ?_
                                              show Steps p.tables e below (T703.setTop (mkF m 266 #[.val (.ref a1), .val (.ref a2), .val (.ref a3), .val (.ref a4), .val (.ref a5), .val (.ref b435), .val (.int (4 : Int32)), .val (.int (5 : Int32)), .val (.int (5 : Int32)), .val (.int e_a2_4)] [(.int (own_at (own_L2_8 e_a2_0 e_a2_1 e_a2_2 e_a2_3 e_a2_4) (5 : Int32))), (.int (5 : Int32)), (.ref b435)])) _
                                              refine XS.aload X703.here hx rfl (hb hby d2_266) rfl rfl ?_
                                              show Steps p.tables e below (T703.setTop (mkF m 268 #[.val (.ref a1), .val (.ref a2), .val (.ref a3), .val (.ref a4), .val (.ref a5), .val (.ref b435), .val (.int (4 : Int32)), .val (.int (5 : Int32)), .val (.int (5 : Int32)), .val (.int e_a2_4)] [(.ref b435), (.int (own_at (own_L2_8 e_a2_0 e_a2_1 e_a2_2 e_a2_3 e_a2_4) (5 : Int32))), (.int (5 : Int32)), (.ref b435)])) _
                                              refine XS.iload X703.here hx rfl (hb hby d2_268) rfl ?_
                                              show Steps p.tables e below (T703.setTop (mkF m 270 #[.val (.ref a1), .val (.ref a2), .val (.ref a3), .val (.ref a4), .val (.ref a5), .val (.ref b435), .val (.int (4 : Int32)), .val (.int (5 : Int32)), .val (.int (5 : Int32)), .val (.int e_a2_4)] [(.int (4 : Int32)), (.ref b435), (.int (own_at (own_L2_8 e_a2_0 e_a2_1 e_a2_2 e_a2_3 e_a2_4) (5 : Int32))), (.int (5 : Int32)), (.ref b435)])) _
                                              refine X703.iaload hx (j := (4 : Int32)) (v := (.int (own_at (own_L2_8 e_a2_0 e_a2_1 e_a2_2 e_a2_3 e_a2_4) (4 : Int32)))) (by rw [e703]; exact Ar705.1) (State.isArrayOf_alike hZ.alike Ar705.2.1) Ar705.2.2 hin705 hat705 (g := (mkF m 270 #[.val (.ref a1), .val (.ref a2), .val (.ref a3), .val (.ref a4), .val (.ref a5), .val (.ref b435), .val (.int (4 : Int32)), .val (.int (5 : Int32)), .val (.int (5 : Int32)), .val (.int e_a2_4)] [(.int (4 : Int32)), (.ref b435), (.int (own_at (own_L2_8 e_a2_0 e_a2_1 e_a2_2 e_a2_3 e_a2_4) (5 : Int32))), (.int (5 : Int32)), (.ref b435)])) rfl rfl (hb hby d2_270) _ ?_
                                              show Steps p.tables e below (T703.setTop (mkF m 271 #[.val (.ref a1), .val (.ref a2), .val (.ref a3), .val (.ref a4), .val (.ref a5), .val (.ref b435), .val (.int (4 : Int32)), .val (.int (5 : Int32)), .val (.int (5 : Int32)), .val (.int e_a2_4)] [(.int (own_at (own_L2_8 e_a2_0 e_a2_1 e_a2_2 e_a2_3 e_a2_4) (4 : Int32))), (.int (own_at (own_L2_8 e_a2_0 e_a2_1 e_a2_2 e_a2_3 e_a2_4) (5 : Int32))), (.int (5 : Int32)), (.ref b435)])) _
                                              refine XS.iadd X703.here hx rfl (hb hby d2_271) rfl ?_
                                              show Steps p.tables e below (T703.setTop (mkF m 272 #[.val (.ref a1), .val (.ref a2), .val (.ref a3), .val (.ref a4), .val (.ref a5), .val (.ref b435), .val (.int (4 : Int32)), .val (.int (5 : Int32)), .val (.int (5 : Int32)), .val (.int e_a2_4)] [(.int ((own_at (own_L2_8 e_a2_0 e_a2_1 e_a2_2 e_a2_3 e_a2_4) (5 : Int32)) + (own_at (own_L2_8 e_a2_0 e_a2_1 e_a2_2 e_a2_3 e_a2_4) (4 : Int32)))), (.int (5 : Int32)), (.ref b435)])) _
                                              refine st706 _ ?_
                                              show Steps p.tables e below (T706.setTop (mkF m 273 #[.val (.ref a1), .val (.ref a2), .val (.ref a3), .val (.ref a4), .val (.ref a5), .val (.ref b435), .val (.int (4 : Int32)), .val (.int (5 : Int32)), .val (.int (5 : Int32)), .val (.int e_a2_4)] [])) _
                                              refine XS.iinc X706.here hx rfl (hb hby d2_273) rfl (l' := #[.val (.ref a1), .val (.ref a2), .val (.ref a3), .val (.ref a4), .val (.ref a5), .val (.ref b435), .val (.int (5 : Int32)), .val (.int (5 : Int32)), .val (.int (5 : Int32)), .val (.int e_a2_4)]) rfl ?_
                                              show Steps p.tables e below (T706.setTop (mkF m 276 #[.val (.ref a1), .val (.ref a2), .val (.ref a3), .val (.ref a4), .val (.ref a5), .val (.ref b435), .val (.int (5 : Int32)), .val (.int (5 : Int32)), .val (.int (5 : Int32)), .val (.int e_a2_4)] [])) _
                                              refine XS.goto X706.here hx rfl (pc0 := 276) (pc' := 249) rfl (hb hby d2_276) (by decide) (by decide) ?_
                                              exact kt
                                            have fq708 := (Exa.wr W706 fq682)
                                            have fq709 := (Fld.other W706 fq683 (Or.inl ne_a1_b435))
                                            have fq710 := (Fld.other W706 fq684 (Or.inl ne_a1_b435))
                                            have fq711 := (Fld.other W706 fq685 (Or.inl ne_a1_b435))
                                            have fq712 := (Fld.other W706 fq686 (Or.inl ne_a1_b435))
                                            have fq713 := (Fld.other W706 fq687 (Or.inl ne_a1_b435))
                                            have fq714 := (Fld.other W706 fq688 (Or.inl ne_a1_b435))
                                            have fq715 := (Fld.other W706 fq689 (Or.inl ne_a1_b435))
                                            have fq716 := (Fld.other W706 fq690 (Or.inl ne_a1_b435))
                                            have fq717 := (Fld.other W706 fq691 (Or.inl ne_a1_b435))
                                            have fq718 := (Fld.other W706 fq692 (Or.inl ne_a1_b435))
                                            have fq719 := (fq693.other W706 ne_a2_b435)
                                            have fq720 := (fq694.other W706 ne_a4_b435)
                                            have fq721 := (fq695.other W706 ne_b41_b435)
                                            have fq722 := (fq696.other W706 ne_b47_b435)
                                            have fq723 := (fq697.other W706 ne_b85_b435)
                                            have fq724 := (fq698.other W706 ne_b91_b435)
                                            have fq725 := (fq699.other W706 ne_b133_b435)
                                            have fq726 := (fq700.other W706 ne_b139_b435)
                                            have z727 : n0 ≤ h706.size := (Nat.le_trans z701 (Keep.of_wr W706).1)
                                            obtain ⟨Lc728, Xc728, Nc728⟩ : ∃ L, Stand p l e ({ frames := 1, cells := 18, slots := 86, locals := 13 } : Room) s m #[(.ref a1), (.ref a2), (.ref a3), (.ref a4), (.ref a5)] below meth c T706 L 18 86 ∧ Fr n0 L := ⟨_, X706, N706⟩
                                            clear e680 hl680 V680 pre681 fq682 fq683 fq684 fq685 fq686 fq687 fq688 fq689 fq690 fq691 fq692 fq693 fq694 fq695 fq696 fq697 fq698 fq699 fq700 z701 Xc702 Nc702 X703 e703 st703 Ar704 aq704 S704 M704 H704 G704 hin704 hat704 Ar705 aq705 S705 M705 H705 G705 hin705 hat705 sd706 Vo706 Ar706 aq706 S706 M706 H706 G706 X706 W706 st706 N706
                                            try clear cl706
                                            try clear cl705
                                            try clear cl704
                                            try clear T703
                                            try clear Lc702
                                            try clear h680
                                            try clear T680
                                            as_aux_lemma =>
                                              obtain ⟨T729, X729, e729, st729⟩ := getF Xc728 hx hZ hown (host := "") (Or.inl hw15) Via.refl e706 fq712 (g := (mkF m 252 #[.val (.ref a1), .val (.ref a2), .val (.ref a3), .val (.ref a4), .val (.ref a5), .val (.ref b435), .val (.int (5 : Int32)), .val (.int (5 : Int32)), .val (.int (5 : Int32)), .val (.int e_a2_4)] [(.ref a1), (.int (5 : Int32))])) rfl rfl (hb hby d2_252)
                                              have pre730 : ∀ t, Steps p.tables e below (T729.setTop (mkF m 282 #[.val (.ref a1), .val (.ref a2), .val (.ref a3), .val (.ref a4), .val (.ref a5), .val (.ref b435), .val (.int (0 : Int32)), .val (.int (5 : Int32)), .val (.int (5 : Int32)), .val (.int e_a2_4)] [])) t → Steps p.tables e below (s₁.setTop (entryFrame m #[(.ref a1), (.ref a2), (.ref a3), (.ref a4), (.ref a5)] 10)) t := fun t kt => by
                                                refine pre707 t ?_
                                                show Steps p.tables e below (T706.setTop (mkF m 249 #[.val (.ref a1), .val (.ref a2), .val (.ref a3), .val (.ref a4), .val (.ref a5), .val (.ref b435), .val (.int (5 : Int32)), .val (.int (5 : Int32)), .val (.int (5 : Int32)), .val (.int e_a2_4)] [])) _
                                                refine XS.iload Xc728.here hx rfl (hb hby d2_249) rfl ?_
                                                show Steps p.tables e below (T706.setTop (mkF m 251 #[.val (.ref a1), .val (.ref a2), .val (.ref a3), .val (.ref a4), .val (.ref a5), .val (.ref b435), .val (.int (5 : Int32)), .val (.int (5 : Int32)), .val (.int (5 : Int32)), .val (.int e_a2_4)] [(.int (5 : Int32))])) _
                                                refine XS.aloadN Xc728.here hx rfl (hb hby d2_251) rfl rfl ?_
                                                show Steps p.tables e below (T706.setTop (mkF m 252 #[.val (.ref a1), .val (.ref a2), .val (.ref a3), .val (.ref a4), .val (.ref a5), .val (.ref b435), .val (.int (5 : Int32)), .val (.int (5 : Int32)), .val (.int (5 : Int32)), .val (.int e_a2_4)] [(.ref a1), (.int (5 : Int32))])) _
                                                refine st729 _ ?_
                                                show Steps p.tables e below (T729.setTop (mkF m 255 #[.val (.ref a1), .val (.ref a2), .val (.ref a3), .val (.ref a4), .val (.ref a5), .val (.ref b435), .val (.int (5 : Int32)), .val (.int (5 : Int32)), .val (.int (5 : Int32)), .val (.int e_a2_4)] [(.int (5 : Int32)), (.int (5 : Int32))])) _
                                                refine XS.icmpYes X729.here hx rfl (pc0 := 255) (pc' := 279) rfl (hb hby d2_255) rfl (flt (by decide : ¬ ((5 : Int32) < (5 : Int32)))).2.1 (by decide) (by decide) ?_
                                                show Steps p.tables e below (T729.setTop (mkF m 279 #[.val (.ref a1), .val (.ref a2), .val (.ref a3), .val (.ref a4), .val (.ref a5), .val (.ref b435), .val (.int (5 : Int32)), .val (.int (5 : Int32)), .val (.int (5 : Int32)), .val (.int e_a2_4)] [])) _
                                                refine XS.iconst X729.here hx rfl (hb hby d2_279) ?_
                                                show Steps p.tables e below (T729.setTop (mkF m 280 #[.val (.ref a1), .val (.ref a2), .val (.ref a3), .val (.ref a4), .val (.ref a5), .val (.ref b435), .val (.int (5 : Int32)), .val (.int (5 : Int32)), .val (.int (5 : Int32)), .val (.int e_a2_4)] [(.int (0 : Int32))])) _
                                                refine XS.istore X729.here hx rfl (hb hby d2_280) rfl (l' := #[.val (.ref a1), .val (.ref a2), .val (.ref a3), .val (.ref a4), .val (.ref a5), .val (.ref b435), .val (.int (0 : Int32)), .val (.int (5 : Int32)), .val (.int (5 : Int32)), .val (.int e_a2_4)]) rfl ?_
                                                exact kt
                                              obtain ⟨Lc731, Xc731, Nc731⟩ : ∃ L, Stand p l e ({ frames := 1, cells := 18, slots := 86, locals := 13 } : Room) s m #[(.ref a1), (.ref a2), (.ref a3), (.ref a4), (.ref a5)] below meth c T729 L 18 86 ∧ Fr n0 L := ⟨_, X729, Nc728⟩
                                              clear e706 pre707 Xc728 Nc728 X729 st729
                                              try clear Lc728
                                              try clear T706
                                              as_aux_lemma =>
                                                obtain ⟨T732, X732, e732, st732⟩ := getF Xc731 hx hZ hown (host := "") (Or.inl hw15) Via.refl e729 fq712 (g := (mkF m 285 #[.val (.ref a1), .val (.ref a2), .val (.ref a3), .val (.ref a4), .val (.ref a5), .val (.ref b435), .val (.int (0 : Int32)), .val (.int (5 : Int32)), .val (.int (5 : Int32)), .val (.int e_a2_4)] [(.ref a1), (.int (0 : Int32))])) rfl rfl (hb hby d2_285)
                                                obtain ⟨cl733, Ar733, aq733, S733, M733, H733, G733⟩ := id fq719
                                                have hin733 : ¬ ((0 : Int32) < 0 ∨ cl733.slots.size ≤ ((0 : Int32)).toNatClampNeg) := inb_of S733 ⟨by decide, by decide⟩
                                                have hat733 : cl733.slots[((0 : Int32)).toNatClampNeg]? = some (.int e_a2_0) := Has.at H733 hin733 rfl
                                                obtain ⟨cl734, Ar734, aq734, S734, M734, H734, G734⟩ := id V706
                                                have hin734 : ¬ (e_a2_0 < 0 ∨ cl734.slots.size ≤ (e_a2_0).toNatClampNeg) := inb_of S734 (side_2_298_734 e_a2_0 e_a2_1 e_a2_2 e_a2_3 e_a2_4 hC)
                                                have hat734 : cl734.slots[(e_a2_0).toNatClampNeg]? = some (.int (own_at (own_L2_9 e_a2_0 e_a2_1 e_a2_2 e_a2_3 e_a2_4) e_a2_0)) := Has.at H734 hin734 (own_getD (own_L2_9 e_a2_0 e_a2_1 e_a2_2 e_a2_3 e_a2_4) (e_a2_0).toNatClampNeg)
                                                have sd735 : ¬ (e_a2_0 < 0) ∧ e_a2_0 < (6 : Int32) := (side_2_302_735 e_a2_0 e_a2_1 e_a2_2 e_a2_3 e_a2_4 hC)
                                                have Vo735 : Arv Z h706 b435 k435 .int (6 : Int32) ((own_L2_9 e_a2_0 e_a2_1 e_a2_2 e_a2_3 e_a2_4).map Value.int) (.int (0 : Int32)) := V706
                                                obtain ⟨cl735, Ar735, aq735, S735, M735, H735, G735⟩ := id V706
                                                obtain ⟨T735, h735, X735, e735, W735, st735⟩ := stI X732 hx hZ e732 Ar735 (j := e_a2_0) (inb_of S735 sd735) (g := (mkF m 302 #[.val (.ref a1), .val (.ref a2), .val (.ref a3), .val (.ref a4), .val (.ref a5), .val (.ref b435), .val (.int (0 : Int32)), .val (.int (5 : Int32)), .val (.int (5 : Int32)), .val (.int e_a2_4)] [(.int ((own_at (own_L2_9 e_a2_0 e_a2_1 e_a2_2 e_a2_3 e_a2_4) e_a2_0) + (1 : Int32))), (.int e_a2_0), (.ref b435), (.int (own_at (own_L2_9 e_a2_0 e_a2_1 e_a2_2 e_a2_3 e_a2_4) e_a2_0))])) rfl rfl (hb hby d2_302)
                                                have hl735 : (own_L2_10 e_a2_0 e_a2_1 e_a2_2 e_a2_3 e_a2_4).length = 6 := (List.length_set ..).trans hl706
                                                have V735 : Arv Z h735 b435 k435 .int (6 : Int32) ((own_L2_10 e_a2_0 e_a2_1 e_a2_2 e_a2_3 e_a2_4).map Value.int) (.int (0 : Int32)) := own_setL Vo735 hl706 W735 sd735
                                                have N735 := Fr.snoc X735 Nc731 g_b435
                                                have fq736 := (Fld.other W735 fq713 (Or.inl ne_a1_b435))
                                                obtain ⟨T737, X737, e737, st737⟩ := getF X735 hx hZ hown (host := "") (Or.inl hw23) Via.refl e735 fq736 (g := (mkF m 306 #[.val (.ref a1), .val (.ref a2), .val (.ref a3), .val (.ref a4), .val (.ref a5), .val (.ref b435), .val (.int (0 : Int32)), .val (.int (own_at (own_L2_9 e_a2_0 e_a2_1 e_a2_2 e_a2_3 e_a2_4) e_a2_0)), .val (.int (5 : Int32)), .val (.int e_a2_4)] [(.ref a1)])) rfl rfl (hb hby d2_306)
                                                have fq738 := (fq721.other W735 ne_b41_b435)
                                                have sd739 : ¬ ((own_at (own_L2_9 e_a2_0 e_a2_1 e_a2_2 e_a2_3 e_a2_4) e_a2_0) < 0) ∧ (own_at (own_L2_9 e_a2_0 e_a2_1 e_a2_2 e_a2_3 e_a2_4) e_a2_0) < (5 : Int32) := (side_2_313_739 e_a2_0 e_a2_1 e_a2_2 e_a2_3 e_a2_4 hC)
                                                have Vo739 : Arv Z h735 b41 k41 .int (5 : Int32) (([(0 : Int32), (0 : Int32), (0 : Int32), (0 : Int32), (0 : Int32)] : List Int32).map Value.int) (.int (0 : Int32)) := fq738
                                                obtain ⟨cl739, Ar739, aq739, S739, M739, H739, G739⟩ := id fq738
                                                obtain ⟨T739, h739, X739, e739, W739, st739⟩ := stI X737 hx hZ e737 Ar739 (j := (own_at (own_L2_9 e_a2_0 e_a2_1 e_a2_2 e_a2_3 e_a2_4) e_a2_0)) (inb_of S739 sd739) (g := (mkF m 313 #[.val (.ref a1), .val (.ref a2), .val (.ref a3), .val (.ref a4), .val (.ref a5), .val (.ref b435), .val (.int (0 : Int32)), .val (.int (own_at (own_L2_9 e_a2_0 e_a2_1 e_a2_2 e_a2_3 e_a2_4) e_a2_0)), .val (.int (5 : Int32)), .val (.int e_a2_4)] [(.int (0 : Int32)), (.int (own_at (own_L2_9 e_a2_0 e_a2_1 e_a2_2 e_a2_3 e_a2_4) e_a2_0)), (.ref b41)])) rfl rfl (hb hby d2_313)
                                                have hl739 : (own_L2_11 e_a2_0 e_a2_1 e_a2_2 e_a2_3 e_a2_4).length = 5 := (List.length_set ..).trans rfl
                                                have V739 : Arv Z h739 b41 k41 .int (5 : Int32) ((own_L2_11 e_a2_0 e_a2_1 e_a2_2 e_a2_3 e_a2_4).map Value.int) (.int (0 : Int32)) := own_setL Vo739 rfl W739 sd739
                                                have N739 := Fr.snoc X739 N735 g_b41
                                                have fq740 := (Fld.other W739 (Fld.other W735 fq714 (Or.inl ne_a1_b435)) (Or.inl ne_a1_b41))
                                                obtain ⟨T741, X741, e741, st741⟩ := getF X739 hx hZ hown (host := "") (Or.inl hw25) Via.refl e739 fq740 (g := (mkF m 315 #[.val (.ref a1), .val (.ref a2), .val (.ref a3), .val (.ref a4), .val (.ref a5), .val (.ref b435), .val (.int (0 : Int32)), .val (.int (own_at (own_L2_9 e_a2_0 e_a2_1 e_a2_2 e_a2_3 e_a2_4) e_a2_0)), .val (.int (5 : Int32)), .val (.int e_a2_4)] [(.ref a1)])) rfl rfl (hb hby d2_315)
                                                have fq742 := ((fq722.other W735 ne_b47_b435).other W739 (Ne.symm ne_b41_b47))
                                                obtain ⟨cl743, Ar743, aq743, S743, M743, H743, G743⟩ := id fq742
                                                have hin743 : ¬ ((0 : Int32) < 0 ∨ cl743.slots.size ≤ ((0 : Int32)).toNatClampNeg) := inb_of S743 ⟨by decide, by decide⟩
                                                obtain ⟨T743, h743, X743, e743, W743, st743⟩ := stI X741 hx hZ e741 Ar743 (j := (0 : Int32)) hin743 (g := (mkF m 322 #[.val (.ref a1), .val (.ref a2), .val (.ref a3), .val (.ref a4), .val (.ref a5), .val (.ref b435), .val (.int (0 : Int32)), .val (.int (own_at (own_L2_9 e_a2_0 e_a2_1 e_a2_2 e_a2_3 e_a2_4) e_a2_0)), .val (.int (5 : Int32)), .val (.int e_a2_4)] [(.int (own_at (own_L2_9 e_a2_0 e_a2_1 e_a2_2 e_a2_3 e_a2_4) e_a2_0)), (.int (0 : Int32)), (.ref b47)])) rfl rfl (hb hby d2_322)
                                                have V743 : Arv Z h743 b47 k47 .int (5 : Int32) [(.int (own_at (own_L2_9 e_a2_0 e_a2_1 e_a2_2 e_a2_3 e_a2_4) e_a2_0)), (.int (0 : Int32)), (.int (0 : Int32)), (.int (0 : Int32)), (.int (0 : Int32))] (.int (0 : Int32)) := Arv.set Ar743 aq743 S743 M743 H743 G743 rfl W743 0 rfl (Nat.le_of_ble_eq_true rfl)
                                                have N743 := Fr.snoc X743 N739 g_b47
                                                have pre744 : ∀ t, Steps p.tables e below (T743.setTop (mkF m 282 #[.val (.ref a1), .val (.ref a2), .val (.ref a3), .val (.ref a4), .val (.ref a5), .val (.ref b435), .val (.int (1 : Int32)), .val (.int (own_at (own_L2_9 e_a2_0 e_a2_1 e_a2_2 e_a2_3 e_a2_4) e_a2_0)), .val (.int (5 : Int32)), .val (.int e_a2_4)] [])) t → Steps p.tables e below (s₁.setTop (entryFrame m #[(.ref a1), (.ref a2), (.ref a3), (.ref a4), (.ref a5)] 10)) t := fun t kt => by
                                                  refine pre730 t ?_
                                                  show Steps p.tables e below (T729.setTop (mkF m 282 #[.val (.ref a1), .val (.ref a2), .val (.ref a3), .val (.ref a4), .val (.ref a5), .val (.ref b435), .val (.int (0 : Int32)), .val (.int (5 : Int32)), .val (.int (5 : Int32)), .val (.int e_a2_4)] [])) _
                                                  refine XS.iload Xc731.here hx rfl (hb hby d2_282) rfl ?_
                                                  show Steps p.tables e below (T729.setTop (mkF m 284 #[.val (.ref a1), .val (.ref a2), .val (.ref a3), .val (.ref a4), .val (.ref a5), .val (.ref b435), .val (.int (0 : Int32)), .val (.int (5 : Int32)), .val (.int (5 : Int32)), .val (.int e_a2_4)] [(.int (0 : Int32))])) _
                                                  refine XS.aloadN Xc731.here hx rfl (hb hby d2_284) rfl rfl ?_
                                                  show Steps p.tables e below (T729.setTop (mkF m 285 #[.val (.ref a1), .val (.ref a2), .val (.ref a3), .val (.ref a4), .val (.ref a5), .val (.ref b435), .val (.int (0 : Int32)), .val (.int (5 : Int32)), .val (.int (5 : Int32)), .val (.int e_a2_4)] [(.ref a1), (.int (0 : Int32))])) _
                                                  refine st732 _ ?_
                                                  show Steps p.tables e below (T732.setTop (mkF m 288 #[.val (.ref a1), .val (.ref a2), .val (.ref a3), .val (.ref a4), .val (.ref a5), .val (.ref b435), .val (.int (0 : Int32)), .val (.int (5 : Int32)), .val (.int (5 : Int32)), .val (.int e_a2_4)] [(.int (5 : Int32)), (.int (0 : Int32))])) _
                                                  refine XS.icmpNo X732.here hx rfl (hb hby d2_288) rfl (tlt (by decide : (0 : Int32) < (5 : Int32))).2.1 ?_
                                                  show Steps p.tables e below (T732.setTop (mkF m 291 #[.val (.ref a1), .val (.ref a2), .val (.ref a3), .val (.ref a4), .val (.ref a5), .val (.ref b435), .val (.int (0 : Int32)), .val (.int (5 : Int32)), .val (.int (5 : Int32)), .val (.int e_a2_4)] [])) _
                                                  refine XS.aload X732.here hx rfl (hb hby d2_291) rfl rfl ?_
                                                  show Steps p.tables e below (T732.setTop (mkF m 293 #[.val (.ref a1), .val (.ref a2), .val (.ref a3), .val (.ref a4), .val (.ref a5), .val (.ref b435), .val (.int (0 : Int32)), .val (.int (5 : Int32)), .val (.int (5 : Int32)), .val (.int e_a2_4)] [(.ref b435)])) _
                                                  refine XS.aloadN X732.here hx rfl (hb hby d2_293) rfl rfl ?_
                                                  show Steps p.tables e below (T732.setTop (mkF m 294 #[.val (.ref a1), .val (.ref a2), .val (.ref a3), .val (.ref a4), .val (.ref a5), .val (.ref b435), .val (.int (0 : Int32)), .val (.int (5 : Int32)), .val (.int (5 : Int32)), .val (.int e_a2_4)] [(.ref a2), (.ref b435)])) _
                                                  refine XS.iload X732.here hx rfl (hb hby d2_294) rfl ?_
                                                  show Steps p.tables e below (T732.setTop (mkF m 296 #[.val (.ref a1), .val (.ref a2), .val (.ref a3), .val (.ref a4), .val (.ref a5), .val (.ref b435), .val (.int (0 : Int32)), .val (.int (5 : Int32)), .val (.int (5 : Int32)), .val (.int e_a2_4)] [(.int (0 : Int32)), (.ref a2), (.ref b435)])) _
                                                  refine X732.iaload hx (j := (0 : Int32)) (v := (.int e_a2_0)) (by rw [e732]; exact Ar733.1) (State.isArrayOf_alike hZ.alike Ar733.2.1) Ar733.2.2 hin733 hat733 (g := (mkF m 296 #[.val (.ref a1), .val (.ref a2), .val (.ref a3), .val (.ref a4), .val (.ref a5), .val (.ref b435), .val (.int (0 : Int32)), .val (.int (5 : Int32)), .val (.int (5 : Int32)), .val (.int e_a2_4)] [(.int (0 : Int32)), (.ref a2), (.ref b435)])) rfl rfl (hb hby d2_296) _ ?_
                                                  show Steps p.tables e below (T732.setTop (mkF m 297 #[.val (.ref a1), .val (.ref a2), .val (.ref a3), .val (.ref a4), .val (.ref a5), .val (.ref b435), .val (.int (0 : Int32)), .val (.int (5 : Int32)), .val (.int (5 : Int32)), .val (.int e_a2_4)] [(.int e_a2_0), (.ref b435)])) _
                                                  refine XT.dup2 X732.here hx rfl (hb hby d2_297) rfl rfl rfl ?_
                                                  show Steps p.tables e below (T732.setTop (mkF m 298 #[.val (.ref a1), .val (.ref a2), .val (.ref a3), .val (.ref a4), .val (.ref a5), .val (.ref b435), .val (.int (0 : Int32)), .val (.int (5 : Int32)), .val (.int (5 : Int32)), .val (.int e_a2_4)] [(.int e_a2_0), (.ref b435), (.int e_a2_0), (.ref b435)])) _
                                                  refine X732.iaload hx (j := e_a2_0) (v := (.int (own_at (own_L2_9 e_a2_0 e_a2_1 e_a2_2 e_a2_3 e_a2_4) e_a2_0))) (by rw [e732]; exact Ar734.1) (State.isArrayOf_alike hZ.alike Ar734.2.1) Ar734.2.2 hin734 hat734 (g := (mkF m 298 #[.val (.ref a1), .val (.ref a2), .val (.ref a3), .val (.ref a4), .val (.ref a5), .val (.ref b435), .val (.int (0 : Int32)), .val (.int (5 : Int32)), .val (.int (5 : Int32)), .val (.int e_a2_4)] [(.int e_a2_0), (.ref b435), (.int e_a2_0), (.ref b435)])) rfl rfl (hb hby d2_298) _ ?_
                                                  show Steps p.tables e below (T732.setTop (mkF m 299 #[.val (.ref a1), .val (.ref a2), .val (.ref a3), .val (.ref a4), .val (.ref a5), .val (.ref b435), .val (.int (0 : Int32)), .val (.int (5 : Int32)), .val (.int (5 : Int32)), .val (.int e_a2_4)] [(.int (own_at (own_L2_9 e_a2_0 e_a2_1 e_a2_2 e_a2_3 e_a2_4) e_a2_0)), (.int e_a2_0), (.ref b435)])) _
                                                  jvm_step X732.here [X732.here.top, hx, (hb hby d2_299), Value.category]
                                                  show Steps p.tables e below (T732.setTop (mkF m 300 #[.val (.ref a1), .val (.ref a2), .val (.ref a3), .val (.ref a4), .val (.ref a5), .val (.ref b435), .val (.int (0 : Int32)), .val (.int (5 : Int32)), .val (.int (5 : Int32)), .val (.int e_a2_4)] [(.int (own_at (own_L2_9 e_a2_0 e_a2_1 e_a2_2 e_a2_3 e_a2_4) e_a2_0)), (.int e_a2_0), (.ref b435), (.int (own_at (own_L2_9 e_a2_0 e_a2_1 e_a2_2 e_a2_3 e_a2_4) e_a2_0))])) _
                                                  refine XS.iconst X732.here hx rfl (hb hby d2_300) ?_
                                                  show Steps p.tables e below (T732.setTop (mkF m 301 #[.val (.ref a1), .val (.ref a2), .val (.ref a3), .val (.ref a4), .val (.ref a5), .val (.ref b435), .val (.int (0 : Int32)), .val (.int (5 : Int32)), .val (.int (5 : Int32)), .val (.int e_a2_4)] [(.int (1 : Int32)), (.int (own_at (own_L2_9 e_a2_0 e_a2_1 e_a2_2 e_a2_3 e_a2_4) e_a2_0)), (.int e_a2_0), (.ref b435), (.int (own_at (own_L2_9 e_a2_0 e_a2_1 e_a2_2 e_a2_3 e_a2_4) e_a2_0))])) _
                                                  refine XS.iadd X732.here hx rfl (hb hby d2_301) rfl ?_
                                                  show Steps p.tables e below (T732.setTop (mkF m 302 #[.val (.ref a1), .val (.ref a2), .val (.ref a3), .val (.ref a4), .val (.ref a5), .val (.ref b435), .val (.int (0 : Int32)), .val (.int (5 : Int32)), .val (.int (5 : Int32)), .val (.int e_a2_4)] [(.int ((own_at (own_L2_9 e_a2_0 e_a2_1 e_a2_2 e_a2_3 e_a2_4) e_a2_0) + (1 : Int32))), (.int e_a2_0), (.ref b435), (.int (own_at (own_L2_9 e_a2_0 e_a2_1 e_a2_2 e_a2_3 e_a2_4) e_a2_0))])) _
                                                  refine st735 _ ?_
                                                  show Steps p.tables e below (T735.setTop (mkF m 303 #[.val (.ref a1), .val (.ref a2), .val (.ref a3), .val (.ref a4), .val (.ref a5), .val (.ref b435), .val (.int (0 : Int32)), .val (.int (5 : Int32)), .val (.int (5 : Int32)), .val (.int e_a2_4)] [(.int (own_at (own_L2_9 e_a2_0 e_a2_1 e_a2_2 e_a2_3 e_a2_4) e_a2_0))])) _
                                                  refine XS.istore X735.here hx rfl (hb hby d2_303) rfl (l' := #[.val (.ref a1), .val (.ref a2), .val (.ref a3), .val (.ref a4), .val (.ref a5), .val (.ref b435), .val (.int (0 : Int32)), .val (.int (own_at (own_L2_9 e_a2_0 e_a2_1 e_a2_2 e_a2_3 e_a2_4) e_a2_0)), .val (.int (5 : Int32)), .val (.int e_a2_4)]) rfl ?_
                                                  show Steps p.tables e below (T735.setTop (mkF m 305 #[.val (.ref a1), .val (.ref a2), .val (.ref a3), .val (.ref a4), .val (.ref a5), .val (.ref b435), .val (.int (0 : Int32)), .val (.int (own_at (own_L2_9 e_a2_0 e_a2_1 e_a2_2 e_a2_3 e_a2_4) e_a2_0)), .val (.int (5 : Int32)), .val (.int e_a2_4)] [])) _
                                                  refine XS.aloadN X735.here hx rfl (hb hby d2_305) rfl rfl ?_
                                                  show Steps p.tables e below (T735.setTop (mkF m 306 #[.val (.ref a1), .val (.ref a2), .val (.ref a3), .val (.ref a4), .val (.ref a5), .val (.ref b435), .val (.int (0 : Int32)), .val (.int (own_at (own_L2_9 e_a2_0 e_a2_1 e_a2_2 e_a2_3 e_a2_4) e_a2_0)), .val (.int (5 : Int32)), .val (.int e_a2_4)] [(.ref a1)])) _
                                                  refine st737 _ ?_
                                                  show Steps p.tables e below (T737.setTop (mkF m 309 #[.val (.ref a1), .val (.ref a2), .val (.ref a3), .val (.ref a4), .val (.ref a5), .val (.ref b435), .val (.int (0 : Int32)), .val (.int (own_at (own_L2_9 e_a2_0 e_a2_1 e_a2_2 e_a2_3 e_a2_4) e_a2_0)), .val (.int (5 : Int32)), .val (.int e_a2_4)] [(.ref b41)])) _
                                                  refine XS.iload X737.here hx rfl (hb hby d2_309) rfl ?_
                                                  show Steps p.tables e below (T737.setTop (mkF m 311 #[.val (.ref a1), .val (.ref a2), .val (.ref a3), .val (.ref a4), .val (.ref a5), .val (.ref b435), .val (.int (0 : Int32)), .val (.int (own_at (own_L2_9 e_a2_0 e_a2_1 e_a2_2 e_a2_3 e_a2_4) e_a2_0)), .val (.int (5 : Int32)), .val (.int e_a2_4)] [(.int (own_at (own_L2_9 e_a2_0 e_a2_1 e_a2_2 e_a2_3 e_a2_4) e_a2_0)), (.ref b41)])) _
                                                  refine XS.iload X737.here hx rfl (hb hby d2_311) rfl ?_
                                                  show Steps p.tables e below (T737.setTop (mkF m 313 #[.val (.ref a1), .val (.ref a2), .val (.ref a3), .val (.ref a4), .val (.ref a5), .val (.ref b435), .val (.int (0 : Int32)), .val (.int (own_at (own_L2_9 e_a2_0 e_a2_1 e_a2_2 e_a2_3 e_a2_4) e_a2_0)), .val (.int (5 : Int32)), .val (.int e_a2_4)] [(.int (0 : Int32)), (.int (own_at (own_L2_9 e_a2_0 e_a2_1 e_a2_2 e_a2_3 e_a2_4) e_a2_0)), (.ref b41)])) _
                                                  refine st739 _ ?_
                                                  show Steps p.tables e below (T739.setTop (mkF m 314 #[.val (.ref a1), .val (.ref a2), .val (.ref a3), .val (.ref a4), .val (.ref a5), .val (.ref b435), .val (.int (0 : Int32)), .val (.int (own_at (own_L2_9 e_a2_0 e_a2_1 e_a2_2 e_a2_3 e_a2_4) e_a2_0)), .val (.int (5 : Int32)), .val (.int e_a2_4)] [])) _
                                                  refine XS.aloadN X739.here hx rfl (hb hby d2_314) rfl rfl ?_
                                                  show Steps p.tables e below (T739.setTop (mkF m 315 #[.val (.ref a1), .val (.ref a2), .val (.ref a3), .val (.ref a4), .val (.ref a5), .val (.ref b435), .val (.int (0 : Int32)), .val (.int (own_at (own_L2_9 e_a2_0 e_a2_1 e_a2_2 e_a2_3 e_a2_4) e_a2_0)), .val (.int (5 : Int32)), .val (.int e_a2_4)] [(.ref a1)])) _
                                                  refine st741 _ ?_
                                                  show Steps p.tables e below (T741.setTop (mkF m 318 #[.val (.ref a1), .val (.ref a2), .val (.ref a3), .val (.ref a4), .val (.ref a5), .val (.ref b435), .val (.int (0 : Int32)), .val (.int (own_at (own_L2_9 e_a2_0 e_a2_1 e_a2_2 e_a2_3 e_a2_4) e_a2_0)), .val (.int (5 : Int32)), .val (.int e_a2_4)] [(.ref b47)])) _
                                                  refine XS.iload X741.here hx rfl (hb hby d2_318) rfl ?_
                                                  show Steps p.tables e below (T741.setTop (mkF m 320 #[.val (.ref a1), .val (.ref a2), .val (.ref a3), .val (.ref a4), .val (.ref a5), .val (.ref b435), .val (.int (0 : Int32)), .val (.int (own_at (own_L2_9 e_a2_0 e_a2_1 e_a2_2 e_a2_3 e_a2_4) e_a2_0)), .val (.int (5 : Int32)), .val (.int e_a2_4)] [(.int (0 : Int32)), (.ref b47)])) _
                                                  refine XS.iload X741.here hx rfl (hb hby d2_320) rfl ?_
                                                  show Steps p.tables e below (T741.setTop (mkF m 322 #[.val (.ref a1), .val (.ref a2), .val (.ref a3), .val (.ref a4), .val (.ref a5), .val (.ref b435), .val (.int (0 : Int32)), .val (.int (own_at (own_L2_9 e_a2_0 e_a2_1 e_a2_2 e_a2_3 e_a2_4) e_a2_0)), .val (.int (5 : Int32)), .val (.int e_a2_4)] [(.int (own_at (own_L2_9 e_a2_0 e_a2_1 e_a2_2 e_a2_3 e_a2_4) e_a2_0)), (.int (0 : Int32)), (.ref b47)])) _
                                                  refine st743 _ ?_
                                                  show Steps p.tables e below (T743.setTop (mkF m 323 #[.val (.ref a1), .val (.ref a2), .val (.ref a3), .val (.ref a4), .val (.ref a5), .val (.ref b435), .val (.int (0 : Int32)), .val (.int (own_at (own_L2_9 e_a2_0 e_a2_1 e_a2_2 e_a2_3 e_a2_4) e_a2_0)), .val (.int (5 : Int32)), .val (.int e_a2_4)] [])) _
                                                  refine XS.iinc X743.here hx rfl (hb hby d2_323) rfl (l' := #[.val (.ref a1), .val (.ref a2), .val (.ref a3), .val (.ref a4), .val (.ref a5), .val (.ref b435), .val (.int (1 : Int32)), .val (.int (own_at (own_L2_9 e_a2_0 e_a2_1 e_a2_2 e_a2_3 e_a2_4) e_a2_0)), .val (.int (5 : Int32)), .val (.int e_a2_4)]) rfl ?_
                                                  show Steps p.tables e below (T743.setTop (mkF m 326 #[.val (.ref a1), .val (.ref a2), .val (.ref a3), .val (.ref a4), .val (.ref a5), .val (.ref b435), .val (.int (1 : Int32)), .val (.int (own_at (own_L2_9 e_a2_0 e_a2_1 e_a2_2 e_a2_3 e_a2_4) e_a2_0)), .val (.int (5 : Int32)), .val (.int e_a2_4)] [])) _
                                                  refine XS.goto X743.here hx rfl (pc0 := 326) (pc' := 282) rfl (hb hby d2_326) (by decide) (by decide) ?_
                                                  exact kt
                                                have fq745 := (Exa.wr W743 (Exa.wr W739 (Exa.wr W735 fq708)))
                                                have fq746 := (Fld.other W743 (Fld.other W739 (Fld.other W735 fq709 (Or.inl ne_a1_b435)) (Or.inl ne_a1_b41)) (Or.inl ne_a1_b47))
                                                have fq747 := (Fld.other W743 (Fld.other W739 (Fld.other W735 fq710 (Or.inl ne_a1_b435)) (Or.inl ne_a1_b41)) (Or.inl ne_a1_b47))
                                                have fq748 := (Fld.other W743 (Fld.other W739 (Fld.other W735 fq711 (Or.inl ne_a1_b435)) (Or.inl ne_a1_b41)) (Or.inl ne_a1_b47))
                                                have fq749 := (Fld.other W743 (Fld.other W739 (Fld.other W735 fq712 (Or.inl ne_a1_b435)) (Or.inl ne_a1_b41)) (Or.inl ne_a1_b47))
                                                have fq750 := (Fld.other W743 (Fld.other W739 fq736 (Or.inl ne_a1_b41)) (Or.inl ne_a1_b47))
                                                have fq751 := (Fld.other W743 fq740 (Or.inl ne_a1_b47))
                                                have fq752 := (Fld.other W743 (Fld.other W739 (Fld.other W735 fq715 (Or.inl ne_a1_b435)) (Or.inl ne_a1_b41)) (Or.inl ne_a1_b47))
                                                have fq753 := (Fld.other W743 (Fld.other W739 (Fld.other W735 fq716 (Or.inl ne_a1_b435)) (Or.inl ne_a1_b41)) (Or.inl ne_a1_b47))
                                                have fq754 := (Fld.other W743 (Fld.other W739 (Fld.other W735 fq717 (Or.inl ne_a1_b435)) (Or.inl ne_a1_b41)) (Or.inl ne_a1_b47))
                                                have fq755 := (Fld.other W743 (Fld.other W739 (Fld.other W735 fq718 (Or.inl ne_a1_b435)) (Or.inl ne_a1_b41)) (Or.inl ne_a1_b47))
                                                have fq756 := (((fq719.other W735 ne_a2_b435).other W739 ne_a2_b41).other W743 ne_a2_b47)
                                                have fq757 := (((fq720.other W735 ne_a4_b435).other W739 ne_a4_b41).other W743 ne_a4_b47)
                                                have fq758 := (V739.other W743 ne_b41_b47)
                                                have fq759 := (((fq723.other W735 ne_b85_b435).other W739 (Ne.symm ne_b41_b85)).other W743 (Ne.symm ne_b47_b85))
                                                have fq760 := (((fq724.other W735 ne_b91_b435).other W739 (Ne.symm ne_b41_b91)).other W743 (Ne.symm ne_b47_b91))
                                                have fq761 := (((fq725.other W735 ne_b133_b435).other W739 (Ne.symm ne_b41_b133)).other W743 (Ne.symm ne_b47_b133))
                                                have fq762 := (((fq726.other W735 ne_b139_b435).other W739 (Ne.symm ne_b41_b139)).other W743 (Ne.symm ne_b47_b139))
                                                have fq763 := ((V735.other W739 (Ne.symm ne_b41_b435)).other W743 (Ne.symm ne_b47_b435))
                                                have z764 : n0 ≤ h743.size := (Nat.le_trans (Nat.le_trans (Nat.le_trans z727 (Keep.of_wr W735).1) (Keep.of_wr W739).1) (Keep.of_wr W743).1)
                                                obtain ⟨Lc765, Xc765, Nc765⟩ : ∃ L, Stand p l e ({ frames := 1, cells := 18, slots := 86, locals := 13 } : Room) s m #[(.ref a1), (.ref a2), (.ref a3), (.ref a4), (.ref a5)] below meth c T743 L 18 86 ∧ Fr n0 L := ⟨_, X743, N743⟩
                                                clear hl706 V706 fq708 fq709 fq710 fq711 fq712 fq713 fq714 fq715 fq716 fq717 fq718 fq719 fq720 fq721 fq722 fq723 fq724 fq725 fq726 z727 e729 pre730 Xc731 Nc731 X732 e732 st732 Ar733 aq733 S733 M733 H733 G733 hin733 hat733 Ar734 aq734 S734 M734 H734 G734 hin734 hat734 sd735 Vo735 Ar735 aq735 S735 M735 H735 G735 X735 e735 W735 st735 V735 N735 fq736 X737 e737 st737 fq738 sd739 Vo739 Ar739 aq739 S739 M739 H739 G739 X739 e739 W739 st739 V739 N739 fq740 X741 e741 st741 fq742 Ar743 aq743 S743 M743 H743 G743 hin743 X743 W743 st743 N743
                                                try clear cl743
                                                try clear T741
                                                try clear h739
                                                try clear T739
                                                try clear cl739
                                                try clear T737
                                                try clear h735
                                                try clear T735
                                                try clear cl735
                                                try clear cl734
                                                try clear cl733
                                                try clear T732
                                                try clear Lc731
                                                try clear T729
                                                try clear h706
                                                as_aux_lemma =>
                                                  obtain ⟨T766, X766, e766, st766⟩ := getF Xc765 hx hZ hown (host := "") (Or.inl hw15) Via.refl e743 fq749 (g := (mkF m 285 #[.val (.ref a1), .val (.ref a2), .val (.ref a3), .val (.ref a4), .val (.ref a5), .val (.ref b435), .val (.int (1 : Int32)), .val (.int (own_at (own_L2_9 e_a2_0 e_a2_1 e_a2_2 e_a2_3 e_a2_4) e_a2_0)), .val (.int (5 : Int32)), .val (.int e_a2_4)] [(.ref a1), (.int (1 : Int32))])) rfl rfl (hb hby d2_285)
                                                  obtain ⟨cl767, Ar767, aq767, S767, M767, H767, G767⟩ := id fq756
                                                  have hin767 : ¬ ((1 : Int32) < 0 ∨ cl767.slots.size ≤ ((1 : Int32)).toNatClampNeg) := inb_of S767 ⟨by decide, by decide⟩
                                                  have hat767 : cl767.slots[((1 : Int32)).toNatClampNeg]? = some (.int e_a2_1) := Has.at H767 hin767 rfl
                                                  obtain ⟨cl768, Ar768, aq768, S768, M768, H768, G768⟩ := id fq763
                                                  have hin768 : ¬ (e_a2_1 < 0 ∨ cl768.slots.size ≤ (e_a2_1).toNatClampNeg) := inb_of S768 (side_2_298_768 e_a2_0 e_a2_1 e_a2_2 e_a2_3 e_a2_4 hC)
                                                  have hat768 : cl768.slots[(e_a2_1).toNatClampNeg]? = some (.int (own_at (own_L2_10 e_a2_0 e_a2_1 e_a2_2 e_a2_3 e_a2_4) e_a2_1)) := Has.at H768 hin768 (own_getD (own_L2_10 e_a2_0 e_a2_1 e_a2_2 e_a2_3 e_a2_4) (e_a2_1).toNatClampNeg)
                                                  have sd769 : ¬ (e_a2_1 < 0) ∧ e_a2_1 < (6 : Int32) := (side_2_302_769 e_a2_0 e_a2_1 e_a2_2 e_a2_3 e_a2_4 hC)
                                                  have Vo769 : Arv Z h743 b435 k435 .int (6 : Int32) ((own_L2_10 e_a2_0 e_a2_1 e_a2_2 e_a2_3 e_a2_4).map Value.int) (.int (0 : Int32)) := fq763
                                                  obtain ⟨cl769, Ar769, aq769, S769, M769, H769, G769⟩ := id fq763
                                                  obtain ⟨T769, h769, X769, e769, W769, st769⟩ := stI X766 hx hZ e766 Ar769 (j := e_a2_1) (inb_of S769 sd769) (g := (mkF m 302 #[.val (.ref a1), .val (.ref a2), .val (.ref a3), .val (.ref a4), .val (.ref a5), .val (.ref b435), .val (.int (1 : Int32)), .val (.int (own_at (own_L2_9 e_a2_0 e_a2_1 e_a2_2 e_a2_3 e_a2_4) e_a2_0)), .val (.int (5 : Int32)), .val (.int e_a2_4)] [(.int ((own_at (own_L2_10 e_a2_0 e_a2_1 e_a2_2 e_a2_3 e_a2_4) e_a2_1) + (1 : Int32))), (.int e_a2_1), (.ref b435), (.int (own_at (own_L2_10 e_a2_0 e_a2_1 e_a2_2 e_a2_3 e_a2_4) e_a2_1))])) rfl rfl (hb hby d2_302)
                                                  have hl769 : (own_L2_12 e_a2_0 e_a2_1 e_a2_2 e_a2_3 e_a2_4).length = 6 := (List.length_set ..).trans hl735
                                                  have V769 : Arv Z h769 b435 k435 .int (6 : Int32) ((own_L2_12 e_a2_0 e_a2_1 e_a2_2 e_a2_3 e_a2_4).map Value.int) (.int (0 : Int32)) := own_setL Vo769 hl735 W769 sd769
                                                  have N769 := Fr.snoc X769 Nc765 g_b435
                                                  have fq770 := (Fld.other W769 fq750 (Or.inl ne_a1_b435))
                                                  obtain ⟨T771, X771, e771, st771⟩ := getF X769 hx hZ hown (host := "") (Or.inl hw23) Via.refl e769 fq770 (g := (mkF m 306 #[.val (.ref a1), .val (.ref a2), .val (.ref a3), .val (.ref a4), .val (.ref a5), .val (.ref b435), .val (.int (1 : Int32)), .val (.int (own_at (own_L2_10 e_a2_0 e_a2_1 e_a2_2 e_a2_3 e_a2_4) e_a2_1)), .val (.int (5 : Int32)), .val (.int e_a2_4)] [(.ref a1)])) rfl rfl (hb hby d2_306)
                                                  have fq772 := (fq758.other W769 ne_b41_b435)
                                                  have sd773 : ¬ ((own_at (own_L2_10 e_a2_0 e_a2_1 e_a2_2 e_a2_3 e_a2_4) e_a2_1) < 0) ∧ (own_at (own_L2_10 e_a2_0 e_a2_1 e_a2_2 e_a2_3 e_a2_4) e_a2_1) < (5 : Int32) := (side_2_313_773 e_a2_0 e_a2_1 e_a2_2 e_a2_3 e_a2_4 hC)
                                                  have Vo773 : Arv Z h769 b41 k41 .int (5 : Int32) ((own_L2_11 e_a2_0 e_a2_1 e_a2_2 e_a2_3 e_a2_4).map Value.int) (.int (0 : Int32)) := fq772
                                                  obtain ⟨cl773, Ar773, aq773, S773, M773, H773, G773⟩ := id fq772
                                                  obtain ⟨T773, h773, X773, e773, W773, st773⟩ := stI X771 hx hZ e771 Ar773 (j := (own_at (own_L2_10 e_a2_0 e_a2_1 e_a2_2 e_a2_3 e_a2_4) e_a2_1)) (inb_of S773 sd773) (g := (mkF m 313 #[.val (.ref a1), .val (.ref a2), .val (.ref a3), .val (.ref a4), .val (.ref a5), .val (.ref b435), .val (.int (1 : Int32)), .val (.int (own_at (own_L2_10 e_a2_0 e_a2_1 e_a2_2 e_a2_3 e_a2_4) e_a2_1)), .val (.int (5 : Int32)), .val (.int e_a2_4)] [(.int (1 : Int32)), (.int (own_at (own_L2_10 e_a2_0 e_a2_1 e_a2_2 e_a2_3 e_a2_4) e_a2_1)), (.ref b41)])) rfl rfl (hb hby d2_313)
                                                  have hl773 : (own_L2_13 e_a2_0 e_a2_1 e_a2_2 e_a2_3 e_a2_4).length = 5 := (List.length_set ..).trans hl739
                                                  have V773 : Arv Z h773 b41 k41 .int (5 : Int32) ((own_L2_13 e_a2_0 e_a2_1 e_a2_2 e_a2_3 e_a2_4).map Value.int) (.int (0 : Int32)) := own_setL Vo773 hl739 W773 sd773
                                                  have N773 := Fr.snoc X773 N769 g_b41
                                                  have fq774 := (Fld.other W773 (Fld.other W769 fq751 (Or.inl ne_a1_b435)) (Or.inl ne_a1_b41))
                                                  obtain ⟨T775, X775, e775, st775⟩ := getF X773 hx hZ hown (host := "") (Or.inl hw25) Via.refl e773 fq774 (g := (mkF m 315 #[.val (.ref a1), .val (.ref a2), .val (.ref a3), .val (.ref a4), .val (.ref a5), .val (.ref b435), .val (.int (1 : Int32)), .val (.int (own_at (own_L2_10 e_a2_0 e_a2_1 e_a2_2 e_a2_3 e_a2_4) e_a2_1)), .val (.int (5 : Int32)), .val (.int e_a2_4)] [(.ref a1)])) rfl rfl (hb hby d2_315)
                                                  have fq776 := ((V743.other W769 ne_b47_b435).other W773 (Ne.symm ne_b41_b47))
                                                  obtain ⟨cl777, Ar777, aq777, S777, M777, H777, G777⟩ := id fq776
                                                  have hin777 : ¬ ((1 : Int32) < 0 ∨ cl777.slots.size ≤ ((1 : Int32)).toNatClampNeg) := inb_of S777 ⟨by decide, by decide⟩
                                                  obtain ⟨T777, h777, X777, e777, W777, st777⟩ := stI X775 hx hZ e775 Ar777 (j := (1 : Int32)) hin777 (g := (mkF m 322 #[.val (.ref a1), .val (.ref a2), .val (.ref a3), .val (.ref a4), .val (.ref a5), .val (.ref b435), .val (.int (1 : Int32)), .val (.int (own_at (own_L2_10 e_a2_0 e_a2_1 e_a2_2 e_a2_3 e_a2_4) e_a2_1)), .val (.int (5 : Int32)), .val (.int e_a2_4)] [(.int (own_at (own_L2_10 e_a2_0 e_a2_1 e_a2_2 e_a2_3 e_a2_4) e_a2_1)), (.int (1 : Int32)), (.ref b47)])) rfl rfl (hb hby d2_322)
                                                  have V777 : Arv Z h777 b47 k47 .int (5 : Int32) [(.int (own_at (own_L2_9 e_a2_0 e_a2_1 e_a2_2 e_a2_3 e_a2_4) e_a2_0)), (.int (own_at (own_L2_10 e_a2_0 e_a2_1 e_a2_2 e_a2_3 e_a2_4) e_a2_1)), (.int (0 : Int32)), (.int (0 : Int32)), (.int (0 : Int32))] (.int (0 : Int32)) := Arv.set Ar777 aq777 S777 M777 H777 G777 rfl W777 1 rfl (Nat.le_of_ble_eq_true rfl)
                                                  have N777 := Fr.snoc X777 N773 g_b47
                                                  have pre778 : ∀ t, Steps p.tables e below (T777.setTop (mkF m 282 #[.val (.ref a1), .val (.ref a2), .val (.ref a3), .val (.ref a4), .val (.ref a5), .val (.ref b435), .val (.int (2 : Int32)), .val (.int (own_at (own_L2_10 e_a2_0 e_a2_1 e_a2_2 e_a2_3 e_a2_4) e_a2_1)), .val (.int (5 : Int32)), .val (.int e_a2_4)] [])) t → Steps p.tables e below (s₁.setTop (entryFrame m #[(.ref a1), (.ref a2), (.ref a3), (.ref a4), (.ref a5)] 10)) t := fun t kt => by
                                                    refine pre744 t ?_
                                                    show Steps p.tables e below (T743.setTop (mkF m 282 #[.val (.ref a1), .val (.ref a2), .val (.ref a3), .val (.ref a4), .val (.ref a5), .val (.ref b435), .val (.int (1 : Int32)), .val (.int (own_at (own_L2_9 e_a2_0 e_a2_1 e_a2_2 e_a2_3 e_a2_4) e_a2_0)), .val (.int (5 : Int32)), .val (.int e_a2_4)] [])) _
                                                    refine XS.iload Xc765.here hx rfl (hb hby d2_282) rfl ?_
                                                    show Steps p.tables e below (T743.setTop (mkF m 284 #[.val (.ref a1), .val (.ref a2), .val (.ref a3), .val (.ref a4), .val (.ref a5), .val (.ref b435), .val (.int (1 : Int32)), .val (.int (own_at (own_L2_9 e_a2_0 e_a2_1 e_a2_2 e_a2_3 e_a2_4) e_a2_0)), .val (.int (5 : Int32)), .val (.int e_a2_4)] [(.int (1 : Int32))])) _
                                                    refine XS.aloadN Xc765.here hx rfl (hb hby d2_284) rfl rfl ?_
                                                    show Steps p.tables e below (T743.setTop (mkF m 285 #[.val (.ref a1), .val (.ref a2), .val (.ref a3), .val (.ref a4), .val (.ref a5), .val (.ref b435), .val (.int (1 : Int32)), .val (.int (own_at (own_L2_9 e_a2_0 e_a2_1 e_a2_2 e_a2_3 e_a2_4) e_a2_0)), .val (.int (5 : Int32)), .val (.int e_a2_4)] [(.ref a1), (.int (1 : Int32))])) _
                                                    refine st766 _ ?_
                                                    show Steps p.tables e below (T766.setTop (mkF m 288 #[.val (.ref a1), .val (.ref a2), .val (.ref a3), .val (.ref a4), .val (.ref a5), .val (.ref b435), .val (.int (1 : Int32)), .val (.int (own_at (own_L2_9 e_a2_0 e_a2_1 e_a2_2 e_a2_3 e_a2_4) e_a2_0)), .val (.int (5 : Int32)), .val (.int e_a2_4)] [(.int (5 : Int32)), (.int (1 : Int32))])) _
                                                    refine XS.icmpNo X766.here hx rfl (hb hby d2_288) rfl (tlt (by decide : (1 : Int32) < (5 : Int32))).2.1 ?_
                                                    show Steps p.tables e below (T766.setTop (mkF m 291 #[.val (.ref a1), .val (.ref a2), .val (.ref a3), .val (.ref a4), .val (.ref a5), .val (.ref b435), .val (.int (1 : Int32)), .val (.int (own_at (own_L2_9 e_a2_0 e_a2_1 e_a2_2 e_a2_3 e_a2_4) e_a2_0)), .val (.int (5 : Int32)), .val (.int e_a2_4)] [])) _
                                                    refine XS.aload X766.here hx rfl (hb hby d2_291) rfl rfl ?_
                                                    show Steps p.tables e below (T766.setTop (mkF m 293 #[.val (.ref a1), .val (.ref a2), .val (.ref a3), .val (.ref a4), .val (.ref a5), .val (.ref b435), .val (.int (1 : Int32)), .val (.int (own_at (own_L2_9 e_a2_0 e_a2_1 e_a2_2 e_a2_3 e_a2_4) e_a2_0)), .val (.int (5 : Int32)), .val (.int e_a2_4)] [(.ref b435)])) _
                                                    refine XS.aloadN X766.here hx rfl (hb hby d2_293) rfl rfl ?_
                                                    show Steps p.tables e below (T766.setTop (mkF m 294 #[.val (.ref a1), .val (.ref a2), .val (.ref a3), .val (.ref a4), .val (.ref a5), .val (.ref b435), .val (.int (1 : Int32)), .val (.int (own_at (own_L2_9 e_a2_0 e_a2_1 e_a2_2 e_a2_3 e_a2_4) e_a2_0)), .val (.int (5 : Int32)), .val (.int e_a2_4)] [(.ref a2), (.ref b435)])) _
                                                    refine XS.iload X766.here hx rfl (hb hby d2_294) rfl ?_
                                                    show Steps p.tables e below (T766.setTop (mkF m 296 #[.val (.ref a1), .val (.ref a2), .val (.ref a3), .val (.ref a4), .val (.ref a5), .val (.ref b435), .val (.int (1 : Int32)), .val (.int (own_at (own_L2_9 e_a2_0 e_a2_1 e_a2_2 e_a2_3 e_a2_4) e_a2_0)), .val (.int (5 : Int32)), .val (.int e_a2_4)] [(.int (1 : Int32)), (.ref a2), (.ref b435)])) _
                                                    refine X766.iaload hx (j := (1 : Int32)) (v := (.int e_a2_1)) (by rw [e766]; exact Ar767.1) (State.isArrayOf_alike hZ.alike Ar767.2.1) Ar767.2.2 hin767 hat767 (g := (mkF m 296 #[.val (.ref a1), .val (.ref a2), .val (.ref a3), .val (.ref a4), .val (.ref a5), .val (.ref b435), .val (.int (1 : Int32)), .val (.int (own_at (own_L2_9 e_a2_0 e_a2_1 e_a2_2 e_a2_3 e_a2_4) e_a2_0)), .val (.int (5 : Int32)), .val (.int e_a2_4)] [(.int (1 : Int32)), (.ref a2), (.ref b435)])) rfl rfl (hb hby d2_296) _ ?_
                                                    show Steps p.tables e below (T766.setTop (mkF m 297 #[.val (.ref a1), .val (.ref a2), .val (.ref a3), .val (.ref a4), .val (.ref a5), .val (.ref b435), .val (.int (1 : Int32)), .val (.int (own_at (own_L2_9 e_a2_0 e_a2_1 e_a2_2 e_a2_3 e_a2_4) e_a2_0)), .val (.int (5 : Int32)), .val (.int e_a2_4)] [(.int e_a2_1), (.ref b435)])) _
                                                    refine XT.dup2 X766.here hx rfl (hb hby d2_297) rfl rfl rfl ?_
                                                    show Steps p.tables e below (T766.setTop (mkF m 298 #[.val (.ref a1), .val (.ref a2), .val (.ref a3), .val (.ref a4), .val (.ref a5), .val (.ref b435), .val (.int (1 : Int32)), .val (.int (own_at (own_L2_9 e_a2_0 e_a2_1 e_a2_2 e_a2_3 e_a2_4) e_a2_0)), .val (.int (5 : Int32)), .val (.int e_a2_4)] [(.int e_a2_1), (.ref b435), (.int e_a2_1), (.ref b435)])) _
                                                    refine X766.iaload hx (j := e_a2_1) (v := (.int (own_at (own_L2_10 e_a2_0 e_a2_1 e_a2_2 e_a2_3 e_a2_4) e_a2_1))) (by rw [e766]; exact Ar768.1) (State.isArrayOf_alike hZ.alike Ar768.2.1) Ar768.2.2 hin768 hat768 (g := (mkF m 298 #[.val (.ref a1), .val (.ref a2), .val (.ref a3), .val (.ref a4), .val (.ref a5), .val (.ref b435), .val (.int (1 : Int32)), .val (.int (own_at (own_L2_9 e_a2_0 e_a2_1 e_a2_2 e_a2_3 e_a2_4) e_a2_0)), .val (.int (5 : Int32)), .val (.int e_a2_4)] [(.int e_a2_1), (.ref b435), (.int e_a2_1), (.ref b435)])) rfl rfl (hb hby d2_298) _ ?_
                                                    show Steps p.tables e below (T766.setTop (mkF m 299 #[.val (.ref a1), .val (.ref a2), .val (.ref a3), .val (.ref a4), .val (.ref a5), .val (.ref b435), .val (.int (1 : Int32)), .val (.int (own_at (own_L2_9 e_a2_0 e_a2_1 e_a2_2 e_a2_3 e_a2_4) e_a2_0)), .val (.int (5 : Int32)), .val (.int e_a2_4)] [(.int (own_at (own_L2_10 e_a2_0 e_a2_1 e_a2_2 e_a2_3 e_a2_4) e_a2_1)), (.int e_a2_1), (.ref b435)])) _
                                                    jvm_step X766.here [X766.here.top, hx, (hb hby d2_299), Value.category]
                                                    show Steps p.tables e below (T766.setTop (mkF m 300 #[.val (.ref a1), .val (.ref a2), .val (.ref a3), .val (.ref a4), .val (.ref a5), .val (.ref b435), .val (.int (1 : Int32)), .val (.int (own_at (own_L2_9 e_a2_0 e_a2_1 e_a2_2 e_a2_3 e_a2_4) e_a2_0)), .val (.int (5 : Int32)), .val (.int e_a2_4)] [(.int (own_at (own_L2_10 e_a2_0 e_a2_1 e_a2_2 e_a2_3 e_a2_4) e_a2_1)), (.int e_a2_1), (.ref b435), (.int (own_at (own_L2_10 e_a2_0 e_a2_1 e_a2_2 e_a2_3 e_a2_4) e_a2_1))])) _
                                                    refine XS.iconst X766.here hx rfl (hb hby d2_300) ?_
                                                    show Steps p.tables e below (T766.setTop (mkF m 301 #[.val (.ref a1), .val (.ref a2), .val (.ref a3), .val (.ref a4), .val (.ref a5), .val (.ref b435), .val (.int (1 : Int32)), .val (.int (own_at (own_L2_9 e_a2_0 e_a2_1 e_a2_2 e_a2_3 e_a2_4) e_a2_0)), .val (.int (5 : Int32)), .val (.int e_a2_4)] [(.int (1 : Int32)), (.int (own_at (own_L2_10 e_a2_0 e_a2_1 e_a2_2 e_a2_3 e_a2_4) e_a2_1)), (.int e_a2_1), (.ref b435), (.int (own_at (own_L2_10 e_a2_0 e_a2_1 e_a2_2 e_a2_3 e_a2_4) e_a2_1))])) _
                                                    refine XS.iadd X766.here hx rfl (hb hby d2_301) rfl ?_
                                                    show Steps p.tables e below (T766.setTop (mkF m 302 #[.val (.ref a1), .val (.ref a2), .val (.ref a3), .val (.ref a4), .val (.ref a5), .val (.ref b435), .val (.int (1 : Int32)), .val (.int (own_at (own_L2_9 e_a2_0 e_a2_1 e_a2_2 e_a2_3 e_a2_4) e_a2_0)), .val (.int (5 : Int32)), .val (.int e_a2_4)] [(.int ((own_at (own_L2_10 e_a2_0 e_a2_1 e_a2_2 e_a2_3 e_a2_4) e_a2_1) + (1 : Int32))), (.int e_a2_1), (.ref b435), (.int (own_at (own_L2_10 e_a2_0 e_a2_1 e_a2_2 e_a2_3 e_a2_4) e_a2_1))])) _
                                                    refine st769 _ ?_
                                                    show Steps p.tables e below (T769.setTop (mkF m 303 #[.val (.ref a1), .val (.ref a2), .val (.ref a3), .val (.ref a4), .val (.ref a5), .val (.ref b435), .val (.int (1 : Int32)), .val (.int (own_at (own_L2_9 e_a2_0 e_a2_1 e_a2_2 e_a2_3 e_a2_4) e_a2_0)), .val (.int (5 : Int32)), .val (.int e_a2_4)] [(.int (own_at (own_L2_10 e_a2_0 e_a2_1 e_a2_2 e_a2_3 e_a2_4) e_a2_1))])) _
                                                    refine XS.istore X769.here hx rfl (hb hby d2_303) rfl (l' := #[.val (.ref a1), .val (.ref a2), .val (.ref a3), .val (.ref a4), .val (.ref a5), .val (.ref b435), .val (.int (1 : Int32)), .val (.int (own_at (own_L2_10 e_a2_0 e_a2_1 e_a2_2 e_a2_3 e_a2_4) e_a2_1)), .val (.int (5 : Int32)), .val (.int e_a2_4)]) rfl ?_
                                                    show Steps p.tables e below (T769.setTop (mkF m 305 #[.val (.ref a1), .val (.ref a2), .val (.ref a3), .val (.ref a4), .val (.ref a5), .val (.ref b435), .val (.int (1 : Int32)), .val (.int (own_at (own_L2_10 e_a2_0 e_a2_1 e_a2_2 e_a2_3 e_a2_4) e_a2_1)), .val (.int (5 : Int32)), .val (.int e_a2_4)] [])) _
                                                    refine XS.aloadN X769.here hx rfl (hb hby d2_305) rfl rfl ?_
                                                    show Steps p.tables e below (T769.setTop (mkF m 306 #[.val (.ref a1), .val (.ref a2), .val (.ref a3), .val (.ref a4), .val (.ref a5), .val (.ref b435), .val (.int (1 : Int32)), .val (.int (own_at (own_L2_10 e_a2_0 e_a2_1 e_a2_2 e_a2_3 e_a2_4) e_a2_1)), .val (.int (5 : Int32)), .val (.int e_a2_4)] [(.ref a1)])) _
                                                    refine st771 _ ?_
                                                    show Steps p.tables e below (T771.setTop (mkF m 309 #[.val (.ref a1), .val (.ref a2), .val (.ref a3), .val (.ref a4), .val (.ref a5), .val (.ref b435), .val (.int (1 : Int32)), .val (.int (own_at (own_L2_10 e_a2_0 e_a2_1 e_a2_2 e_a2_3 e_a2_4) e_a2_1)), .val (.int (5 : Int32)), .val (.int e_a2_4)] [(.ref b41)])) _
                                                    refine XS.iload X771.here hx rfl (hb hby d2_309) rfl ?_
                                                    show Steps p.tables e below (T771.setTop (mkF m 311 #[.val (.ref a1), .val (.ref a2), .val (.ref a3), .val (.ref a4), .val (.ref a5), .val (.ref b435), .val (.int (1 : Int32)), .val (.int (own_at (own_L2_10 e_a2_0 e_a2_1 e_a2_2 e_a2_3 e_a2_4) e_a2_1)), .val (.int (5 : Int32)), .val (.int e_a2_4)] [(.int (own_at (own_L2_10 e_a2_0 e_a2_1 e_a2_2 e_a2_3 e_a2_4) e_a2_1)), (.ref b41)])) _
                                                    refine XS.iload X771.here hx rfl (hb hby d2_311) rfl ?_
                                                    show Steps p.tables e below (T771.setTop (mkF m 313 #[.val (.ref a1), .val (.ref a2), .val (.ref a3), .val (.ref a4), .val (.ref a5), .val (.ref b435), .val (.int (1 : Int32)), .val (.int (own_at (own_L2_10 e_a2_0 e_a2_1 e_a2_2 e_a2_3 e_a2_4) e_a2_1)), .val (.int (5 : Int32)), .val (.int e_a2_4)] [(.int (1 : Int32)), (.int (own_at (own_L2_10 e_a2_0 e_a2_1 e_a2_2 e_a2_3 e_a2_4) e_a2_1)), (.ref b41)])) _
                                                    refine st773 _ ?_
                                                    show Steps p.tables e below (T773.setTop (mkF m 314 #[.val (.ref a1), .val (.ref a2), .val (.ref a3), .val (.ref a4), .val (.ref a5), .val (.ref b435), .val (.int (1 : Int32)), .val (.int (own_at (own_L2_10 e_a2_0 e_a2_1 e_a2_2 e_a2_3 e_a2_4) e_a2_1)), .val (.int (5 : Int32)), .val (.int e_a2_4)] [])) _
                                                    refine XS.aloadN X773.here hx rfl (hb hby d2_314) rfl rfl ?_
                                                    show Steps p.tables e below (T773.setTop (mkF m 315 #[.val (.ref a1), .val (.ref a2), .val (.ref a3), .val (.ref a4), .val (.ref a5), .val (.ref b435), .val (.int (1 : Int32)), .val (.int (own_at (own_L2_10 e_a2_0 e_a2_1 e_a2_2 e_a2_3 e_a2_4) e_a2_1)), .val (.int (5 : Int32)), .val (.int e_a2_4)] [(.ref a1)])) _
                                                    refine st775 _ ?_
                                                    show Steps p.tables e below (T775.setTop (mkF m 318 #[.val (.ref a1), .val (.ref a2), .val (.ref a3), .val (.ref a4), .val (.ref a5), .val (.ref b435), .val (.int (1 : Int32)), .val (.int (own_at (own_L2_10 e_a2_0 e_a2_1 e_a2_2 e_a2_3 e_a2_4) e_a2_1)), .val (.int (5 : Int32)), .val (.int e_a2_4)] [(.ref b47)])) _
                                                    refine XS.iload X775.here hx rfl (hb hby d2_318) rfl ?_
                                                    show Steps p.tables e below (T775.setTop (mkF m 320 #[.val (.ref a1), .val (.ref a2), .val (.ref a3), .val (.ref a4), .val (.ref a5), .val (.ref b435), .val (.int (1 : Int32)), .val (.int (own_at (own_L2_10 e_a2_0 e_a2_1 e_a2_2 e_a2_3 e_a2_4) e_a2_1)), .val (.int (5 : Int32)), .val (.int e_a2_4)] [(.int (1 : Int32)), (.ref b47)])) _
                                                    refine XS.iload X775.here hx rfl (hb hby d2_320) rfl ?_
                                                    show Steps p.tables e below (T775.setTop (mkF m 322 #[.val (.ref a1), .val (.ref a2), .val (.ref a3), .val (.ref a4), .val (.ref a5), .val (.ref b435), .val (.int (1 : Int32)), .val (.int (own_at (own_L2_10 e_a2_0 e_a2_1 e_a2_2 e_a2_3 e_a2_4) e_a2_1)), .val (.int (5 : Int32)), .val (.int e_a2_4)] [(.int (own_at (own_L2_10 e_a2_0 e_a2_1 e_a2_2 e_a2_3 e_a2_4) e_a2_1)), (.int (1 : Int32)), (.ref b47)])) _
                                                    refine st777 _ ?_
                                                    show Steps p.tables e below (T777.setTop (mkF m 323 #[.val (.ref a1), .val (.ref a2), .val (.ref a3), .val (.ref a4), .val (.ref a5), .val (.ref b435), .val (.int (1 : Int32)), .val (.int (own_at (own_L2_10 e_a2_0 e_a2_1 e_a2_2 e_a2_3 e_a2_4) e_a2_1)), .val (.int (5 : Int32)), .val (.int e_a2_4)] [])) _
                                                    refine XS.iinc X777.here hx rfl (hb hby d2_323) rfl (l' := #[.val (.ref a1), .val (.ref a2), .val (.ref a3), .val (.ref a4), .val (.ref a5), .val (.ref b435), .val (.int (2 : Int32)), .val (.int (own_at (own_L2_10 e_a2_0 e_a2_1 e_a2_2 e_a2_3 e_a2_4) e_a2_1)), .val (.int (5 : Int32)), .val (.int e_a2_4)]) rfl ?_
                                                    show Steps p.tables e below (T777.setTop (mkF m 326 #[.val (.ref a1), .val (.ref a2), .val (.ref a3), .val (.ref a4), .val (.ref a5), .val (.ref b435), .val (.int (2 : Int32)), .val (.int (own_at (own_L2_10 e_a2_0 e_a2_1 e_a2_2 e_a2_3 e_a2_4) e_a2_1)), .val (.int (5 : Int32)), .val (.int e_a2_4)] [])) _
                                                    refine XS.goto X777.here hx rfl (pc0 := 326) (pc' := 282) rfl (hb hby d2_326) (by decide) (by decide) ?_
                                                    exact kt
                                                  have fq779 := (Exa.wr W777 (Exa.wr W773 (Exa.wr W769 fq745)))
                                                  have fq780 := (Fld.other W777 (Fld.other W773 (Fld.other W769 fq746 (Or.inl ne_a1_b435)) (Or.inl ne_a1_b41)) (Or.inl ne_a1_b47))
                                                  have fq781 := (Fld.other W777 (Fld.other W773 (Fld.other W769 fq747 (Or.inl ne_a1_b435)) (Or.inl ne_a1_b41)) (Or.inl ne_a1_b47))
                                                  have fq782 := (Fld.other W777 (Fld.other W773 (Fld.other W769 fq748 (Or.inl ne_a1_b435)) (Or.inl ne_a1_b41)) (Or.inl ne_a1_b47))
                                                  have fq783 := (Fld.other W777 (Fld.other W773 (Fld.other W769 fq749 (Or.inl ne_a1_b435)) (Or.inl ne_a1_b41)) (Or.inl ne_a1_b47))
                                                  have fq784 := (Fld.other W777 (Fld.other W773 fq770 (Or.inl ne_a1_b41)) (Or.inl ne_a1_b47))
                                                  have fq785 := (Fld.other W777 fq774 (Or.inl ne_a1_b47))
                                                  have fq786 := (Fld.other W777 (Fld.other W773 (Fld.other W769 fq752 (Or.inl ne_a1_b435)) (Or.inl ne_a1_b41)) (Or.inl ne_a1_b47))
                                                  have fq787 := (Fld.other W777 (Fld.other W773 (Fld.other W769 fq753 (Or.inl ne_a1_b435)) (Or.inl ne_a1_b41)) (Or.inl ne_a1_b47))
                                                  have fq788 := (Fld.other W777 (Fld.other W773 (Fld.other W769 fq754 (Or.inl ne_a1_b435)) (Or.inl ne_a1_b41)) (Or.inl ne_a1_b47))
                                                  have fq789 := (Fld.other W777 (Fld.other W773 (Fld.other W769 fq755 (Or.inl ne_a1_b435)) (Or.inl ne_a1_b41)) (Or.inl ne_a1_b47))
                                                  have fq790 := (((fq756.other W769 ne_a2_b435).other W773 ne_a2_b41).other W777 ne_a2_b47)
                                                  have fq791 := (((fq757.other W769 ne_a4_b435).other W773 ne_a4_b41).other W777 ne_a4_b47)
                                                  have fq792 := (V773.other W777 ne_b41_b47)
                                                  have fq793 := (((fq759.other W769 ne_b85_b435).other W773 (Ne.symm ne_b41_b85)).other W777 (Ne.symm ne_b47_b85))
                                                  have fq794 := (((fq760.other W769 ne_b91_b435).other W773 (Ne.symm ne_b41_b91)).other W777 (Ne.symm ne_b47_b91))
                                                  have fq795 := (((fq761.other W769 ne_b133_b435).other W773 (Ne.symm ne_b41_b133)).other W777 (Ne.symm ne_b47_b133))
                                                  have fq796 := (((fq762.other W769 ne_b139_b435).other W773 (Ne.symm ne_b41_b139)).other W777 (Ne.symm ne_b47_b139))
                                                  have fq797 := ((V769.other W773 (Ne.symm ne_b41_b435)).other W777 (Ne.symm ne_b47_b435))
                                                  have z798 : n0 ≤ h777.size := (Nat.le_trans (Nat.le_trans (Nat.le_trans z764 (Keep.of_wr W769).1) (Keep.of_wr W773).1) (Keep.of_wr W777).1)
                                                  obtain ⟨Lc799, Xc799, Nc799⟩ : ∃ L, Stand p l e ({ frames := 1, cells := 18, slots := 86, locals := 13 } : Room) s m #[(.ref a1), (.ref a2), (.ref a3), (.ref a4), (.ref a5)] below meth c T777 L 18 86 ∧ Fr n0 L := ⟨_, X777, N777⟩
                                                  clear hl735 hl739 e743 V743 pre744 fq745 fq746 fq747 fq748 fq749 fq750 fq751 fq752 fq753 fq754 fq755 fq756 fq757 fq758 fq759 fq760 fq761 fq762 fq763 z764 Xc765 Nc765 X766 e766 st766 Ar767 aq767 S767 M767 H767 G767 hin767 hat767 Ar768 aq768 S768 M768 H768 G768 hin768 hat768 sd769 Vo769 Ar769 aq769 S769 M769 H769 G769 X769 e769 W769 st769 V769 N769 fq770 X771 e771 st771 fq772 sd773 Vo773 Ar773 aq773 S773 M773 H773 G773 X773 e773 W773 st773 V773 N773 fq774 X775 e775 st775 fq776 Ar777 aq777 S777 M777 H777 G777 hin777 X777 W777 st777 N777
                                                  try clear cl777
                                                  try clear T775
                                                  try clear h773
                                                  try clear T773
                                                  try clear cl773
                                                  try clear T771
                                                  try clear h769
                                                  try clear T769
                                                  try clear cl769
                                                  try clear cl768
                                                  try clear cl767
                                                  try clear T766
                                                  try clear Lc765
                                                  try clear h743
                                                  try clear T743
                                                  as_aux_lemma =>
                                                    obtain ⟨T800, X800, e800, st800⟩ := getF Xc799 hx hZ hown (host := "") (Or.inl hw15) Via.refl e777 fq783 (g := (mkF m 285 #[.val (.ref a1), .val (.ref a2), .val (.ref a3), .val (.ref a4), .val (.ref a5), .val (.ref b435), .val (.int (2 : Int32)), .val (.int (own_at (own_L2_10 e_a2_0 e_a2_1 e_a2_2 e_a2_3 e_a2_4) e_a2_1)), .val (.int (5 : Int32)), .val (.int e_a2_4)] [(.ref a1), (.int (2 : Int32))])) rfl rfl (hb hby d2_285)
                                                    obtain ⟨cl801, Ar801, aq801, S801, M801, H801, G801⟩ := id fq790
                                                    have hin801 : ¬ ((2 : Int32) < 0 ∨ cl801.slots.size ≤ ((2 : Int32)).toNatClampNeg) := inb_of S801 ⟨by decide, by decide⟩
                                                    have hat801 : cl801.slots[((2 : Int32)).toNatClampNeg]? = some (.int e_a2_2) := Has.at H801 hin801 rfl
                                                    obtain ⟨cl802, Ar802, aq802, S802, M802, H802, G802⟩ := id fq797
                                                    have hin802 : ¬ (e_a2_2 < 0 ∨ cl802.slots.size ≤ (e_a2_2).toNatClampNeg) := inb_of S802 (side_2_298_802 e_a2_0 e_a2_1 e_a2_2 e_a2_3 e_a2_4 hC)
                                                    have hat802 : cl802.slots[(e_a2_2).toNatClampNeg]? = some (.int (own_at (own_L2_12 e_a2_0 e_a2_1 e_a2_2 e_a2_3 e_a2_4) e_a2_2)) := Has.at H802 hin802 (own_getD (own_L2_12 e_a2_0 e_a2_1 e_a2_2 e_a2_3 e_a2_4) (e_a2_2).toNatClampNeg)
                                                    have sd803 : ¬ (e_a2_2 < 0) ∧ e_a2_2 < (6 : Int32) := (side_2_302_803 e_a2_0 e_a2_1 e_a2_2 e_a2_3 e_a2_4 hC)
                                                    have Vo803 : Arv Z h777 b435 k435 .int (6 : Int32) ((own_L2_12 e_a2_0 e_a2_1 e_a2_2 e_a2_3 e_a2_4).map Value.int) (.int (0 : Int32)) := fq797
                                                    obtain ⟨cl803, Ar803, aq803, S803, M803, H803, G803⟩ := id fq797
                                                    obtain ⟨T803, h803, X803, e803, W803, st803⟩ := stI X800 hx hZ e800 Ar803 (j := e_a2_2) (inb_of S803 sd803) (g := (mkF m 302 #[.val (.ref a1), .val (.ref a2), .val (.ref a3), .val (.ref a4), .val (.ref a5), .val (.ref b435), .val (.int (2 : Int32)), .val (.int (own_at (own_L2_10 e_a2_0 e_a2_1 e_a2_2 e_a2_3 e_a2_4) e_a2_1)), .val (.int (5 : Int32)), .val (.int e_a2_4)] [(.int ((own_at (own_L2_12 e_a2_0 e_a2_1 e_a2_2 e_a2_3 e_a2_4) e_a2_2) + (1 : Int32))), (.int e_a2_2), (.ref b435), (.int (own_at (own_L2_12 e_a2_0 e_a2_1 e_a2_2 e_a2_3 e_a2_4) e_a2_2))])) rfl rfl (hb hby d2_302)
                                                    have hl803 : (own_L2_14 e_a2_0 e_a2_1 e_a2_2 e_a2_3 e_a2_4).length = 6 := (List.length_set ..).trans hl769
                                                    have V803 : Arv Z h803 b435 k435 .int (6 : Int32) ((own_L2_14 e_a2_0 e_a2_1 e_a2_2 e_a2_3 e_a2_4).map Value.int) (.int (0 : Int32)) := own_setL Vo803 hl769 W803 sd803
                                                    have N803 := Fr.snoc X803 Nc799 g_b435
                                                    have fq804 := (Fld.other W803 fq784 (Or.inl ne_a1_b435))
                                                    obtain ⟨T805, X805, e805, st805⟩ := getF X803 hx hZ hown (host := "") (Or.inl hw23) Via.refl e803 fq804 (g := (mkF m 306 #[.val (.ref a1), .val (.ref a2), .val (.ref a3), .val (.ref a4), .val (.ref a5), .val (.ref b435), .val (.int (2 : Int32)), .val (.int (own_at (own_L2_12 e_a2_0 e_a2_1 e_a2_2 e_a2_3 e_a2_4) e_a2_2)), .val (.int (5 : Int32)), .val (.int e_a2_4)] [(.ref a1)])) rfl rfl (hb hby d2_306)
                                                    have fq806 := (fq792.other W803 ne_b41_b435)
                                                    have sd807 : ¬ ((own_at (own_L2_12 e_a2_0 e_a2_1 e_a2_2 e_a2_3 e_a2_4) e_a2_2) < 0) ∧ (own_at (own_L2_12 e_a2_0 e_a2_1 e_a2_2 e_a2_3 e_a2_4) e_a2_2) < (5 : Int32) := (side_2_313_807 e_a2_0 e_a2_1 e_a2_2 e_a2_3 e_a2_4 hC)
                                                    have Vo807 : Arv Z h803 b41 k41 .int (5 : Int32) ((own_L2_13 e_a2_0 e_a2_1 e_a2_2 e_a2_3 e_a2_4).map Value.int) (.int (0 : Int32)) := fq806
                                                    obtain ⟨cl807, Ar807, aq807, S807, M807, H807, G807⟩ := id fq806
                                                    obtain ⟨T807, h807, X807, e807, W807, st807⟩ := stI X805 hx hZ e805 Ar807 (j := (own_at (own_L2_12 e_a2_0 e_a2_1 e_a2_2 e_a2_3 e_a2_4) e_a2_2)) (inb_of S807 sd807) (g := (mkF m 313 #[.val (.ref a1), .val (.ref a2), .val (.ref a3), .val (.ref a4), .val (.ref a5), .val (.ref b435), .val (.int (2 : Int32)), .val (.int (own_at (own_L2_12 e_a2_0 e_a2_1 e_a2_2 e_a2_3 e_a2_4) e_a2_2)), .val (.int (5 : Int32)), .val (.int e_a2_4)] [(.int (2 : Int32)), (.int (own_at (own_L2_12 e_a2_0 e_a2_1 e_a2_2 e_a2_3 e_a2_4) e_a2_2)), (.ref b41)])) rfl rfl (hb hby d2_313)
                                                    have hl807 : (own_L2_15 e_a2_0 e_a2_1 e_a2_2 e_a2_3 e_a2_4).length = 5 := (List.length_set ..).trans hl773
                                                    have V807 : Arv Z h807 b41 k41 .int (5 : Int32) ((own_L2_15 e_a2_0 e_a2_1 e_a2_2 e_a2_3 e_a2_4).map Value.int) (.int (0 : Int32)) := own_setL Vo807 hl773 W807 sd807
                                                    have N807 := Fr.snoc X807 N803 g_b41
                                                    have fq808 := (Fld.other W807 (Fld.other W803 fq785 (Or.inl ne_a1_b435)) (Or.inl ne_a1_b41))
                                                    obtain ⟨T809, X809, e809, st809⟩ := getF X807 hx hZ hown (host := "") (Or.inl hw25) Via.refl e807 fq808 (g := (mkF m 315 #[.val (.ref a1), .val (.ref a2), .val (.ref a3), .val (.ref a4), .val (.ref a5), .val (.ref b435), .val (.int (2 : Int32)), .val (.int (own_at (own_L2_12 e_a2_0 e_a2_1 e_a2_2 e_a2_3 e_a2_4) e_a2_2)), .val (.int (5 : Int32)), .val (.int e_a2_4)] [(.ref a1)])) rfl rfl (hb hby d2_315)
                                                    have fq810 := ((V777.other W803 ne_b47_b435).other W807 (Ne.symm ne_b41_b47))
                                                    obtain ⟨cl811, Ar811, aq811, S811, M811, H811, G811⟩ := id fq810
                                                    have hin811 : ¬ ((2 : Int32) < 0 ∨ cl811.slots.size ≤ ((2 : Int32)).toNatClampNeg) := inb_of S811 ⟨by decide, by decide⟩
                                                    obtain ⟨T811, h811, X811, e811, W811, st811⟩ := stI X809 hx hZ e809 Ar811 (j := (2 : Int32)) hin811 (g := (mkF m 322 #[.val (.ref a1), .val (.ref a2), .val (.ref a3), .val (.ref a4), .val (.ref a5), .val (.ref b435), .val (.int (2 : Int32)), .val (.int (own_at (own_L2_12 e_a2_0 e_a2_1 e_a2_2 e_a2_3 e_a2_4) e_a2_2)), .val (.int (5 : Int32)), .val (.int e_a2_4)] [(.int (own_at (own_L2_12 e_a2_0 e_a2_1 e_a2_2 e_a2_3 e_a2_4) e_a2_2)), (.int (2 : Int32)), (.ref b47)])) rfl rfl (hb hby d2_322)
                                                    have V811 : Arv Z h811 b47 k47 .int (5 : Int32) [(.int (own_at (own_L2_9 e_a2_0 e_a2_1 e_a2_2 e_a2_3 e_a2_4) e_a2_0)), (.int (own_at (own_L2_10 e_a2_0 e_a2_1 e_a2_2 e_a2_3 e_a2_4) e_a2_1)), (.int (own_at (own_L2_12 e_a2_0 e_a2_1 e_a2_2 e_a2_3 e_a2_4) e_a2_2)), (.int (0 : Int32)), (.int (0 : Int32))] (.int (0 : Int32)) := Arv.set Ar811 aq811 S811 M811 H811 G811 rfl W811 2 rfl (Nat.le_of_ble_eq_true rfl)
                                                    have N811 := Fr.snoc X811 N807 g_b47
                                                    have pre812 : ∀ t, Steps p.tables e below (T811.setTop (mkF m 282 #[.val (.ref a1), .val (.ref a2), .val (.ref a3), .val (.ref a4), .val (.ref a5), .val (.ref b435), .val (.int (3 : Int32)), .val (.int (own_at (own_L2_12 e_a2_0 e_a2_1 e_a2_2 e_a2_3 e_a2_4) e_a2_2)), .val (.int (5 : Int32)), .val (.int e_a2_4)] [])) t → Steps p.tables e below (s₁.setTop (entryFrame m #[(.ref a1), (.ref a2), (.ref a3), (.ref a4), (.ref a5)] 10)) t := fun t kt => by
                                                      refine pre778 t ?_
                                                      show Steps p.tables e below (T777.setTop (mkF m 282 #[.val (.ref a1), .val (.ref a2), .val (.ref a3), .val (.ref a4), .val (.ref a5), .val (.ref b435), .val (.int (2 : Int32)), .val (.int (own_at (own_L2_10 e_a2_0 e_a2_1 e_a2_2 e_a2_3 e_a2_4) e_a2_1)), .val (.int (5 : Int32)), .val (.int e_a2_4)] [])) _
                                                      refine XS.iload Xc799.here hx rfl (hb hby d2_282) rfl ?_
                                                      show Steps p.tables e below (T777.setTop (mkF m 284 #[.val (.ref a1), .val (.ref a2), .val (.ref a3), .val (.ref a4), .val (.ref a5), .val (.ref b435), .val (.int (2 : Int32)), .val (.int (own_at (own_L2_10 e_a2_0 e_a2_1 e_a2_2 e_a2_3 e_a2_4) e_a2_1)), .val (.int (5 : Int32)), .val (.int e_a2_4)] [(.int (2 : Int32))])) _
                                                      refine XS.aloadN Xc799.here hx rfl (hb hby d2_284) rfl rfl ?_
                                                      show Steps p.tables e below (T777.setTop (mkF m 285 #[.val (.ref a1), .val (.ref a2), .val (.ref a3), .val (.ref a4), .val (.ref a5), .val (.ref b435), .val (.int (2 : Int32)), .val (.int (own_at (own_L2_10 e_a2_0 e_a2_1 e_a2_2 e_a2_3 e_a2_4) e_a2_1)), .val (.int (5 : Int32)), .val (.int e_a2_4)] [(.ref a1), (.int (2 : Int32))])) _
                                                      refine st800 _ ?_
                                                      show Steps p.tables e below (T800.setTop (mkF m 288 #[.val (.ref a1), .val (.ref a2), .val (.ref a3), .val (.ref a4), .val (.ref a5), .val (.ref b435), .val (.int (2 : Int32)), .val (.int (own_at (own_L2_10 e_a2_0 e_a2_1 e_a2_2 e_a2_3 e_a2_4) e_a2_1)), .val (.int (5 : Int32)), .val (.int e_a2_4)] [(.int (5 : Int32)), (.int (2 : Int32))])) _
                                                      refine XS.icmpNo X800.here hx rfl (hb hby d2_288) rfl (tlt (by decide : (2 : Int32) < (5 : Int32))).2.1 ?_
                                                      show Steps p.tables e below (T800.setTop (mkF m 291 #[.val (.ref a1), .val (.ref a2), .val (.ref a3), .val (.ref a4), .val (.ref a5), .val (.ref b435), .val (.int (2 : Int32)), .val (.int (own_at (own_L2_10 e_a2_0 e_a2_1 e_a2_2 e_a2_3 e_a2_4) e_a2_1)), .val (.int (5 : Int32)), .val (.int e_a2_4)] [])) _
                                                      refine XS.aload X800.here hx rfl (hb hby d2_291) rfl rfl ?_
                                                      show Steps p.tables e below (T800.setTop (mkF m 293 #[.val (.ref a1), .val (.ref a2), .val (.ref a3), .val (.ref a4), .val (.ref a5), .val (.ref b435), .val (.int (2 : Int32)), .val (.int (own_at (own_L2_10 e_a2_0 e_a2_1 e_a2_2 e_a2_3 e_a2_4) e_a2_1)), .val (.int (5 : Int32)), .val (.int e_a2_4)] [(.ref b435)])) _
                                                      refine XS.aloadN X800.here hx rfl (hb hby d2_293) rfl rfl ?_
                                                      show Steps p.tables e below (T800.setTop (mkF m 294 #[.val (.ref a1), .val (.ref a2), .val (.ref a3), .val (.ref a4), .val (.ref a5), .val (.ref b435), .val (.int (2 : Int32)), .val (.int (own_at (own_L2_10 e_a2_0 e_a2_1 e_a2_2 e_a2_3 e_a2_4) e_a2_1)), .val (.int (5 : Int32)), .val (.int e_a2_4)] [(.ref a2), (.ref b435)])) _
                                                      refine XS.iload X800.here hx rfl (hb hby d2_294) rfl ?_
                                                      show Steps p.tables e below (T800.setTop (mkF m 296 #[.val (.ref a1), .val (.ref a2), .val (.ref a3), .val (.ref a4), .val (.ref a5), .val (.ref b435), .val (.int (2 : Int32)), .val (.int (own_at (own_L2_10 e_a2_0 e_a2_1 e_a2_2 e_a2_3 e_a2_4) e_a2_1)), .val (.int (5 : Int32)), .val (.int e_a2_4)] [(.int (2 : Int32)), (.ref a2), (.ref b435)])) _
                                                      refine X800.iaload hx (j := (2 : Int32)) (v := (.int e_a2_2)) (by rw [e800]; exact Ar801.1) (State.isArrayOf_alike hZ.alike Ar801.2.1) Ar801.2.2 hin801 hat801 (g := (mkF m 296 #[.val (.ref a1), .val (.ref a2), .val (.ref a3), .val (.ref a4), .val (.ref a5), .val (.ref b435), .val (.int (2 : Int32)), .val (.int (own_at (own_L2_10 e_a2_0 e_a2_1 e_a2_2 e_a2_3 e_a2_4) e_a2_1)), .val (.int (5 : Int32)), .val (.int e_a2_4)] [(.int (2 : Int32)), (.ref a2), (.ref b435)])) rfl rfl (hb hby d2_296) _ ?_
                                                      show Steps p.tables e below (T800.setTop (mkF m 297 #[.val (.ref a1), .val (.ref a2), .val (.ref a3), .val (.ref a4), .val (.ref a5), .val (.ref b435), .val (.int (2 : Int32)), .val (.int (own_at (own_L2_10 e_a2_0 e_a2_1 e_a2_2 e_a2_3 e_a2_4) e_a2_1)), .val (.int (5 : Int32)), .val (.int e_a2_4)] [(.int e_a2_2), (.ref b435)])) _
                                                      refine XT.dup2 X800.here hx rfl (hb hby d2_297) rfl rfl rfl ?_
                                                      show Steps p.tables e below (T800.setTop (mkF m 298 #[.val (.ref a1), .val (.ref a2), .val (.ref a3), .val (.ref a4), .val (.ref a5), .val (.ref b435), .val (.int (2 : Int32)), .val (.int (own_at (own_L2_10 e_a2_0 e_a2_1 e_a2_2 e_a2_3 e_a2_4) e_a2_1)), .val (.int (5 : Int32)), .val (.int e_a2_4)] [(.int e_a2_2), (.ref b435), (.int e_a2_2), (.ref b435)])) _
                                                      refine X800.iaload hx (j := e_a2_2) (v := (.int (own_at (own_L2_12 e_a2_0 e_a2_1 e_a2_2 e_a2_3 e_a2_4) e_a2_2))) (by rw [e800]; exact Ar802.1) (State.isArrayOf_alike hZ.alike Ar802.2.1) Ar802.2.2 hin802 hat802 (g := (mkF m 298 #[.val (.ref a1), .val (.ref a2), .val (.ref a3), .val (.ref a4), .val (.ref a5), .val (.ref b435), .val (.int (2 : Int32)), .val (.int (own_at (own_L2_10 e_a2_0 e_a2_1 e_a2_2 e_a2_3 e_a2_4) e_a2_1)), .val (.int (5 : Int32)), .val (.int e_a2_4)] [(.int e_a2_2), (.ref b435), (.int e_a2_2), (.ref b435)])) rfl rfl (hb hby d2_298) _ ?_
                                                      show Steps p.tables e below (T800.setTop (mkF m 299 #[.val (.ref a1), .val (.ref a2), .val (.ref a3), .val (.ref a4), .val (.ref a5), .val (.ref b435), .val (.int (2 : Int32)), .val (.int (own_at (own_L2_10 e_a2_0 e_a2_1 e_a2_2 e_a2_3 e_a2_4) e_a2_1)), .val (.int (5 : Int32)), .val (.int e_a2_4)] [(.int (own_at (own_L2_12 e_a2_0 e_a2_1 e_a2_2 e_a2_3 e_a2_4) e_a2_2)), (.int e_a2_2), (.ref b435)])) _
                                                      jvm_step X800.here [X800.here.top, hx, (hb hby d2_299), Value.category]
                                                      show Steps p.tables e below (T800.setTop (mkF m 300 #[.val (.ref a1), .val (.ref a2), .val (.ref a3), .val (.ref a4), .val (.ref a5), .val (.ref b435), .val (.int (2 : Int32)), .val (.int (own_at (own_L2_10 e_a2_0 e_a2_1 e_a2_2 e_a2_3 e_a2_4) e_a2_1)), .val (.int (5 : Int32)), .val (.int e_a2_4)] [(.int (own_at (own_L2_12 e_a2_0 e_a2_1 e_a2_2 e_a2_3 e_a2_4) e_a2_2)), (.int e_a2_2), (.ref b435), (.int (own_at (own_L2_12 e_a2_0 e_a2_1 e_a2_2 e_a2_3 e_a2_4) e_a2_2))])) _
                                                      refine XS.iconst X800.here hx rfl (hb hby d2_300) ?_
                                                      show Steps p.tables e below (T800.setTop (mkF m 301 #[.val (.ref a1), .val (.ref a2), .val (.ref a3), .val (.ref a4), .val (.ref a5), .val (.ref b435), .val (.int (2 : Int32)), .val (.int (own_at (own_L2_10 e_a2_0 e_a2_1 e_a2_2 e_a2_3 e_a2_4) e_a2_1)), .val (.int (5 : Int32)), .val (.int e_a2_4)] [(.int (1 : Int32)), (.int (own_at (own_L2_12 e_a2_0 e_a2_1 e_a2_2 e_a2_3 e_a2_4) e_a2_2)), (.int e_a2_2), (.ref b435), (.int (own_at (own_L2_12 e_a2_0 e_a2_1 e_a2_2 e_a2_3 e_a2_4) e_a2_2))])) _
                                                      refine XS.iadd X800.here hx rfl (hb hby d2_301) rfl ?_
                                                      show Steps p.tables e below (T800.setTop (mkF m 302 #[.val (.ref a1), .val (.ref a2), .val (.ref a3), .val (.ref a4), .val (.ref a5), .val (.ref b435), .val (.int (2 : Int32)), .val (.int (own_at (own_L2_10 e_a2_0 e_a2_1 e_a2_2 e_a2_3 e_a2_4) e_a2_1)), .val (.int (5 : Int32)), .val (.int e_a2_4)] [(.int ((own_at (own_L2_12 e_a2_0 e_a2_1 e_a2_2 e_a2_3 e_a2_4) e_a2_2) + (1 : Int32))), (.int e_a2_2), (.ref b435), (.int (own_at (own_L2_12 e_a2_0 e_a2_1 e_a2_2 e_a2_3 e_a2_4) e_a2_2))])) _
                                                      refine st803 _ ?_
                                                      show Steps p.tables e below (T803.setTop (mkF m 303 #[.val (.ref a1), .val (.ref a2), .val (.ref a3), .val (.ref a4), .val (.ref a5), .val (.ref b435), .val (.int (2 : Int32)), .val (.int (own_at (own_L2_10 e_a2_0 e_a2_1 e_a2_2 e_a2_3 e_a2_4) e_a2_1)), .val (.int (5 : Int32)), .val (.int e_a2_4)] [(.int (own_at (own_L2_12 e_a2_0 e_a2_1 e_a2_2 e_a2_3 e_a2_4) e_a2_2))])) _
                                                      refine XS.istore X803.here hx rfl (hb hby d2_303) rfl (l' := #[.val (.ref a1), .val (.ref a2), .val (.ref a3), .val (.ref a4), .val (.ref a5), .val (.ref b435), .val (.int (2 : Int32)), .val (.int (own_at (own_L2_12 e_a2_0 e_a2_1 e_a2_2 e_a2_3 e_a2_4) e_a2_2)), .val (.int (5 : Int32)), .val (.int e_a2_4)]) rfl ?_
                                                      show Steps p.tables e below (T803.setTop (mkF m 305 #[.val (.ref a1), .val (.ref a2), .val (.ref a3), .val (.ref a4), .val (.ref a5), .val (.ref b435), .val (.int (2 : Int32)), .val (.int (own_at (own_L2_12 e_a2_0 e_a2_1 e_a2_2 e_a2_3 e_a2_4) e_a2_2)), .val (.int (5 : Int32)), .val (.int e_a2_4)] [])) _
                                                      refine XS.aloadN X803.here hx rfl (hb hby d2_305) rfl rfl ?_
                                                      show Steps p.tables e below (T803.setTop (mkF m 306 #[.val (.ref a1), .val (.ref a2), .val (.ref a3), .val (.ref a4), .val (.ref a5), .val (.ref b435), .val (.int (2 : Int32)), .val (.int (own_at (own_L2_12 e_a2_0 e_a2_1 e_a2_2 e_a2_3 e_a2_4) e_a2_2)), .val (.int (5 : Int32)), .val (.int e_a2_4)] [(.ref a1)])) _
                                                      refine st805 _ ?_
                                                      show Steps p.tables e below (T805.setTop (mkF m 309 #[.val (.ref a1), .val (.ref a2), .val (.ref a3), .val (.ref a4), .val (.ref a5), .val (.ref b435), .val (.int (2 : Int32)), .val (.int (own_at (own_L2_12 e_a2_0 e_a2_1 e_a2_2 e_a2_3 e_a2_4) e_a2_2)), .val (.int (5 : Int32)), .val (.int e_a2_4)] [(.ref b41)])) _
                                                      refine XS.iload X805.here hx rfl (hb hby d2_309) rfl ?_
                                                      show Steps p.tables e below (T805.setTop (mkF m 311 #[.val (.ref a1), .val (.ref a2), .val (.ref a3), .val (.ref a4), .val (.ref a5), .val (.ref b435), .val (.int (2 : Int32)), .val (.int (own_at (own_L2_12 e_a2_0 e_a2_1 e_a2_2 e_a2_3 e_a2_4) e_a2_2)), .val (.int (5 : Int32)), .val (.int e_a2_4)] [(.int (own_at (own_L2_12 e_a2_0 e_a2_1 e_a2_2 e_a2_3 e_a2_4) e_a2_2)), (.ref b41)])) _
                                                      refine XS.iload X805.here hx rfl (hb hby d2_311) rfl ?_
                                                      show Steps p.tables e below (T805.setTop (mkF m 313 #[.val (.ref a1), .val (.ref a2), .val (.ref a3), .val (.ref a4), .val (.ref a5), .val (.ref b435), .val (.int (2 : Int32)), .val (.int (own_at (own_L2_12 e_a2_0 e_a2_1 e_a2_2 e_a2_3 e_a2_4) e_a2_2)), .val (.int (5 : Int32)), .val (.int e_a2_4)] [(.int (2 : Int32)), (.int (own_at (own_L2_12 e_a2_0 e_a2_1 e_a2_2 e_a2_3 e_a2_4) e_a2_2)), (.ref b41)])) _
                                                      refine st807 _ ?_
                                                      show Steps p.tables e below (T807.setTop (mkF m 314 #[.val (.ref a1), .val (.ref a2), .val (.ref a3), .val (.ref a4), .val (.ref a5), .val (.ref b435), .val (.int (2 : Int32)), .val (.int (own_at (own_L2_12 e_a2_0 e_a2_1 e_a2_2 e_a2_3 e_a2_4) e_a2_2)), .val (.int (5 : Int32)), .val (.int e_a2_4)] [])) _
                                                      refine XS.aloadN X807.here hx rfl (hb hby d2_314) rfl rfl ?_
                                                      show Steps p.tables e below (T807.setTop (mkF m 315 #[.val (.ref a1), .val (.ref a2), .val (.ref a3), .val (.ref a4), .val (.ref a5), .val (.ref b435), .val (.int (2 : Int32)), .val (.int (own_at (own_L2_12 e_a2_0 e_a2_1 e_a2_2 e_a2_3 e_a2_4) e_a2_2)), .val (.int (5 : Int32)), .val (.int e_a2_4)] [(.ref a1)])) _
                                                      refine st809 _ ?_
                                                      show Steps p.tables e below (T809.setTop (mkF m 318 #[.val (.ref a1), .val (.ref a2), .val (.ref a3), .val (.ref a4), .val (.ref a5), .val (.ref b435), .val (.int (2 : Int32)), .val (.int (own_at (own_L2_12 e_a2_0 e_a2_1 e_a2_2 e_a2_3 e_a2_4) e_a2_2)), .val (.int (5 : Int32)), .val (.int e_a2_4)] [(.ref b47)])) _
                                                      refine XS.iload X809.here hx rfl (hb hby d2_318) rfl ?_
                                                      show Steps p.tables e below (T809.setTop (mkF m 320 #[.val (.ref a1), .val (.ref a2), .val (.ref a3), .val (.ref a4), .val (.ref a5), .val (.ref b435), .val (.int (2 : Int32)), .val (.int (own_at (own_L2_12 e_a2_0 e_a2_1 e_a2_2 e_a2_3 e_a2_4) e_a2_2)), .val (.int (5 : Int32)), .val (.int e_a2_4)] [(.int (2 : Int32)), (.ref b47)])) _
                                                      refine XS.iload X809.here hx rfl (hb hby d2_320) rfl ?_
                                                      show Steps p.tables e below (T809.setTop (mkF m 322 #[.val (.ref a1), .val (.ref a2), .val (.ref a3), .val (.ref a4), .val (.ref a5), .val (.ref b435), .val (.int (2 : Int32)), .val (.int (own_at (own_L2_12 e_a2_0 e_a2_1 e_a2_2 e_a2_3 e_a2_4) e_a2_2)), .val (.int (5 : Int32)), .val (.int e_a2_4)] [(.int (own_at (own_L2_12 e_a2_0 e_a2_1 e_a2_2 e_a2_3 e_a2_4) e_a2_2)), (.int (2 : Int32)), (.ref b47)])) _
                                                      refine st811 _ ?_
                                                      show Steps p.tables e below (T811.setTop (mkF m 323 #[.val (.ref a1), .val (.ref a2), .val (.ref a3), .val (.ref a4), .val (.ref a5), .val (.ref b435), .val (.int (2 : Int32)), .val (.int (own_at (own_L2_12 e_a2_0 e_a2_1 e_a2_2 e_a2_3 e_a2_4) e_a2_2)), .val (.int (5 : Int32)), .val (.int e_a2_4)] [])) _
                                                      refine XS.iinc X811.here hx rfl (hb hby d2_323) rfl (l' := #[.val (.ref a1), .val (.ref a2), .val (.ref a3), .val (.ref a4), .val (.ref a5), .val (.ref b435), .val (.int (3 : Int32)), .val (.int (own_at (own_L2_12 e_a2_0 e_a2_1 e_a2_2 e_a2_3 e_a2_4) e_a2_2)), .val (.int (5 : Int32)), .val (.int e_a2_4)]) rfl ?_
                                                      show Steps p.tables e below (T811.setTop (mkF m 326 #[.val (.ref a1), .val (.ref a2), .val (.ref a3), .val (.ref a4), .val (.ref a5), .val (.ref b435), .val (.int (3 : Int32)), .val (.int (own_at (own_L2_12 e_a2_0 e_a2_1 e_a2_2 e_a2_3 e_a2_4) e_a2_2)), .val (.int (5 : Int32)), .val (.int e_a2_4)] [])) _
                                                      refine XS.goto X811.here hx rfl (pc0 := 326) (pc' := 282) rfl (hb hby d2_326) (by decide) (by decide) ?_
                                                      exact kt
                                                    have fq813 := (Exa.wr W811 (Exa.wr W807 (Exa.wr W803 fq779)))
                                                    have fq814 := (Fld.other W811 (Fld.other W807 (Fld.other W803 fq780 (Or.inl ne_a1_b435)) (Or.inl ne_a1_b41)) (Or.inl ne_a1_b47))
                                                    have fq815 := (Fld.other W811 (Fld.other W807 (Fld.other W803 fq781 (Or.inl ne_a1_b435)) (Or.inl ne_a1_b41)) (Or.inl ne_a1_b47))
                                                    have fq816 := (Fld.other W811 (Fld.other W807 (Fld.other W803 fq782 (Or.inl ne_a1_b435)) (Or.inl ne_a1_b41)) (Or.inl ne_a1_b47))
                                                    have fq817 := (Fld.other W811 (Fld.other W807 (Fld.other W803 fq783 (Or.inl ne_a1_b435)) (Or.inl ne_a1_b41)) (Or.inl ne_a1_b47))
                                                    have fq818 := (Fld.other W811 (Fld.other W807 fq804 (Or.inl ne_a1_b41)) (Or.inl ne_a1_b47))
                                                    have fq819 := (Fld.other W811 fq808 (Or.inl ne_a1_b47))
                                                    have fq820 := (Fld.other W811 (Fld.other W807 (Fld.other W803 fq786 (Or.inl ne_a1_b435)) (Or.inl ne_a1_b41)) (Or.inl ne_a1_b47))
                                                    have fq821 := (Fld.other W811 (Fld.other W807 (Fld.other W803 fq787 (Or.inl ne_a1_b435)) (Or.inl ne_a1_b41)) (Or.inl ne_a1_b47))
                                                    have fq822 := (Fld.other W811 (Fld.other W807 (Fld.other W803 fq788 (Or.inl ne_a1_b435)) (Or.inl ne_a1_b41)) (Or.inl ne_a1_b47))
                                                    have fq823 := (Fld.other W811 (Fld.other W807 (Fld.other W803 fq789 (Or.inl ne_a1_b435)) (Or.inl ne_a1_b41)) (Or.inl ne_a1_b47))
                                                    have fq824 := (((fq790.other W803 ne_a2_b435).other W807 ne_a2_b41).other W811 ne_a2_b47)
                                                    have fq825 := (((fq791.other W803 ne_a4_b435).other W807 ne_a4_b41).other W811 ne_a4_b47)
                                                    have fq826 := (V807.other W811 ne_b41_b47)
                                                    have fq827 := (((fq793.other W803 ne_b85_b435).other W807 (Ne.symm ne_b41_b85)).other W811 (Ne.symm ne_b47_b85))
                                                    have fq828 := (((fq794.other W803 ne_b91_b435).other W807 (Ne.symm ne_b41_b91)).other W811 (Ne.symm ne_b47_b91))
                                                    have fq829 := (((fq795.other W803 ne_b133_b435).other W807 (Ne.symm ne_b41_b133)).other W811 (Ne.symm ne_b47_b133))
                                                    have fq830 := (((fq796.other W803 ne_b139_b435).other W807 (Ne.symm ne_b41_b139)).other W811 (Ne.symm ne_b47_b139))
                                                    have fq831 := ((V803.other W807 (Ne.symm ne_b41_b435)).other W811 (Ne.symm ne_b47_b435))
                                                    have z832 : n0 ≤ h811.size := (Nat.le_trans (Nat.le_trans (Nat.le_trans z798 (Keep.of_wr W803).1) (Keep.of_wr W807).1) (Keep.of_wr W811).1)
                                                    obtain ⟨Lc833, Xc833, Nc833⟩ : ∃ L, Stand p l e ({ frames := 1, cells := 18, slots := 86, locals := 13 } : Room) s m #[(.ref a1), (.ref a2), (.ref a3), (.ref a4), (.ref a5)] below meth c T811 L 18 86 ∧ Fr n0 L := ⟨_, X811, N811⟩
                                                    clear hl769 hl773 e777 V777 pre778 fq779 fq780 fq781 fq782 fq783 fq784 fq785 fq786 fq787 fq788 fq789 fq790 fq791 fq792 fq793 fq794 fq795 fq796 fq797 z798 Xc799 Nc799 X800 e800 st800 Ar801 aq801 S801 M801 H801 G801 hin801 hat801 Ar802 aq802 S802 M802 H802 G802 hin802 hat802 sd803 Vo803 Ar803 aq803 S803 M803 H803 G803 X803 e803 W803 st803 V803 N803 fq804 X805 e805 st805 fq806 sd807 Vo807 Ar807 aq807 S807 M807 H807 G807 X807 e807 W807 st807 V807 N807 fq808 X809 e809 st809 fq810 Ar811 aq811 S811 M811 H811 G811 hin811 X811 W811 st811 N811
                                                    try clear cl811
                                                    try clear T809
                                                    try clear h807
                                                    try clear T807
                                                    try clear cl807
                                                    try clear T805
                                                    try clear h803
                                                    try clear T803
                                                    try clear cl803
                                                    try clear cl802
                                                    try clear cl801
                                                    try clear T800
                                                    try clear Lc799
                                                    try clear h777
                                                    try clear T777
                                                    as_aux_lemma =>
                                                      obtain ⟨T834, X834, e834, st834⟩ := getF Xc833 hx hZ hown (host := "") (Or.inl hw15) Via.refl e811 fq817 (g := (mkF m 285 #[.val (.ref a1), .val (.ref a2), .val (.ref a3), .val (.ref a4), .val (.ref a5), .val (.ref b435), .val (.int (3 : Int32)), .val (.int (own_at (own_L2_12 e_a2_0 e_a2_1 e_a2_2 e_a2_3 e_a2_4) e_a2_2)), .val (.int (5 : Int32)), .val (.int e_a2_4)] [(.ref a1), (.int (3 : Int32))])) rfl rfl (hb hby d2_285)
                                                      obtain ⟨cl835, Ar835, aq835, S835, M835, H835, G835⟩ := id fq824
                                                      have hin835 : ¬ ((3 : Int32) < 0 ∨ cl835.slots.size ≤ ((3 : Int32)).toNatClampNeg) := inb_of S835 ⟨by decide, by decide⟩
                                                      have hat835 : cl835.slots[((3 : Int32)).toNatClampNeg]? = some (.int e_a2_3) := Has.at H835 hin835 rfl
                                                      obtain ⟨cl836, Ar836, aq836, S836, M836, H836, G836⟩ := id fq831
                                                      have hin836 : ¬ (e_a2_3 < 0 ∨ cl836.slots.size ≤ (e_a2_3).toNatClampNeg) := inb_of S836 (side_2_298_836 e_a2_0 e_a2_1 e_a2_2 e_a2_3 e_a2_4 hC)
                                                      have hat836 : cl836.slots[(e_a2_3).toNatClampNeg]? = some (.int (own_at (own_L2_14 e_a2_0 e_a2_1 e_a2_2 e_a2_3 e_a2_4) e_a2_3)) := Has.at H836 hin836 (own_getD (own_L2_14 e_a2_0 e_a2_1 e_a2_2 e_a2_3 e_a2_4) (e_a2_3).toNatClampNeg)
                                                      have sd837 : ¬ (e_a2_3 < 0) ∧ e_a2_3 < (6 : Int32) := (side_2_302_837 e_a2_0 e_a2_1 e_a2_2 e_a2_3 e_a2_4 hC)
                                                      have Vo837 : Arv Z h811 b435 k435 .int (6 : Int32) ((own_L2_14 e_a2_0 e_a2_1 e_a2_2 e_a2_3 e_a2_4).map Value.int) (.int (0 : Int32)) := fq831
                                                      obtain ⟨cl837, Ar837, aq837, S837, M837, H837, G837⟩ := id fq831
                                                      obtain ⟨T837, h837, X837, e837, W837, st837⟩ := stI X834 hx hZ e834 Ar837 (j := e_a2_3) (inb_of S837 sd837) (g := (mkF m 302 #[.val (.ref a1), .val (.ref a2), .val (.ref a3), .val (.ref a4), .val (.ref a5), .val (.ref b435), .val (.int (3 : Int32)), .val (.int (own_at (own_L2_12 e_a2_0 e_a2_1 e_a2_2 e_a2_3 e_a2_4) e_a2_2)), .val (.int (5 : Int32)), .val (.int e_a2_4)] [(.int ((own_at (own_L2_14 e_a2_0 e_a2_1 e_a2_2 e_a2_3 e_a2_4) e_a2_3) + (1 : Int32))), (.int e_a2_3), (.ref b435), (.int (own_at (own_L2_14 e_a2_0 e_a2_1 e_a2_2 e_a2_3 e_a2_4) e_a2_3))])) rfl rfl (hb hby d2_302)
                                                      have hl837 : (own_L2_16 e_a2_0 e_a2_1 e_a2_2 e_a2_3 e_a2_4).length = 6 := (List.length_set ..).trans hl803
                                                      have V837 : Arv Z h837 b435 k435 .int (6 : Int32) ((own_L2_16 e_a2_0 e_a2_1 e_a2_2 e_a2_3 e_a2_4).map Value.int) (.int (0 : Int32)) := own_setL Vo837 hl803 W837 sd837
                                                      have N837 := Fr.snoc X837 Nc833 g_b435
                                                      have fq838 := (Fld.other W837 fq818 (Or.inl ne_a1_b435))
                                                      obtain ⟨T839, X839, e839, st839⟩ := getF X837 hx hZ hown (host := "") (Or.inl hw23) Via.refl e837 fq838 (g := (mkF m 306 #[.val (.ref a1), .val (.ref a2), .val (.ref a3), .val (.ref a4), .val (.ref a5), .val (.ref b435), .val (.int (3 : Int32)), .val (.int (own_at (own_L2_14 e_a2_0 e_a2_1 e_a2_2 e_a2_3 e_a2_4) e_a2_3)), .val (.int (5 : Int32)), .val (.int e_a2_4)] [(.ref a1)])) rfl rfl (hb hby d2_306)
                                                      have fq840 := (fq826.other W837 ne_b41_b435)
                                                      have sd841 : ¬ ((own_at (own_L2_14 e_a2_0 e_a2_1 e_a2_2 e_a2_3 e_a2_4) e_a2_3) < 0) ∧ (own_at (own_L2_14 e_a2_0 e_a2_1 e_a2_2 e_a2_3 e_a2_4) e_a2_3) < (5 : Int32) := (side_2_313_841 e_a2_0 e_a2_1 e_a2_2 e_a2_3 e_a2_4 hC)
                                                      have Vo841 : Arv Z h837 b41 k41 .int (5 : Int32) ((own_L2_15 e_a2_0 e_a2_1 e_a2_2 e_a2_3 e_a2_4).map Value.int) (.int (0 : Int32)) := fq840
                                                      obtain ⟨cl841, Ar841, aq841, S841, M841, H841, G841⟩ := id fq840
                                                      obtain ⟨T841, h841, X841, e841, W841, st841⟩ := stI X839 hx hZ e839 Ar841 (j := (own_at (own_L2_14 e_a2_0 e_a2_1 e_a2_2 e_a2_3 e_a2_4) e_a2_3)) (inb_of S841 sd841) (g := (mkF m 313 #[.val (.ref a1), .val (.ref a2), .val (.ref a3), .val (.ref a4), .val (.ref a5), .val (.ref b435), .val (.int (3 : Int32)), .val (.int (own_at (own_L2_14 e_a2_0 e_a2_1 e_a2_2 e_a2_3 e_a2_4) e_a2_3)), .val (.int (5 : Int32)), .val (.int e_a2_4)] [(.int (3 : Int32)), (.int (own_at (own_L2_14 e_a2_0 e_a2_1 e_a2_2 e_a2_3 e_a2_4) e_a2_3)), (.ref b41)])) rfl rfl (hb hby d2_313)
                                                      have hl841 : (own_L2_17 e_a2_0 e_a2_1 e_a2_2 e_a2_3 e_a2_4).length = 5 := (List.length_set ..).trans hl807
                                                      have V841 : Arv Z h841 b41 k41 .int (5 : Int32) ((own_L2_17 e_a2_0 e_a2_1 e_a2_2 e_a2_3 e_a2_4).map Value.int) (.int (0 : Int32)) := own_setL Vo841 hl807 W841 sd841
                                                      have N841 := Fr.snoc X841 N837 g_b41
                                                      have fq842 := (Fld.other W841 (Fld.other W837 fq819 (Or.inl ne_a1_b435)) (Or.inl ne_a1_b41))
                                                      obtain ⟨T843, X843, e843, st843⟩ := getF X841 hx hZ hown (host := "") (Or.inl hw25) Via.refl e841 fq842 (g := (mkF m 315 #[.val (.ref a1), .val (.ref a2), .val (.ref a3), .val (.ref a4), .val (.ref a5), .val (.ref b435), .val (.int (3 : Int32)), .val (.int (own_at (own_L2_14 e_a2_0 e_a2_1 e_a2_2 e_a2_3 e_a2_4) e_a2_3)), .val (.int (5 : Int32)), .val (.int e_a2_4)] [(.ref a1)])) rfl rfl (hb hby d2_315)
                                                      have fq844 := ((V811.other W837 ne_b47_b435).other W841 (Ne.symm ne_b41_b47))
                                                      obtain ⟨cl845, Ar845, aq845, S845, M845, H845, G845⟩ := id fq844
                                                      have hin845 : ¬ ((3 : Int32) < 0 ∨ cl845.slots.size ≤ ((3 : Int32)).toNatClampNeg) := inb_of S845 ⟨by decide, by decide⟩
                                                      obtain ⟨T845, h845, X845, e845, W845, st845⟩ := stI X843 hx hZ e843 Ar845 (j := (3 : Int32)) hin845 (g := (mkF m 322 #[.val (.ref a1), .val (.ref a2), .val (.ref a3), .val (.ref a4), .val (.ref a5), .val (.ref b435), .val (.int (3 : Int32)), .val (.int (own_at (own_L2_14 e_a2_0 e_a2_1 e_a2_2 e_a2_3 e_a2_4) e_a2_3)), .val (.int (5 : Int32)), .val (.int e_a2_4)] [(.int (own_at (own_L2_14 e_a2_0 e_a2_1 e_a2_2 e_a2_3 e_a2_4) e_a2_3)), (.int (3 : Int32)), (.ref b47)])) rfl rfl (hb hby d2_322)
                                                      have V845 : Arv Z h845 b47 k47 .int (5 : Int32) [(.int (own_at (own_L2_9 e_a2_0 e_a2_1 e_a2_2 e_a2_3 e_a2_4) e_a2_0)), (.int (own_at (own_L2_10 e_a2_0 e_a2_1 e_a2_2 e_a2_3 e_a2_4) e_a2_1)), (.int (own_at (own_L2_12 e_a2_0 e_a2_1 e_a2_2 e_a2_3 e_a2_4) e_a2_2)), (.int (own_at (own_L2_14 e_a2_0 e_a2_1 e_a2_2 e_a2_3 e_a2_4) e_a2_3)), (.int (0 : Int32))] (.int (0 : Int32)) := Arv.set Ar845 aq845 S845 M845 H845 G845 rfl W845 3 rfl (Nat.le_of_ble_eq_true rfl)
                                                      have N845 := Fr.snoc X845 N841 g_b47
                                                      have pre846 : ∀ t, Steps p.tables e below (T845.setTop (mkF m 282 #[.val (.ref a1), .val (.ref a2), .val (.ref a3), .val (.ref a4), .val (.ref a5), .val (.ref b435), .val (.int (4 : Int32)), .val (.int (own_at (own_L2_14 e_a2_0 e_a2_1 e_a2_2 e_a2_3 e_a2_4) e_a2_3)), .val (.int (5 : Int32)), .val (.int e_a2_4)] [])) t → Steps p.tables e below (s₁.setTop (entryFrame m #[(.ref a1), (.ref a2), (.ref a3), (.ref a4), (.ref a5)] 10)) t := fun t kt => by
                                                        refine pre812 t ?_
                                                        show Steps p.tables e below (T811.setTop (mkF m 282 #[.val (.ref a1), .val (.ref a2), .val (.ref a3), .val (.ref a4), .val (.ref a5), .val (.ref b435), .val (.int (3 : Int32)), .val (.int (own_at (own_L2_12 e_a2_0 e_a2_1 e_a2_2 e_a2_3 e_a2_4) e_a2_2)), .val (.int (5 : Int32)), .val (.int e_a2_4)] [])) _
                                                        refine XS.iload Xc833.here hx rfl (hb hby d2_282) rfl ?_
                                                        show Steps p.tables e below (T811.setTop (mkF m 284 #[.val (.ref a1), .val (.ref a2), .val (.ref a3), .val (.ref a4), .val (.ref a5), .val (.ref b435), .val (.int (3 : Int32)), .val (.int (own_at (own_L2_12 e_a2_0 e_a2_1 e_a2_2 e_a2_3 e_a2_4) e_a2_2)), .val (.int (5 : Int32)), .val (.int e_a2_4)] [(.int (3 : Int32))])) _
                                                        refine XS.aloadN Xc833.here hx rfl (hb hby d2_284) rfl rfl ?_
                                                        show Steps p.tables e below (T811.setTop (mkF m 285 #[.val (.ref a1), .val (.ref a2), .val (.ref a3), .val (.ref a4), .val (.ref a5), .val (.ref b435), .val (.int (3 : Int32)), .val (.int (own_at (own_L2_12 e_a2_0 e_a2_1 e_a2_2 e_a2_3 e_a2_4) e_a2_2)), .val (.int (5 : Int32)), .val (.int e_a2_4)] [(.ref a1), (.int (3 : Int32))])) _
                                                        refine st834 _ ?_
                                                        show Steps p.tables e below (T834.setTop (mkF m 288 #[.val (.ref a1), .val (.ref a2), .val (.ref a3), .val (.ref a4), .val (.ref a5), .val (.ref b435), .val (.int (3 : Int32)), .val (.int (own_at (own_L2_12 e_a2_0 e_a2_1 e_a2_2 e_a2_3 e_a2_4) e_a2_2)), .val (.int (5 : Int32)), .val (.int e_a2_4)] [(.int (5 : Int32)), (.int (3 : Int32))])) _
                                                        refine XS.icmpNo X834.here hx rfl (hb hby d2_288) rfl (tlt (by decide : (3 : Int32) < (5 : Int32))).2.1 ?_
                                                        show Steps p.tables e below (T834.setTop (mkF m 291 #[.val (.ref a1), .val (.ref a2), .val (.ref a3), .val (.ref a4), .val (.ref a5), .val (.ref b435), .val (.int (3 : Int32)), .val (.int (own_at (own_L2_12 e_a2_0 e_a2_1 e_a2_2 e_a2_3 e_a2_4) e_a2_2)), .val (.int (5 : Int32)), .val (.int e_a2_4)] [])) _
                                                        refine XS.aload X834.here hx rfl (hb hby d2_291) rfl rfl ?_
                                                        show Steps p.tables e below (T834.setTop (mkF m 293 #[.val (.ref a1), .val (.ref a2), .val (.ref a3), .val (.ref a4), .val (.ref a5), .val (.ref b435), .val (.int (3 : Int32)), .val (.int (own_at (own_L2_12 e_a2_0 e_a2_1 e_a2_2 e_a2_3 e_a2_4) e_a2_2)), .val (.int (5 : Int32)), .val (.int e_a2_4)] [(.ref b435)])) _
                                                        refine XS.aloadN X834.here hx rfl (hb hby d2_293) rfl rfl ?_
                                                        show Steps p.tables e below (T834.setTop (mkF m 294 #[.val (.ref a1), .val (.ref a2), .val (.ref a3), .val (.ref a4), .val (.ref a5), .val (.ref b435), .val (.int (3 : Int32)), .val (.int (own_at (own_L2_12 e_a2_0 e_a2_1 e_a2_2 e_a2_3 e_a2_4) e_a2_2)), .val (.int (5 : Int32)), .val (.int e_a2_4)] [(.ref a2), (.ref b435)])) _
                                                        refine XS.iload X834.here hx rfl (hb hby d2_294) rfl ?_
                                                        show Steps p.tables e below (T834.setTop (mkF m 296 #[.val (.ref a1), .val (.ref a2), .val (.ref a3), .val (.ref a4), .val (.ref a5), .val (.ref b435), .val (.int (3 : Int32)), .val (.int (own_at (own_L2_12 e_a2_0 e_a2_1 e_a2_2 e_a2_3 e_a2_4) e_a2_2)), .val (.int (5 : Int32)), .val (.int e_a2_4)] [(.int (3 : Int32)), (.ref a2), (.ref b435)])) _
                                                        refine X834.iaload hx (j := (3 : Int32)) (v := (.int e_a2_3)) (by rw [e834]; exact Ar835.1) (State.isArrayOf_alike hZ.alike Ar835.2.1) Ar835.2.2 hin835 hat835 (g := (mkF m 296 #[.val (.ref a1), .val (.ref a2), .val (.ref a3), .val (.ref a4), .val (.ref a5), .val (.ref b435), .val (.int (3 : Int32)), .val (.int (own_at (own_L2_12 e_a2_0 e_a2_1 e_a2_2 e_a2_3 e_a2_4) e_a2_2)), .val (.int (5 : Int32)), .val (.int e_a2_4)] [(.int (3 : Int32)), (.ref a2), (.ref b435)])) rfl rfl (hb hby d2_296) _ ?_
                                                        show Steps p.tables e below (T834.setTop (mkF m 297 #[.val (.ref a1), .val (.ref a2), .val (.ref a3), .val (.ref a4), .val (.ref a5), .val (.ref b435), .val (.int (3 : Int32)), .val (.int (own_at (own_L2_12 e_a2_0 e_a2_1 e_a2_2 e_a2_3 e_a2_4) e_a2_2)), .val (.int (5 : Int32)), .val (.int e_a2_4)] [(.int e_a2_3), (.ref b435)])) _
                                                        refine XT.dup2 X834.here hx rfl (hb hby d2_297) rfl rfl rfl ?_
                                                        show Steps p.tables e below (T834.setTop (mkF m 298 #[.val (.ref a1), .val (.ref a2), .val (.ref a3), .val (.ref a4), .val (.ref a5), .val (.ref b435), .val (.int (3 : Int32)), .val (.int (own_at (own_L2_12 e_a2_0 e_a2_1 e_a2_2 e_a2_3 e_a2_4) e_a2_2)), .val (.int (5 : Int32)), .val (.int e_a2_4)] [(.int e_a2_3), (.ref b435), (.int e_a2_3), (.ref b435)])) _
                                                        refine X834.iaload hx (j := e_a2_3) (v := (.int (own_at (own_L2_14 e_a2_0 e_a2_1 e_a2_2 e_a2_3 e_a2_4) e_a2_3))) (by rw [e834]; exact Ar836.1) (State.isArrayOf_alike hZ.alike Ar836.2.1) Ar836.2.2 hin836 hat836 (g := (mkF m 298 #[.val (.ref a1), .val (.ref a2), .val (.ref a3), .val (.ref a4), .val (.ref a5), .val (.ref b435), .val (.int (3 : Int32)), .val (.int (own_at (own_L2_12 e_a2_0 e_a2_1 e_a2_2 e_a2_3 e_a2_4) e_a2_2)), .val (.int (5 : Int32)), .val (.int e_a2_4)] [(.int e_a2_3), (.ref b435), (.int e_a2_3), (.ref b435)])) rfl rfl (hb hby d2_298) _ ?_
                                                        show Steps p.tables e below (T834.setTop (mkF m 299 #[.val (.ref a1), .val (.ref a2), .val (.ref a3), .val (.ref a4), .val (.ref a5), .val (.ref b435), .val (.int (3 : Int32)), .val (.int (own_at (own_L2_12 e_a2_0 e_a2_1 e_a2_2 e_a2_3 e_a2_4) e_a2_2)), .val (.int (5 : Int32)), .val (.int e_a2_4)] [(.int (own_at (own_L2_14 e_a2_0 e_a2_1 e_a2_2 e_a2_3 e_a2_4) e_a2_3)), (.int e_a2_3), (.ref b435)])) _
                                                        jvm_step X834.here [X834.here.top, hx, (hb hby d2_299), Value.category]
                                                        show Steps p.tables e below (T834.setTop (mkF m 300 #[.val (.ref a1), .val (.ref a2), .val (.ref a3), .val (.ref a4), .val (.ref a5), .val (.ref b435), .val (.int (3 : Int32)), .val (.int (own_at (own_L2_12 e_a2_0 e_a2_1 e_a2_2 e_a2_3 e_a2_4) e_a2_2)), .val (.int (5 : Int32)), .val (.int e_a2_4)] [(.int (own_at (own_L2_14 e_a2_0 e_a2_1 e_a2_2 e_a2_3 e_a2_4) e_a2_3)), (.int e_a2_3), (.ref b435), (.int (own_at (own_L2_14 e_a2_0 e_a2_1 e_a2_2 e_a2_3 e_a2_4) e_a2_3))])) _
                                                        refine XS.iconst X834.here hx rfl (hb hby d2_300) ?_
                                                        show Steps p.tables e below (T834.setTop (mkF m 301 #[.val (.ref a1), .val (.ref a2), .val (.ref a3), .val (.ref a4), .val (.ref a5), .val (.ref b435), .val (.int (3 : Int32)), .val (.int (own_at (own_L2_12 e_a2_0 e_a2_1 e_a2_2 e_a2_3 e_a2_4) e_a2_2)), .val (.int (5 : Int32)), .val (.int e_a2_4)] [(.int (1 : Int32)), (.int (own_at (own_L2_14 e_a2_0 e_a2_1 e_a2_2 e_a2_3 e_a2_4) e_a2_3)), (.int e_a2_3), (.ref b435), (.int (own_at (own_L2_14 e_a2_0 e_a2_1 e_a2_2 e_a2_3 e_a2_4) e_a2_3))])) _
                                                        refine XS.iadd X834.here hx rfl (hb hby d2_301) rfl ?_
                                                        show Steps p.tables e below (T834.setTop (mkF m 302 #[.val (.ref a1), .val (.ref a2), .val (.ref a3), .val (.ref a4), .val (.ref a5), .val (.ref b435), .val (.int (3 : Int32)), .val (.int (own_at (own_L2_12 e_a2_0 e_a2_1 e_a2_2 e_a2_3 e_a2_4) e_a2_2)), .val (.int (5 : Int32)), .val (.int e_a2_4)] [(.int ((own_at (own_L2_14 e_a2_0 e_a2_1 e_a2_2 e_a2_3 e_a2_4) e_a2_3) + (1 : Int32))), (.int e_a2_3), (.ref b435), (.int (own_at (own_L2_14 e_a2_0 e_a2_1 e_a2_2 e_a2_3 e_a2_4) e_a2_3))])) _
                                                        refine st837 _ ?_
                                                        show Steps p.tables e below (T837.setTop (mkF m 303 #[.val (.ref a1), .val (.ref a2), .val (.ref a3), .val (.ref a4), .val (.ref a5), .val (.ref b435), .val (.int (3 : Int32)), .val (.int (own_at (own_L2_12 e_a2_0 e_a2_1 e_a2_2 e_a2_3 e_a2_4) e_a2_2)), .val (.int (5 : Int32)), .val (.int e_a2_4)] [(.int (own_at (own_L2_14 e_a2_0 e_a2_1 e_a2_2 e_a2_3 e_a2_4) e_a2_3))])) _
                                                        refine XS.istore X837.here hx rfl (hb hby d2_303) rfl (l' := #[.val (.ref a1), .val (.ref a2), .val (.ref a3), .val (.ref a4), .val (.ref a5), .val (.ref b435), .val (.int (3 : Int32)), .val (.int (own_at (own_L2_14 e_a2_0 e_a2_1 e_a2_2 e_a2_3 e_a2_4) e_a2_3)), .val (.int (5 : Int32)), .val (.int e_a2_4)]) rfl ?_
                                                        show Steps p.tables e below (T837.setTop (mkF m 305 #[.val (.ref a1), .val (.ref a2), .val (.ref a3), .val (.ref a4), .val (.ref a5), .val (.ref b435), .val (.int (3 : Int32)), .val (.int (own_at (own_L2_14 e_a2_0 e_a2_1 e_a2_2 e_a2_3 e_a2_4) e_a2_3)), .val (.int (5 : Int32)), .val (.int e_a2_4)] [])) _
                                                        refine XS.aloadN X837.here hx rfl (hb hby d2_305) rfl rfl ?_
                                                        show Steps p.tables e below (T837.setTop (mkF m 306 #[.val (.ref a1), .val (.ref a2), .val (.ref a3), .val (.ref a4), .val (.ref a5), .val (.ref b435), .val (.int (3 : Int32)), .val (.int (own_at (own_L2_14 e_a2_0 e_a2_1 e_a2_2 e_a2_3 e_a2_4) e_a2_3)), .val (.int (5 : Int32)), .val (.int e_a2_4)] [(.ref a1)])) _
                                                        refine st839 _ ?_
                                                        show Steps p.tables e below (T839.setTop (mkF m 309 #[.val (.ref a1), .val (.ref a2), .val (.ref a3), .val (.ref a4), .val (.ref a5), .val (.ref b435), .val (.int (3 : Int32)), .val (.int (own_at (own_L2_14 e_a2_0 e_a2_1 e_a2_2 e_a2_3 e_a2_4) e_a2_3)), .val (.int (5 : Int32)), .val (.int e_a2_4)] [(.ref b41)])) _
                                                        refine XS.iload X839.here hx rfl (hb hby d2_309) rfl ?_
                                                        show Steps p.tables e below (T839.setTop (mkF m 311 #[.val (.ref a1), .val (.ref a2), .val (.ref a3), .val (.ref a4), .val (.ref a5), .val (.ref b435), .val (.int (3 : Int32)), .val (.int (own_at (own_L2_14 e_a2_0 e_a2_1 e_a2_2 e_a2_3 e_a2_4) e_a2_3)), .val (.int (5 : Int32)), .val (.int e_a2_4)] [(.int (own_at (own_L2_14 e_a2_0 e_a2_1 e_a2_2 e_a2_3 e_a2_4) e_a2_3)), (.ref b41)])) _
                                                        refine XS.iload X839.here hx rfl (hb hby d2_311) rfl ?_
                                                        show Steps p.tables e below (T839.setTop (mkF m 313 #[.val (.ref a1), .val (.ref a2), .val (.ref a3), .val (.ref a4), .val (.ref a5), .val (.ref b435), .val (.int (3 : Int32)), .val (.int (own_at (own_L2_14 e_a2_0 e_a2_1 e_a2_2 e_a2_3 e_a2_4) e_a2_3)), .val (.int (5 : Int32)), .val (.int e_a2_4)] [(.int (3 : Int32)), (.int (own_at (own_L2_14 e_a2_0 e_a2_1 e_a2_2 e_a2_3 e_a2_4) e_a2_3)), (.ref b41)])) _
                                                        refine st841 _ ?_
                                                        show Steps p.tables e below (T841.setTop (mkF m 314 #[.val (.ref a1), .val (.ref a2), .val (.ref a3), .val (.ref a4), .val (.ref a5), .val (.ref b435), .val (.int (3 : Int32)), .val (.int (own_at (own_L2_14 e_a2_0 e_a2_1 e_a2_2 e_a2_3 e_a2_4) e_a2_3)), .val (.int (5 : Int32)), .val (.int e_a2_4)] [])) _
                                                        refine XS.aloadN X841.here hx rfl (hb hby d2_314) rfl rfl ?_
                                                        show Steps p.tables e below (T841.setTop (mkF m 315 #[.val (.ref a1), .val (.ref a2), .val (.ref a3), .val (.ref a4), .val (.ref a5), .val (.ref b435), .val (.int (3 : Int32)), .val (.int (own_at (own_L2_14 e_a2_0 e_a2_1 e_a2_2 e_a2_3 e_a2_4) e_a2_3)), .val (.int (5 : Int32)), .val (.int e_a2_4)] [(.ref a1)])) _
                                                        refine st843 _ ?_
                                                        show Steps p.tables e below (T843.setTop (mkF m 318 #[.val (.ref a1), .val (.ref a2), .val (.ref a3), .val (.ref a4), .val (.ref a5), .val (.ref b435), .val (.int (3 : Int32)), .val (.int (own_at (own_L2_14 e_a2_0 e_a2_1 e_a2_2 e_a2_3 e_a2_4) e_a2_3)), .val (.int (5 : Int32)), .val (.int e_a2_4)] [(.ref b47)])) _
                                                        refine XS.iload X843.here hx rfl (hb hby d2_318) rfl ?_
                                                        show Steps p.tables e below (T843.setTop (mkF m 320 #[.val (.ref a1), .val (.ref a2), .val (.ref a3), .val (.ref a4), .val (.ref a5), .val (.ref b435), .val (.int (3 : Int32)), .val (.int (own_at (own_L2_14 e_a2_0 e_a2_1 e_a2_2 e_a2_3 e_a2_4) e_a2_3)), .val (.int (5 : Int32)), .val (.int e_a2_4)] [(.int (3 : Int32)), (.ref b47)])) _
                                                        refine XS.iload X843.here hx rfl (hb hby d2_320) rfl ?_
                                                        show Steps p.tables e below (T843.setTop (mkF m 322 #[.val (.ref a1), .val (.ref a2), .val (.ref a3), .val (.ref a4), .val (.ref a5), .val (.ref b435), .val (.int (3 : Int32)), .val (.int (own_at (own_L2_14 e_a2_0 e_a2_1 e_a2_2 e_a2_3 e_a2_4) e_a2_3)), .val (.int (5 : Int32)), .val (.int e_a2_4)] [(.int (own_at (own_L2_14 e_a2_0 e_a2_1 e_a2_2 e_a2_3 e_a2_4) e_a2_3)), (.int (3 : Int32)), (.ref b47)])) _
                                                        refine st845 _ ?_
                                                        show Steps p.tables e below (T845.setTop (mkF m 323 #[.val (.ref a1), .val (.ref a2), .val (.ref a3), .val (.ref a4), .val (.ref a5), .val (.ref b435), .val (.int (3 : Int32)), .val (.int (own_at (own_L2_14 e_a2_0 e_a2_1 e_a2_2 e_a2_3 e_a2_4) e_a2_3)), .val (.int (5 : Int32)), .val (.int e_a2_4)] [])) _
                                                        refine XS.iinc X845.here hx rfl (hb hby d2_323) rfl (l' := #[.val (.ref a1), .val (.ref a2), .val (.ref a3), .val (.ref a4), .val (.ref a5), .val (.ref b435), .val (.int (4 : Int32)), .val (.int (own_at (own_L2_14 e_a2_0 e_a2_1 e_a2_2 e_a2_3 e_a2_4) e_a2_3)), .val (.int (5 : Int32)), .val (.int e_a2_4)]) rfl ?_
                                                        show Steps p.tables e below (T845.setTop (mkF m 326 #[.val (.ref a1), .val (.ref a2), .val (.ref a3), .val (.ref a4), .val (.ref a5), .val (.ref b435), .val (.int (4 : Int32)), .val (.int (own_at (own_L2_14 e_a2_0 e_a2_1 e_a2_2 e_a2_3 e_a2_4) e_a2_3)), .val (.int (5 : Int32)), .val (.int e_a2_4)] [])) _
                                                        refine XS.goto X845.here hx rfl (pc0 := 326) (pc' := 282) rfl (hb hby d2_326) (by decide) (by decide) ?_
                                                        exact kt
                                                      have fq847 := (Exa.wr W845 (Exa.wr W841 (Exa.wr W837 fq813)))
                                                      have fq848 := (Fld.other W845 (Fld.other W841 (Fld.other W837 fq814 (Or.inl ne_a1_b435)) (Or.inl ne_a1_b41)) (Or.inl ne_a1_b47))
                                                      have fq849 := (Fld.other W845 (Fld.other W841 (Fld.other W837 fq815 (Or.inl ne_a1_b435)) (Or.inl ne_a1_b41)) (Or.inl ne_a1_b47))
                                                      have fq850 := (Fld.other W845 (Fld.other W841 (Fld.other W837 fq816 (Or.inl ne_a1_b435)) (Or.inl ne_a1_b41)) (Or.inl ne_a1_b47))
                                                      have fq851 := (Fld.other W845 (Fld.other W841 (Fld.other W837 fq817 (Or.inl ne_a1_b435)) (Or.inl ne_a1_b41)) (Or.inl ne_a1_b47))
                                                      have fq852 := (Fld.other W845 (Fld.other W841 fq838 (Or.inl ne_a1_b41)) (Or.inl ne_a1_b47))
                                                      have fq853 := (Fld.other W845 fq842 (Or.inl ne_a1_b47))
                                                      have fq854 := (Fld.other W845 (Fld.other W841 (Fld.other W837 fq820 (Or.inl ne_a1_b435)) (Or.inl ne_a1_b41)) (Or.inl ne_a1_b47))
                                                      have fq855 := (Fld.other W845 (Fld.other W841 (Fld.other W837 fq821 (Or.inl ne_a1_b435)) (Or.inl ne_a1_b41)) (Or.inl ne_a1_b47))
                                                      have fq856 := (Fld.other W845 (Fld.other W841 (Fld.other W837 fq822 (Or.inl ne_a1_b435)) (Or.inl ne_a1_b41)) (Or.inl ne_a1_b47))
                                                      have fq857 := (Fld.other W845 (Fld.other W841 (Fld.other W837 fq823 (Or.inl ne_a1_b435)) (Or.inl ne_a1_b41)) (Or.inl ne_a1_b47))
                                                      have fq858 := (((fq824.other W837 ne_a2_b435).other W841 ne_a2_b41).other W845 ne_a2_b47)
                                                      have fq859 := (((fq825.other W837 ne_a4_b435).other W841 ne_a4_b41).other W845 ne_a4_b47)
                                                      have fq860 := (V841.other W845 ne_b41_b47)
                                                      have fq861 := (((fq827.other W837 ne_b85_b435).other W841 (Ne.symm ne_b41_b85)).other W845 (Ne.symm ne_b47_b85))
                                                      have fq862 := (((fq828.other W837 ne_b91_b435).other W841 (Ne.symm ne_b41_b91)).other W845 (Ne.symm ne_b47_b91))
                                                      have fq863 := (((fq829.other W837 ne_b133_b435).other W841 (Ne.symm ne_b41_b133)).other W845 (Ne.symm ne_b47_b133))
                                                      have fq864 := (((fq830.other W837 ne_b139_b435).other W841 (Ne.symm ne_b41_b139)).other W845 (Ne.symm ne_b47_b139))
                                                      have fq865 := ((V837.other W841 (Ne.symm ne_b41_b435)).other W845 (Ne.symm ne_b47_b435))
                                                      have z866 : n0 ≤ h845.size := (Nat.le_trans (Nat.le_trans (Nat.le_trans z832 (Keep.of_wr W837).1) (Keep.of_wr W841).1) (Keep.of_wr W845).1)
                                                      obtain ⟨Lc867, Xc867, Nc867⟩ : ∃ L, Stand p l e ({ frames := 1, cells := 18, slots := 86, locals := 13 } : Room) s m #[(.ref a1), (.ref a2), (.ref a3), (.ref a4), (.ref a5)] below meth c T845 L 18 86 ∧ Fr n0 L := ⟨_, X845, N845⟩
                                                      clear hl803 hl807 e811 V811 pre812 fq813 fq814 fq815 fq816 fq817 fq818 fq819 fq820 fq821 fq822 fq823 fq824 fq825 fq826 fq827 fq828 fq829 fq830 fq831 z832 Xc833 Nc833 X834 e834 st834 Ar835 aq835 S835 M835 H835 G835 hin835 hat835 Ar836 aq836 S836 M836 H836 G836 hin836 hat836 sd837 Vo837 Ar837 aq837 S837 M837 H837 G837 X837 e837 W837 st837 V837 N837 fq838 X839 e839 st839 fq840 sd841 Vo841 Ar841 aq841 S841 M841 H841 G841 X841 e841 W841 st841 V841 N841 fq842 X843 e843 st843 fq844 Ar845 aq845 S845 M845 H845 G845 hin845 X845 W845 st845 N845
                                                      try clear cl845
                                                      try clear T843
                                                      try clear h841
                                                      try clear T841
                                                      try clear cl841
                                                      try clear T839
                                                      try clear h837
                                                      try clear T837
                                                      try clear cl837
                                                      try clear cl836
                                                      try clear cl835
                                                      try clear T834
                                                      try clear Lc833
                                                      try clear h811
                                                      try clear T811
                                                      as_aux_lemma =>
                                                        obtain ⟨T868, X868, e868, st868⟩ := getF Xc867 hx hZ hown (host := "") (Or.inl hw15) Via.refl e845 fq851 (g := (mkF m 285 #[.val (.ref a1), .val (.ref a2), .val (.ref a3), .val (.ref a4), .val (.ref a5), .val (.ref b435), .val (.int (4 : Int32)), .val (.int (own_at (own_L2_14 e_a2_0 e_a2_1 e_a2_2 e_a2_3 e_a2_4) e_a2_3)), .val (.int (5 : Int32)), .val (.int e_a2_4)] [(.ref a1), (.int (4 : Int32))])) rfl rfl (hb hby d2_285)
                                                        obtain ⟨cl869, Ar869, aq869, S869, M869, H869, G869⟩ := id fq858
                                                        have hin869 : ¬ ((4 : Int32) < 0 ∨ cl869.slots.size ≤ ((4 : Int32)).toNatClampNeg) := inb_of S869 ⟨by decide, by decide⟩
                                                        have hat869 : cl869.slots[((4 : Int32)).toNatClampNeg]? = some (.int e_a2_4) := Has.at H869 hin869 rfl
                                                        obtain ⟨cl870, Ar870, aq870, S870, M870, H870, G870⟩ := id fq865
                                                        have hin870 : ¬ (e_a2_4 < 0 ∨ cl870.slots.size ≤ (e_a2_4).toNatClampNeg) := inb_of S870 (side_2_298_870 e_a2_0 e_a2_1 e_a2_2 e_a2_3 e_a2_4 hC)
                                                        have hat870 : cl870.slots[(e_a2_4).toNatClampNeg]? = some (.int (own_at (own_L2_16 e_a2_0 e_a2_1 e_a2_2 e_a2_3 e_a2_4) e_a2_4)) := Has.at H870 hin870 (own_getD (own_L2_16 e_a2_0 e_a2_1 e_a2_2 e_a2_3 e_a2_4) (e_a2_4).toNatClampNeg)
                                                        have sd871 : ¬ (e_a2_4 < 0) ∧ e_a2_4 < (6 : Int32) := (side_2_302_871 e_a2_0 e_a2_1 e_a2_2 e_a2_3 e_a2_4 hC)
                                                        have Vo871 : Arv Z h845 b435 k435 .int (6 : Int32) ((own_L2_16 e_a2_0 e_a2_1 e_a2_2 e_a2_3 e_a2_4).map Value.int) (.int (0 : Int32)) := fq865
                                                        obtain ⟨cl871, Ar871, aq871, S871, M871, H871, G871⟩ := id fq865
                                                        obtain ⟨T871, h871, X871, e871, W871, st871⟩ := stI X868 hx hZ e868 Ar871 (j := e_a2_4) (inb_of S871 sd871) (g := (mkF m 302 #[.val (.ref a1), .val (.ref a2), .val (.ref a3), .val (.ref a4), .val (.ref a5), .val (.ref b435), .val (.int (4 : Int32)), .val (.int (own_at (own_L2_14 e_a2_0 e_a2_1 e_a2_2 e_a2_3 e_a2_4) e_a2_3)), .val (.int (5 : Int32)), .val (.int e_a2_4)] [(.int ((own_at (own_L2_16 e_a2_0 e_a2_1 e_a2_2 e_a2_3 e_a2_4) e_a2_4) + (1 : Int32))), (.int e_a2_4), (.ref b435), (.int (own_at (own_L2_16 e_a2_0 e_a2_1 e_a2_2 e_a2_3 e_a2_4) e_a2_4))])) rfl rfl (hb hby d2_302)
                                                        have hl871 : (own_L2_18 e_a2_0 e_a2_1 e_a2_2 e_a2_3 e_a2_4).length = 6 := (List.length_set ..).trans hl837
                                                        have V871 : Arv Z h871 b435 k435 .int (6 : Int32) ((own_L2_18 e_a2_0 e_a2_1 e_a2_2 e_a2_3 e_a2_4).map Value.int) (.int (0 : Int32)) := own_setL Vo871 hl837 W871 sd871
                                                        have N871 := Fr.snoc X871 Nc867 g_b435
                                                        have fq872 := (Fld.other W871 fq852 (Or.inl ne_a1_b435))
                                                        obtain ⟨T873, X873, e873, st873⟩ := getF X871 hx hZ hown (host := "") (Or.inl hw23) Via.refl e871 fq872 (g := (mkF m 306 #[.val (.ref a1), .val (.ref a2), .val (.ref a3), .val (.ref a4), .val (.ref a5), .val (.ref b435), .val (.int (4 : Int32)), .val (.int (own_at (own_L2_16 e_a2_0 e_a2_1 e_a2_2 e_a2_3 e_a2_4) e_a2_4)), .val (.int (5 : Int32)), .val (.int e_a2_4)] [(.ref a1)])) rfl rfl (hb hby d2_306)
                                                        have fq874 := (fq860.other W871 ne_b41_b435)
                                                        have sd875 : ¬ ((own_at (own_L2_16 e_a2_0 e_a2_1 e_a2_2 e_a2_3 e_a2_4) e_a2_4) < 0) ∧ (own_at (own_L2_16 e_a2_0 e_a2_1 e_a2_2 e_a2_3 e_a2_4) e_a2_4) < (5 : Int32) := (side_2_313_875 e_a2_0 e_a2_1 e_a2_2 e_a2_3 e_a2_4 hC)
                                                        have Vo875 : Arv Z h871 b41 k41 .int (5 : Int32) ((own_L2_17 e_a2_0 e_a2_1 e_a2_2 e_a2_3 e_a2_4).map Value.int) (.int (0 : Int32)) := fq874
                                                        obtain ⟨cl875, Ar875, aq875, S875, M875, H875, G875⟩ := id fq874
                                                        obtain ⟨T875, h875, X875, e875, W875, st875⟩ := stI X873 hx hZ e873 Ar875 (j := (own_at (own_L2_16 e_a2_0 e_a2_1 e_a2_2 e_a2_3 e_a2_4) e_a2_4)) (inb_of S875 sd875) (g := (mkF m 313 #[.val (.ref a1), .val (.ref a2), .val (.ref a3), .val (.ref a4), .val (.ref a5), .val (.ref b435), .val (.int (4 : Int32)), .val (.int (own_at (own_L2_16 e_a2_0 e_a2_1 e_a2_2 e_a2_3 e_a2_4) e_a2_4)), .val (.int (5 : Int32)), .val (.int e_a2_4)] [(.int (4 : Int32)), (.int (own_at (own_L2_16 e_a2_0 e_a2_1 e_a2_2 e_a2_3 e_a2_4) e_a2_4)), (.ref b41)])) rfl rfl (hb hby d2_313)
                                                        have hl875 : (own_L2_19 e_a2_0 e_a2_1 e_a2_2 e_a2_3 e_a2_4).length = 5 := (List.length_set ..).trans hl841
                                                        have V875 : Arv Z h875 b41 k41 .int (5 : Int32) ((own_L2_19 e_a2_0 e_a2_1 e_a2_2 e_a2_3 e_a2_4).map Value.int) (.int (0 : Int32)) := own_setL Vo875 hl841 W875 sd875
                                                        have N875 := Fr.snoc X875 N871 g_b41
                                                        have fq876 := (Fld.other W875 (Fld.other W871 fq853 (Or.inl ne_a1_b435)) (Or.inl ne_a1_b41))
                                                        obtain ⟨T877, X877, e877, st877⟩ := getF X875 hx hZ hown (host := "") (Or.inl hw25) Via.refl e875 fq876 (g := (mkF m 315 #[.val (.ref a1), .val (.ref a2), .val (.ref a3), .val (.ref a4), .val (.ref a5), .val (.ref b435), .val (.int (4 : Int32)), .val (.int (own_at (own_L2_16 e_a2_0 e_a2_1 e_a2_2 e_a2_3 e_a2_4) e_a2_4)), .val (.int (5 : Int32)), .val (.int e_a2_4)] [(.ref a1)])) rfl rfl (hb hby d2_315)
                                                        have fq878 := ((V845.other W871 ne_b47_b435).other W875 (Ne.symm ne_b41_b47))
                                                        obtain ⟨cl879, Ar879, aq879, S879, M879, H879, G879⟩ := id fq878
                                                        have hin879 : ¬ ((4 : Int32) < 0 ∨ cl879.slots.size ≤ ((4 : Int32)).toNatClampNeg) := inb_of S879 ⟨by decide, by decide⟩
                                                        obtain ⟨T879, h879, X879, e879, W879, st879⟩ := stI X877 hx hZ e877 Ar879 (j := (4 : Int32)) hin879 (g := (mkF m 322 #[.val (.ref a1), .val (.ref a2), .val (.ref a3), .val (.ref a4), .val (.ref a5), .val (.ref b435), .val (.int (4 : Int32)), .val (.int (own_at (own_L2_16 e_a2_0 e_a2_1 e_a2_2 e_a2_3 e_a2_4) e_a2_4)), .val (.int (5 : Int32)), .val (.int e_a2_4)] [(.int (own_at (own_L2_16 e_a2_0 e_a2_1 e_a2_2 e_a2_3 e_a2_4) e_a2_4)), (.int (4 : Int32)), (.ref b47)])) rfl rfl (hb hby d2_322)
                                                        have V879 : Arv Z h879 b47 k47 .int (5 : Int32) [(.int (own_at (own_L2_9 e_a2_0 e_a2_1 e_a2_2 e_a2_3 e_a2_4) e_a2_0)), (.int (own_at (own_L2_10 e_a2_0 e_a2_1 e_a2_2 e_a2_3 e_a2_4) e_a2_1)), (.int (own_at (own_L2_12 e_a2_0 e_a2_1 e_a2_2 e_a2_3 e_a2_4) e_a2_2)), (.int (own_at (own_L2_14 e_a2_0 e_a2_1 e_a2_2 e_a2_3 e_a2_4) e_a2_3)), (.int (own_at (own_L2_16 e_a2_0 e_a2_1 e_a2_2 e_a2_3 e_a2_4) e_a2_4))] (.int (0 : Int32)) := Arv.set Ar879 aq879 S879 M879 H879 G879 rfl W879 4 rfl (Nat.le_of_ble_eq_true rfl)
                                                        have N879 := Fr.snoc X879 N875 g_b47
                                                        have pre880 : ∀ t, Steps p.tables e below (T879.setTop (mkF m 282 #[.val (.ref a1), .val (.ref a2), .val (.ref a3), .val (.ref a4), .val (.ref a5), .val (.ref b435), .val (.int (5 : Int32)), .val (.int (own_at (own_L2_16 e_a2_0 e_a2_1 e_a2_2 e_a2_3 e_a2_4) e_a2_4)), .val (.int (5 : Int32)), .val (.int e_a2_4)] [])) t → Steps p.tables e below (s₁.setTop (entryFrame m #[(.ref a1), (.ref a2), (.ref a3), (.ref a4), (.ref a5)] 10)) t := fun t kt => by
                                                          refine pre846 t ?_
                                                          show Steps p.tables e below (T845.setTop (mkF m 282 #[.val (.ref a1), .val (.ref a2), .val (.ref a3), .val (.ref a4), .val (.ref a5), .val (.ref b435), .val (.int (4 : Int32)), .val (.int (own_at (own_L2_14 e_a2_0 e_a2_1 e_a2_2 e_a2_3 e_a2_4) e_a2_3)), .val (.int (5 : Int32)), .val (.int e_a2_4)] [])) _
                                                          refine XS.iload Xc867.here hx rfl (hb hby d2_282) rfl ?_
                                                          show Steps p.tables e below (T845.setTop (mkF m 284 #[.val (.ref a1), .val (.ref a2), .val (.ref a3), .val (.ref a4), .val (.ref a5), .val (.ref b435), .val (.int (4 : Int32)), .val (.int (own_at (own_L2_14 e_a2_0 e_a2_1 e_a2_2 e_a2_3 e_a2_4) e_a2_3)), .val (.int (5 : Int32)), .val (.int e_a2_4)] [(.int (4 : Int32))])) _
                                                          refine XS.aloadN Xc867.here hx rfl (hb hby d2_284) rfl rfl ?_
                                                          show Steps p.tables e below (T845.setTop (mkF m 285 #[.val (.ref a1), .val (.ref a2), .val (.ref a3), .val (.ref a4), .val (.ref a5), .val (.ref b435), .val (.int (4 : Int32)), .val (.int (own_at (own_L2_14 e_a2_0 e_a2_1 e_a2_2 e_a2_3 e_a2_4) e_a2_3)), .val (.int (5 : Int32)), .val (.int e_a2_4)] [(.ref a1), (.int (4 : Int32))])) _
                                                          refine st868 _ ?_
                                                          show Steps p.tables e below (T868.setTop (mkF m 288 #[.val (.ref a1), .val (.ref a2), .val (.ref a3), .val (.ref a4), .val (.ref a5), .val (.ref b435), .val (.int (4 : Int32)), .val (.int (own_at (own_L2_14 e_a2_0 e_a2_1 e_a2_2 e_a2_3 e_a2_4) e_a2_3)), .val (.int (5 : Int32)), .val (.int e_a2_4)] [(.int (5 : Int32)), (.int (4 : Int32))])) _
                                                          refine XS.icmpNo X868.here hx rfl (hb hby d2_288) rfl (tlt (by decide : (4 : Int32) < (5 : Int32))).2.1 ?_
                                                          show Steps p.tables e below (T868.setTop (mkF m 291 #[.val (.ref a1), .val (.ref a2), .val (.ref a3), .val (.ref a4), .val (.ref a5), .val (.ref b435), .val (.int (4 : Int32)), .val (.int (own_at (own_L2_14 e_a2_0 e_a2_1 e_a2_2 e_a2_3 e_a2_4) e_a2_3)), .val (.int (5 : Int32)), .val (.int e_a2_4)] [])) _
                                                          refine XS.aload X868.here hx rfl (hb hby d2_291) rfl rfl ?_
                                                          show Steps p.tables e below (T868.setTop (mkF m 293 #[.val (.ref a1), .val (.ref a2), .val (.ref a3), .val (.ref a4), .val (.ref a5), .val (.ref b435), .val (.int (4 : Int32)), .val (.int (own_at (own_L2_14 e_a2_0 e_a2_1 e_a2_2 e_a2_3 e_a2_4) e_a2_3)), .val (.int (5 : Int32)), .val (.int e_a2_4)] [(.ref b435)])) _
                                                          refine XS.aloadN X868.here hx rfl (hb hby d2_293) rfl rfl ?_
                                                          show Steps p.tables e below (T868.setTop (mkF m 294 #[.val (.ref a1), .val (.ref a2), .val (.ref a3), .val (.ref a4), .val (.ref a5), .val (.ref b435), .val (.int (4 : Int32)), .val (.int (own_at (own_L2_14 e_a2_0 e_a2_1 e_a2_2 e_a2_3 e_a2_4) e_a2_3)), .val (.int (5 : Int32)), .val (.int e_a2_4)] [(.ref a2), (.ref b435)])) _
                                                          refine XS.iload X868.here hx rfl (hb hby d2_294) rfl ?_
                                                          show Steps p.tables e below (T868.setTop (mkF m 296 #[.val (.ref a1), .val (.ref a2), .val (.ref a3), .val (.ref a4), .val (.ref a5), .val (.ref b435), .val (.int (4 : Int32)), .val (.int (own_at (own_L2_14 e_a2_0 e_a2_1 e_a2_2 e_a2_3 e_a2_4) e_a2_3)), .val (.int (5 : Int32)), .val (.int e_a2_4)] [(.int (4 : Int32)), (.ref a2), (.ref b435)])) _
                                                          refine X868.iaload hx (j := (4 : Int32)) (v := (.int e_a2_4)) (by rw [e868]; exact Ar869.1) (State.isArrayOf_alike hZ.alike Ar869.2.1) Ar869.2.2 hin869 hat869 (g := (mkF m 296 #[.val (.ref a1), .val (.ref a2), .val (.ref a3), .val (.ref a4), .val (.ref a5), .val (.ref b435), .val (.int (4 : Int32)), .val (.int (own_at (own_L2_14 e_a2_0 e_a2_1 e_a2_2 e_a2_3 e_a2_4) e_a2_3)), .val (.int (5 : Int32)), .val (.int e_a2_4)] [(.int (4 : Int32)), (.ref a2), (.ref b435)])) rfl rfl (hb hby d2_296) _ ?_
                                                          show Steps p.tables e below (T868.setTop (mkF m 297 #[.val (.ref a1), .val (.ref a2), .val (.ref a3), .val (.ref a4), .val (.ref a5), .val (.ref b435), .val (.int (4 : Int32)), .val (.int (own_at (own_L2_14 e_a2_0 e_a2_1 e_a2_2 e_a2_3 e_a2_4) e_a2_3)), .val (.int (5 : Int32)), .val (.int e_a2_4)] [(.int e_a2_4), (.ref b435)])) _
                                                          refine XT.dup2 X868.here hx rfl (hb hby d2_297) rfl rfl rfl ?_
                                                          show Steps p.tables e below (T868.setTop (mkF m 298 #[.val (.ref a1), .val (.ref a2), .val (.ref a3), .val (.ref a4), .val (.ref a5), .val (.ref b435), .val (.int (4 : Int32)), .val (.int (own_at (own_L2_14 e_a2_0 e_a2_1 e_a2_2 e_a2_3 e_a2_4) e_a2_3)), .val (.int (5 : Int32)), .val (.int e_a2_4)] [(.int e_a2_4), (.ref b435), (.int e_a2_4), (.ref b435)])) _
                                                          refine X868.iaload hx (j := e_a2_4) (v := (.int (own_at (own_L2_16 e_a2_0 e_a2_1 e_a2_2 e_a2_3 e_a2_4) e_a2_4))) (by rw [e868]; exact Ar870.1) (State.isArrayOf_alike hZ.alike Ar870.2.1) Ar870.2.2 hin870 hat870 (g := (mkF m 298 #[.val (.ref a1), .val (.ref a2), .val (.ref a3), .val (.ref a4), .val (.ref a5), .val (.ref b435), .val (.int (4 : Int32)), .val (.int (own_at (own_L2_14 e_a2_0 e_a2_1 e_a2_2 e_a2_3 e_a2_4) e_a2_3)), .val (.int (5 : Int32)), .val (.int e_a2_4)] [(.int e_a2_4), (.ref b435), (.int e_a2_4), (.ref b435)])) rfl rfl (hb hby d2_298) _ ?_
                                                          show Steps p.tables e below (T868.setTop (mkF m 299 #[.val (.ref a1), .val (.ref a2), .val (.ref a3), .val (.ref a4), .val (.ref a5), .val (.ref b435), .val (.int (4 : Int32)), .val (.int (own_at (own_L2_14 e_a2_0 e_a2_1 e_a2_2 e_a2_3 e_a2_4) e_a2_3)), .val (.int (5 : Int32)), .val (.int e_a2_4)] [(.int (own_at (own_L2_16 e_a2_0 e_a2_1 e_a2_2 e_a2_3 e_a2_4) e_a2_4)), (.int e_a2_4), (.ref b435)])) _
                                                          jvm_step X868.here [X868.here.top, hx, (hb hby d2_299), Value.category]
                                                          show Steps p.tables e below (T868.setTop (mkF m 300 #[.val (.ref a1), .val (.ref a2), .val (.ref a3), .val (.ref a4), .val (.ref a5), .val (.ref b435), .val (.int (4 : Int32)), .val (.int (own_at (own_L2_14 e_a2_0 e_a2_1 e_a2_2 e_a2_3 e_a2_4) e_a2_3)), .val (.int (5 : Int32)), .val (.int e_a2_4)] [(.int (own_at (own_L2_16 e_a2_0 e_a2_1 e_a2_2 e_a2_3 e_a2_4) e_a2_4)), (.int e_a2_4), (.ref b435), (.int (own_at (own_L2_16 e_a2_0 e_a2_1 e_a2_2 e_a2_3 e_a2_4) e_a2_4))])) _
                                                          refine XS.iconst X868.here hx rfl (hb hby d2_300) ?_
                                                          show Steps p.tables e below (T868.setTop (mkF m 301 #[.val (.ref a1), .val (.ref a2), .val (.ref a3), .val (.ref a4), .val (.ref a5), .val (.ref b435), .val (.int (4 : Int32)), .val (.int (own_at (own_L2_14 e_a2_0 e_a2_1 e_a2_2 e_a2_3 e_a2_4) e_a2_3)), .val (.int (5 : Int32)), .val (.int e_a2_4)] [(.int (1 : Int32)), (.int (own_at (own_L2_16 e_a2_0 e_a2_1 e_a2_2 e_a2_3 e_a2_4) e_a2_4)), (.int e_a2_4), (.ref b435), (.int (own_at (own_L2_16 e_a2_0 e_a2_1 e_a2_2 e_a2_3 e_a2_4) e_a2_4))])) _
                                                          refine XS.iadd X868.here hx rfl (hb hby d2_301) rfl ?_
                                                          show Steps p.tables e below (T868.setTop (mkF m 302 #[.val (.ref a1), .val (.ref a2), .val (.ref a3), .val (.ref a4), .val (.ref a5), .val (.ref b435), .val (.int (4 : Int32)), .val (.int (own_at (own_L2_14 e_a2_0 e_a2_1 e_a2_2 e_a2_3 e_a2_4) e_a2_3)), .val (.int (5 : Int32)), .val (.int e_a2_4)] [(.int ((own_at (own_L2_16 e_a2_0 e_a2_1 e_a2_2 e_a2_3 e_a2_4) e_a2_4) + (1 : Int32))), (.int e_a2_4), (.ref b435), (.int (own_at (own_L2_16 e_a2_0 e_a2_1 e_a2_2 e_a2_3 e_a2_4) e_a2_4))])) _
                                                          refine st871 _ ?_
                                                          show Steps p.tables e below (T871.setTop (mkF m 303 #[.val (.ref a1), .val (.ref a2), .val (.ref a3), .val (.ref a4), .val (.ref a5), .val (.ref b435), .val (.int (4 : Int32)), .val (.int (own_at (own_L2_14 e_a2_0 e_a2_1 e_a2_2 e_a2_3 e_a2_4) e_a2_3)), .val (.int (5 : Int32)), .val (.int e_a2_4)] [(.int (own_at (own_L2_16 e_a2_0 e_a2_1 e_a2_2 e_a2_3 e_a2_4) e_a2_4))])) _
                                                          refine XS.istore X871.here hx rfl (hb hby d2_303) rfl (l' := #[.val (.ref a1), .val (.ref a2), .val (.ref a3), .val (.ref a4), .val (.ref a5), .val (.ref b435), .val (.int (4 : Int32)), .val (.int (own_at (own_L2_16 e_a2_0 e_a2_1 e_a2_2 e_a2_3 e_a2_4) e_a2_4)), .val (.int (5 : Int32)), .val (.int e_a2_4)]) rfl ?_
                                                          show Steps p.tables e below (T871.setTop (mkF m 305 #[.val (.ref a1), .val (.ref a2), .val (.ref a3), .val (.ref a4), .val (.ref a5), .val (.ref b435), .val (.int (4 : Int32)), .val (.int (own_at (own_L2_16 e_a2_0 e_a2_1 e_a2_2 e_a2_3 e_a2_4) e_a2_4)), .val (.int (5 : Int32)), .val (.int e_a2_4)] [])) _
                                                          refine XS.aloadN X871.here hx rfl (hb hby d2_305) rfl rfl ?_
                                                          show Steps p.tables e below (T871.setTop (mkF m 306 #[.val (.ref a1), .val (.ref a2), .val (.ref a3), .val (.ref a4), .val (.ref a5), .val (.ref b435), .val (.int (4 : Int32)), .val (.int (own_at (own_L2_16 e_a2_0 e_a2_1 e_a2_2 e_a2_3 e_a2_4) e_a2_4)), .val (.int (5 : Int32)), .val (.int e_a2_4)] [(.ref a1)])) _
                                                          refine st873 _ ?_
                                                          show Steps p.tables e below (T873.setTop (mkF m 309 #[.val (.ref a1), .val (.ref a2), .val (.ref a3), .val (.ref a4), .val (.ref a5), .val (.ref b435), .val (.int (4 : Int32)), .val (.int (own_at (own_L2_16 e_a2_0 e_a2_1 e_a2_2 e_a2_3 e_a2_4) e_a2_4)), .val (.int (5 : Int32)), .val (.int e_a2_4)] [(.ref b41)])) _
                                                          refine XS.iload X873.here hx rfl (hb hby d2_309) rfl ?_
                                                          show Steps p.tables e below (T873.setTop (mkF m 311 #[.val (.ref a1), .val (.ref a2), .val (.ref a3), .val (.ref a4), .val (.ref a5), .val (.ref b435), .val (.int (4 : Int32)), .val (.int (own_at (own_L2_16 e_a2_0 e_a2_1 e_a2_2 e_a2_3 e_a2_4) e_a2_4)), .val (.int (5 : Int32)), .val (.int e_a2_4)] [(.int (own_at (own_L2_16 e_a2_0 e_a2_1 e_a2_2 e_a2_3 e_a2_4) e_a2_4)), (.ref b41)])) _
                                                          refine XS.iload X873.here hx rfl (hb hby d2_311) rfl ?_
                                                          show Steps p.tables e below (T873.setTop (mkF m 313 #[.val (.ref a1), .val (.ref a2), .val (.ref a3), .val (.ref a4), .val (.ref a5), .val (.ref b435), .val (.int (4 : Int32)), .val (.int (own_at (own_L2_16 e_a2_0 e_a2_1 e_a2_2 e_a2_3 e_a2_4) e_a2_4)), .val (.int (5 : Int32)), .val (.int e_a2_4)] [(.int (4 : Int32)), (.int (own_at (own_L2_16 e_a2_0 e_a2_1 e_a2_2 e_a2_3 e_a2_4) e_a2_4)), (.ref b41)])) _
                                                          refine st875 _ ?_
                                                          show Steps p.tables e below (T875.setTop (mkF m 314 #[.val (.ref a1), .val (.ref a2), .val (.ref a3), .val (.ref a4), .val (.ref a5), .val (.ref b435), .val (.int (4 : Int32)), .val (.int (own_at (own_L2_16 e_a2_0 e_a2_1 e_a2_2 e_a2_3 e_a2_4) e_a2_4)), .val (.int (5 : Int32)), .val (.int e_a2_4)] [])) _
                                                          refine XS.aloadN X875.here hx rfl (hb hby d2_314) rfl rfl ?_
                                                          show Steps p.tables e below (T875.setTop (mkF m 315 #[.val (.ref a1), .val (.ref a2), .val (.ref a3), .val (.ref a4), .val (.ref a5), .val (.ref b435), .val (.int (4 : Int32)), .val (.int (own_at (own_L2_16 e_a2_0 e_a2_1 e_a2_2 e_a2_3 e_a2_4) e_a2_4)), .val (.int (5 : Int32)), .val (.int e_a2_4)] [(.ref a1)])) _
                                                          refine st877 _ ?_
                                                          show Steps p.tables e below (T877.setTop (mkF m 318 #[.val (.ref a1), .val (.ref a2), .val (.ref a3), .val (.ref a4), .val (.ref a5), .val (.ref b435), .val (.int (4 : Int32)), .val (.int (own_at (own_L2_16 e_a2_0 e_a2_1 e_a2_2 e_a2_3 e_a2_4) e_a2_4)), .val (.int (5 : Int32)), .val (.int e_a2_4)] [(.ref b47)])) _
                                                          refine XS.iload X877.here hx rfl (hb hby d2_318) rfl ?_
                                                          show Steps p.tables e below (T877.setTop (mkF m 320 #[.val (.ref a1), .val (.ref a2), .val (.ref a3), .val (.ref a4), .val (.ref a5), .val (.ref b435), .val (.int (4 : Int32)), .val (.int (own_at (own_L2_16 e_a2_0 e_a2_1 e_a2_2 e_a2_3 e_a2_4) e_a2_4)), .val (.int (5 : Int32)), .val (.int e_a2_4)] [(.int (4 : Int32)), (.ref b47)])) _
                                                          refine XS.iload X877.here hx rfl (hb hby d2_320) rfl ?_
                                                          show Steps p.tables e below (T877.setTop (mkF m 322 #[.val (.ref a1), .val (.ref a2), .val (.ref a3), .val (.ref a4), .val (.ref a5), .val (.ref b435), .val (.int (4 : Int32)), .val (.int (own_at (own_L2_16 e_a2_0 e_a2_1 e_a2_2 e_a2_3 e_a2_4) e_a2_4)), .val (.int (5 : Int32)), .val (.int e_a2_4)] [(.int (own_at (own_L2_16 e_a2_0 e_a2_1 e_a2_2 e_a2_3 e_a2_4) e_a2_4)), (.int (4 : Int32)), (.ref b47)])) _
                                                          refine st879 _ ?_
                                                          show Steps p.tables e below (T879.setTop (mkF m 323 #[.val (.ref a1), .val (.ref a2), .val (.ref a3), .val (.ref a4), .val (.ref a5), .val (.ref b435), .val (.int (4 : Int32)), .val (.int (own_at (own_L2_16 e_a2_0 e_a2_1 e_a2_2 e_a2_3 e_a2_4) e_a2_4)), .val (.int (5 : Int32)), .val (.int e_a2_4)] [])) _
                                                          refine XS.iinc X879.here hx rfl (hb hby d2_323) rfl (l' := #[.val (.ref a1), .val (.ref a2), .val (.ref a3), .val (.ref a4), .val (.ref a5), .val (.ref b435), .val (.int (5 : Int32)), .val (.int (own_at (own_L2_16 e_a2_0 e_a2_1 e_a2_2 e_a2_3 e_a2_4) e_a2_4)), .val (.int (5 : Int32)), .val (.int e_a2_4)]) rfl ?_
                                                          show Steps p.tables e below (T879.setTop (mkF m 326 #[.val (.ref a1), .val (.ref a2), .val (.ref a3), .val (.ref a4), .val (.ref a5), .val (.ref b435), .val (.int (5 : Int32)), .val (.int (own_at (own_L2_16 e_a2_0 e_a2_1 e_a2_2 e_a2_3 e_a2_4) e_a2_4)), .val (.int (5 : Int32)), .val (.int e_a2_4)] [])) _
                                                          refine XS.goto X879.here hx rfl (pc0 := 326) (pc' := 282) rfl (hb hby d2_326) (by decide) (by decide) ?_
                                                          exact kt
                                                        have fq881 := (Exa.wr W879 (Exa.wr W875 (Exa.wr W871 fq847)))
                                                        have fq882 := (Fld.other W879 (Fld.other W875 (Fld.other W871 fq848 (Or.inl ne_a1_b435)) (Or.inl ne_a1_b41)) (Or.inl ne_a1_b47))
                                                        have fq883 := (Fld.other W879 (Fld.other W875 (Fld.other W871 fq849 (Or.inl ne_a1_b435)) (Or.inl ne_a1_b41)) (Or.inl ne_a1_b47))
                                                        have fq884 := (Fld.other W879 (Fld.other W875 (Fld.other W871 fq850 (Or.inl ne_a1_b435)) (Or.inl ne_a1_b41)) (Or.inl ne_a1_b47))
                                                        have fq885 := (Fld.other W879 (Fld.other W875 (Fld.other W871 fq851 (Or.inl ne_a1_b435)) (Or.inl ne_a1_b41)) (Or.inl ne_a1_b47))
                                                        have fq886 := (Fld.other W879 (Fld.other W875 fq872 (Or.inl ne_a1_b41)) (Or.inl ne_a1_b47))
                                                        have fq887 := (Fld.other W879 fq876 (Or.inl ne_a1_b47))
                                                        have fq888 := (Fld.other W879 (Fld.other W875 (Fld.other W871 fq854 (Or.inl ne_a1_b435)) (Or.inl ne_a1_b41)) (Or.inl ne_a1_b47))
                                                        have fq889 := (Fld.other W879 (Fld.other W875 (Fld.other W871 fq855 (Or.inl ne_a1_b435)) (Or.inl ne_a1_b41)) (Or.inl ne_a1_b47))
                                                        have fq890 := (Fld.other W879 (Fld.other W875 (Fld.other W871 fq856 (Or.inl ne_a1_b435)) (Or.inl ne_a1_b41)) (Or.inl ne_a1_b47))
                                                        have fq891 := (Fld.other W879 (Fld.other W875 (Fld.other W871 fq857 (Or.inl ne_a1_b435)) (Or.inl ne_a1_b41)) (Or.inl ne_a1_b47))
                                                        have fq892 := (((fq858.other W871 ne_a2_b435).other W875 ne_a2_b41).other W879 ne_a2_b47)
                                                        have fq893 := (((fq859.other W871 ne_a4_b435).other W875 ne_a4_b41).other W879 ne_a4_b47)
                                                        have fq894 := (V875.other W879 ne_b41_b47)
                                                        have fq895 := (((fq861.other W871 ne_b85_b435).other W875 (Ne.symm ne_b41_b85)).other W879 (Ne.symm ne_b47_b85))
                                                        have fq896 := (((fq862.other W871 ne_b91_b435).other W875 (Ne.symm ne_b41_b91)).other W879 (Ne.symm ne_b47_b91))
                                                        have fq897 := (((fq863.other W871 ne_b133_b435).other W875 (Ne.symm ne_b41_b133)).other W879 (Ne.symm ne_b47_b133))
                                                        have fq898 := (((fq864.other W871 ne_b139_b435).other W875 (Ne.symm ne_b41_b139)).other W879 (Ne.symm ne_b47_b139))
                                                        have fq899 := ((V871.other W875 (Ne.symm ne_b41_b435)).other W879 (Ne.symm ne_b47_b435))
                                                        have z900 : n0 ≤ h879.size := (Nat.le_trans (Nat.le_trans (Nat.le_trans z866 (Keep.of_wr W871).1) (Keep.of_wr W875).1) (Keep.of_wr W879).1)
                                                        obtain ⟨Lc901, Xc901, Nc901⟩ : ∃ L, Stand p l e ({ frames := 1, cells := 18, slots := 86, locals := 13 } : Room) s m #[(.ref a1), (.ref a2), (.ref a3), (.ref a4), (.ref a5)] below meth c T879 L 18 86 ∧ Fr n0 L := ⟨_, X879, N879⟩
                                                        clear hl837 hl841 e845 V845 pre846 fq847 fq848 fq849 fq850 fq851 fq852 fq853 fq854 fq855 fq856 fq857 fq858 fq859 fq860 fq861 fq862 fq863 fq864 fq865 z866 Xc867 Nc867 X868 e868 st868 Ar869 aq869 S869 M869 H869 G869 hin869 hat869 Ar870 aq870 S870 M870 H870 G870 hin870 hat870 sd871 Vo871 Ar871 aq871 S871 M871 H871 G871 X871 e871 W871 st871 V871 N871 fq872 X873 e873 st873 fq874 sd875 Vo875 Ar875 aq875 S875 M875 H875 G875 X875 e875 W875 st875 V875 N875 fq876 X877 e877 st877 fq878 Ar879 aq879 S879 M879 H879 G879 hin879 X879 W879 st879 N879
                                                        try clear cl879
                                                        try clear T877
                                                        try clear h875
                                                        try clear T875
                                                        try clear cl875
                                                        try clear T873
                                                        try clear h871
                                                        try clear T871
                                                        try clear cl871
                                                        try clear cl870
                                                        try clear cl869
                                                        try clear T868
                                                        try clear Lc867
                                                        try clear h845
                                                        try clear T845
                                                        as_aux_lemma =>
                                                          obtain ⟨T902, X902, e902, st902⟩ := getF Xc901 hx hZ hown (host := "") (Or.inl hw15) Via.refl e879 fq885 (g := (mkF m 285 #[.val (.ref a1), .val (.ref a2), .val (.ref a3), .val (.ref a4), .val (.ref a5), .val (.ref b435), .val (.int (5 : Int32)), .val (.int (own_at (own_L2_16 e_a2_0 e_a2_1 e_a2_2 e_a2_3 e_a2_4) e_a2_4)), .val (.int (5 : Int32)), .val (.int e_a2_4)] [(.ref a1), (.int (5 : Int32))])) rfl rfl (hb hby d2_285)
                                                          have pre903 : ∀ t, Steps p.tables e below (T902.setTop (mkF m 329 #[.val (.ref a1), .val (.ref a2), .val (.ref a3), .val (.ref a4), .val (.ref a5), .val (.ref b435), .val (.int (5 : Int32)), .val (.int (own_at (own_L2_16 e_a2_0 e_a2_1 e_a2_2 e_a2_3 e_a2_4) e_a2_4)), .val (.int (5 : Int32)), .val (.int e_a2_4)] [])) t → Steps p.tables e below (s₁.setTop (entryFrame m #[(.ref a1), (.ref a2), (.ref a3), (.ref a4), (.ref a5)] 10)) t := fun t kt => by
                                                            refine pre880 t ?_
                                                            show Steps p.tables e below (T879.setTop (mkF m 282 #[.val (.ref a1), .val (.ref a2), .val (.ref a3), .val (.ref a4), .val (.ref a5), .val (.ref b435), .val (.int (5 : Int32)), .val (.int (own_at (own_L2_16 e_a2_0 e_a2_1 e_a2_2 e_a2_3 e_a2_4) e_a2_4)), .val (.int (5 : Int32)), .val (.int e_a2_4)] [])) _
                                                            refine XS.iload Xc901.here hx rfl (hb hby d2_282) rfl ?_
                                                            show Steps p.tables e below (T879.setTop (mkF m 284 #[.val (.ref a1), .val (.ref a2), .val (.ref a3), .val (.ref a4), .val (.ref a5), .val (.ref b435), .val (.int (5 : Int32)), .val (.int (own_at (own_L2_16 e_a2_0 e_a2_1 e_a2_2 e_a2_3 e_a2_4) e_a2_4)), .val (.int (5 : Int32)), .val (.int e_a2_4)] [(.int (5 : Int32))])) _
                                                            refine XS.aloadN Xc901.here hx rfl (hb hby d2_284) rfl rfl ?_
                                                            show Steps p.tables e below (T879.setTop (mkF m 285 #[.val (.ref a1), .val (.ref a2), .val (.ref a3), .val (.ref a4), .val (.ref a5), .val (.ref b435), .val (.int (5 : Int32)), .val (.int (own_at (own_L2_16 e_a2_0 e_a2_1 e_a2_2 e_a2_3 e_a2_4) e_a2_4)), .val (.int (5 : Int32)), .val (.int e_a2_4)] [(.ref a1), (.int (5 : Int32))])) _
                                                            refine st902 _ ?_
                                                            show Steps p.tables e below (T902.setTop (mkF m 288 #[.val (.ref a1), .val (.ref a2), .val (.ref a3), .val (.ref a4), .val (.ref a5), .val (.ref b435), .val (.int (5 : Int32)), .val (.int (own_at (own_L2_16 e_a2_0 e_a2_1 e_a2_2 e_a2_3 e_a2_4) e_a2_4)), .val (.int (5 : Int32)), .val (.int e_a2_4)] [(.int (5 : Int32)), (.int (5 : Int32))])) _
                                                            refine XS.icmpYes X902.here hx rfl (pc0 := 288) (pc' := 329) rfl (hb hby d2_288) rfl (flt (by decide : ¬ ((5 : Int32) < (5 : Int32)))).2.1 (by decide) (by decide) ?_
                                                            exact kt
                                                          obtain ⟨Lc904, Xc904, Nc904⟩ : ∃ L, Stand p l e ({ frames := 1, cells := 18, slots := 86, locals := 13 } : Room) s m #[(.ref a1), (.ref a2), (.ref a3), (.ref a4), (.ref a5)] below meth c T902 L 18 86 ∧ Fr n0 L := ⟨_, X902, Nc901⟩
                                                          clear e879 pre880 Xc901 Nc901 X902 st902
                                                          try clear Lc901
                                                          try clear T879
                                                          as_aux_lemma =>
                                                            have pre905 : ∀ t, Steps p.tables e below (T902.setTop (mkF m 332 #[.val (.ref a1), .val (.ref a2), .val (.ref a3), .val (.ref a4), .val (.ref a5), .val (.ref b435), .val (.int (0 : Int32)), .val (.int (own_at (own_L2_16 e_a2_0 e_a2_1 e_a2_2 e_a2_3 e_a2_4) e_a2_4)), .val (.int (5 : Int32)), .val (.int e_a2_4)] [])) t → Steps p.tables e below (s₁.setTop (entryFrame m #[(.ref a1), (.ref a2), (.ref a3), (.ref a4), (.ref a5)] 10)) t := fun t kt => by
                                                              refine pre903 t ?_
                                                              show Steps p.tables e below (T902.setTop (mkF m 329 #[.val (.ref a1), .val (.ref a2), .val (.ref a3), .val (.ref a4), .val (.ref a5), .val (.ref b435), .val (.int (5 : Int32)), .val (.int (own_at (own_L2_16 e_a2_0 e_a2_1 e_a2_2 e_a2_3 e_a2_4) e_a2_4)), .val (.int (5 : Int32)), .val (.int e_a2_4)] [])) _
                                                              refine XS.iconst Xc904.here hx rfl (hb hby d2_329) ?_
                                                              show Steps p.tables e below (T902.setTop (mkF m 330 #[.val (.ref a1), .val (.ref a2), .val (.ref a3), .val (.ref a4), .val (.ref a5), .val (.ref b435), .val (.int (5 : Int32)), .val (.int (own_at (own_L2_16 e_a2_0 e_a2_1 e_a2_2 e_a2_3 e_a2_4) e_a2_4)), .val (.int (5 : Int32)), .val (.int e_a2_4)] [(.int (0 : Int32))])) _
                                                              refine XS.istore Xc904.here hx rfl (hb hby d2_330) rfl (l' := #[.val (.ref a1), .val (.ref a2), .val (.ref a3), .val (.ref a4), .val (.ref a5), .val (.ref b435), .val (.int (0 : Int32)), .val (.int (own_at (own_L2_16 e_a2_0 e_a2_1 e_a2_2 e_a2_3 e_a2_4) e_a2_4)), .val (.int (5 : Int32)), .val (.int e_a2_4)]) rfl ?_
                                                              exact kt
                                                            obtain ⟨CE, hCE⟩ : ∃ z, z = own_CE e_a2_0 e_a2_1 e_a2_2 e_a2_3 e_a2_4 := ⟨_, rfl⟩
                                                            have hOr : own_Or (own_L2_19 e_a2_0 e_a2_1 e_a2_2 e_a2_3 e_a2_4) := own_or e_a2_0 e_a2_1 e_a2_2 e_a2_3 e_a2_4 hC
                                                            have hC0 : own_ce ([e_a2_0, e_a2_1, e_a2_2, e_a2_3, e_a2_4] : List Int32) (own_L2_19 e_a2_0 e_a2_1 e_a2_2 e_a2_3 e_a2_4) 6 0 ([(0 : Int32), (0 : Int32), (0 : Int32), (0 : Int32), (0 : Int32)] : List Int32) = CE := by rw [hCE, own_CE]
                                                            have EQ0 : own_EQ Z h879 a1 b41 b85 b91 b133 b139 k133 k139 ([(0 : Int32), (0 : Int32), (0 : Int32), (0 : Int32), (0 : Int32)] : List Int32) ([(0 : Int32), (0 : Int32), (0 : Int32), (0 : Int32), (0 : Int32)] : List Int32) (0 : Int32) (.int (0 : Int32)) := ⟨fq881, fq885, fq886, fq888, fq889, fq890, fq891, fq882, fq883, fq884, fq897, fq898⟩
                                                            have Y1 : Arv Z h879 a2 k_a2 .int (5 : Int32) (([e_a2_0, e_a2_1, e_a2_2, e_a2_3, e_a2_4] : List Int32).map Value.int) (.int (0 : Int32)) := fq892
                                                            have Y2 : Arv Z h879 b41 k41 .int (5 : Int32) ((own_L2_19 e_a2_0 e_a2_1 e_a2_2 e_a2_3 e_a2_4).map Value.int) (.int (0 : Int32)) := fq894
                                                            have Y3 : Arv Z h879 b85 k85 .int (5 : Int32) (([(0 : Int32), (0 : Int32), (0 : Int32), (0 : Int32), (0 : Int32)] : List Int32).map Value.int) (.int (0 : Int32)) := fq895
                                                            have Y4 : Arv Z h879 b91 k91 .int (5 : Int32) (([(0 : Int32), (0 : Int32), (0 : Int32), (0 : Int32), (0 : Int32)] : List Int32).map Value.int) (.int (0 : Int32)) := fq896
                                                            have hZl : ([(0 : Int32), (0 : Int32), (0 : Int32), (0 : Int32), (0 : Int32)] : List Int32).length = 5 := rfl
                                                            revert hOr hC0 Y1 Y2
                                                            generalize hgA : ([e_a2_0, e_a2_1, e_a2_2, e_a2_3, e_a2_4] : List Int32) = A
                                                            generalize (own_L2_19 e_a2_0 e_a2_1 e_a2_2 e_a2_3 e_a2_4) = O
                                                            intro hOr hC0 Y1 Y2
                                                            refine Classical.byContradiction fun hG => ?_
                                                            have hAl : A.length = 5 := by rw [← hgA]; rfl
                                                            have loop : ∀ (f i : Nat), 5 - i < f → i ≤ 5 → ∀ (E W U D : List Int32) (r x x7 x8 : Int32) (Tq : State) (Lq : List Loc) (hq : Heap), E.length = 5 → W.length = 5 → U.length = 5 → D.length = 5 → (0 ≤ r.toInt ∧ r.toInt ≤ i) → own_ce A O f i E = CE → Stand p l e ({ frames := 1, cells := 18, slots := 86, locals := 13 } : Room) s m #[(.ref a1), (.ref a2), (.ref a3), (.ref a4), (.ref a5)] below meth c Tq Lq 18 86 → Tq.heap = hq → Fr n0 Lq → n0 ≤ hq.size → own_EQ Z hq a1 b41 b85 b91 b133 b139 k133 k139 U D r (.int x) → Arv Z hq a2 k_a2 .int (5 : Int32) (A.map Value.int) (.int (0 : Int32)) → Arv Z hq b41 k41 .int (5 : Int32) (O.map Value.int) (.int (0 : Int32)) → Arv Z hq b85 k85 .int (5 : Int32) (W.map Value.int) (.int (0 : Int32)) → Arv Z hq b91 k91 .int (5 : Int32) (E.map Value.int) (.int (0 : Int32)) → (∀ t, Steps p.tables e below (Tq.setTop (mkF m 332 #[.val (.ref a1), .val (.ref a2), .val (.ref a3), .val (.ref a4), .val (.ref a5), .val (.ref b435), .val (.int (Int32.ofNat i)), .val (.int x7), .val (.int x8), .val (.int e_a2_4)] [])) t → Steps p.tables e below (s₁.setTop (entryFrame m #[(.ref a1), (.ref a2), (.ref a3), (.ref a4), (.ref a5)] 10)) t) → False := by
                                                              intro f
                                                              induction f with
                                                              | zero => intro i h; exact absurd h (Nat.not_lt_zero _)
                                                              | succ f ih =>
                                                                intro i hf hi E W U D r x x7 x8 Tq Lq hq hE hW hU hD hr hce Xq eq Nq zq ⟨Eq, F_sizeq, F_orderq, F_cellOfq, F_cellEndq, F_queueq, F_queuedq, F_queueHeadq, F_queueSizeq, F_cellsq, VUq, VDq⟩ Y1q Y2q Y3q Y4q preq
                                                                obtain ⟨T906, X906, e906, st906⟩ := getF Xq hx hZ hown (host := "") (Or.inl hw15) Via.refl eq F_sizeq (g := (mkF m 335 #[.val (.ref a1), .val (.ref a2), .val (.ref a3), .val (.ref a4), .val (.ref a5), .val (.ref b435), .val (.int (Int32.ofNat i)), .val (.int x7), .val (.int x8), .val (.int e_a2_4)] [(.ref a1), (.int (Int32.ofNat i))])) rfl rfl (hb hby d2_335)
                                                                have pre907 : ∀ t, Steps p.tables e below (T906.setTop (mkF m 338 #[.val (.ref a1), .val (.ref a2), .val (.ref a3), .val (.ref a4), .val (.ref a5), .val (.ref b435), .val (.int (Int32.ofNat i)), .val (.int x7), .val (.int x8), .val (.int e_a2_4)] [(.int (5 : Int32)), (.int (Int32.ofNat i))])) t → Steps p.tables e below (s₁.setTop (entryFrame m #[(.ref a1), (.ref a2), (.ref a3), (.ref a4), (.ref a5)] 10)) t := fun t kt => by
                                                                  refine preq t ?_
                                                                  show Steps p.tables e below (Tq.setTop (mkF m 332 #[.val (.ref a1), .val (.ref a2), .val (.ref a3), .val (.ref a4), .val (.ref a5), .val (.ref b435), .val (.int (Int32.ofNat i)), .val (.int x7), .val (.int x8), .val (.int e_a2_4)] [])) _
                                                                  refine XS.iload Xq.here hx rfl (hb hby d2_332) rfl ?_
                                                                  show Steps p.tables e below (Tq.setTop (mkF m 334 #[.val (.ref a1), .val (.ref a2), .val (.ref a3), .val (.ref a4), .val (.ref a5), .val (.ref b435), .val (.int (Int32.ofNat i)), .val (.int x7), .val (.int x8), .val (.int e_a2_4)] [(.int (Int32.ofNat i))])) _
                                                                  refine XS.aloadN Xq.here hx rfl (hb hby d2_334) rfl rfl ?_
                                                                  show Steps p.tables e below (Tq.setTop (mkF m 335 #[.val (.ref a1), .val (.ref a2), .val (.ref a3), .val (.ref a4), .val (.ref a5), .val (.ref b435), .val (.int (Int32.ofNat i)), .val (.int x7), .val (.int x8), .val (.int e_a2_4)] [(.ref a1), (.int (Int32.ofNat i))])) _
                                                                  refine st906 _ ?_
                                                                  exact kt
                                                                by_cases hc908 : (Int32.ofNat i) < (5 : Int32)
                                                                · have pre909 : ∀ t, Steps p.tables e below (T906.setTop (mkF m 347 #[.val (.ref a1), .val (.ref a2), .val (.ref a3), .val (.ref a4), .val (.ref a5), .val (.ref b435), .val (.int (Int32.ofNat i)), .val (.int ((Int32.ofNat i) + (1 : Int32))), .val (.int x8), .val (.int e_a2_4)] [])) t → Steps p.tables e below (s₁.setTop (entryFrame m #[(.ref a1), (.ref a2), (.ref a3), (.ref a4), (.ref a5)] 10)) t := fun t kt => by
                                                                    refine pre907 t ?_
                                                                    show Steps p.tables e below (T906.setTop (mkF m 338 #[.val (.ref a1), .val (.ref a2), .val (.ref a3), .val (.ref a4), .val (.ref a5), .val (.ref b435), .val (.int (Int32.ofNat i)), .val (.int x7), .val (.int x8), .val (.int e_a2_4)] [(.int (5 : Int32)), (.int (Int32.ofNat i))])) _
                                                                    refine XS.icmpNo X906.here hx rfl (hb hby d2_338) rfl (tlt hc908).2.1 ?_
                                                                    show Steps p.tables e below (T906.setTop (mkF m 341 #[.val (.ref a1), .val (.ref a2), .val (.ref a3), .val (.ref a4), .val (.ref a5), .val (.ref b435), .val (.int (Int32.ofNat i)), .val (.int x7), .val (.int x8), .val (.int e_a2_4)] [])) _
                                                                    refine XS.iload X906.here hx rfl (hb hby d2_341) rfl ?_
                                                                    show Steps p.tables e below (T906.setTop (mkF m 343 #[.val (.ref a1), .val (.ref a2), .val (.ref a3), .val (.ref a4), .val (.ref a5), .val (.ref b435), .val (.int (Int32.ofNat i)), .val (.int x7), .val (.int x8), .val (.int e_a2_4)] [(.int (Int32.ofNat i))])) _
                                                                    refine XS.iconst X906.here hx rfl (hb hby d2_343) ?_
                                                                    show Steps p.tables e below (T906.setTop (mkF m 344 #[.val (.ref a1), .val (.ref a2), .val (.ref a3), .val (.ref a4), .val (.ref a5), .val (.ref b435), .val (.int (Int32.ofNat i)), .val (.int x7), .val (.int x8), .val (.int e_a2_4)] [(.int (1 : Int32)), (.int (Int32.ofNat i))])) _
                                                                    refine XS.iadd X906.here hx rfl (hb hby d2_344) rfl ?_
                                                                    show Steps p.tables e below (T906.setTop (mkF m 345 #[.val (.ref a1), .val (.ref a2), .val (.ref a3), .val (.ref a4), .val (.ref a5), .val (.ref b435), .val (.int (Int32.ofNat i)), .val (.int x7), .val (.int x8), .val (.int e_a2_4)] [(.int ((Int32.ofNat i) + (1 : Int32)))])) _
                                                                    refine XS.istore X906.here hx rfl (hb hby d2_345) rfl (l' := #[.val (.ref a1), .val (.ref a2), .val (.ref a3), .val (.ref a4), .val (.ref a5), .val (.ref b435), .val (.int (Int32.ofNat i)), .val (.int ((Int32.ofNat i) + (1 : Int32))), .val (.int x8), .val (.int e_a2_4)]) rfl ?_
                                                                    exact kt
                                                                  have h5 : i < 5 := (own_lt5 i (own_t hi)).mp hc908
                                                                  have k383 : ∀ (j : Nat), i < j → j ≤ 5 → j = own_e A O i 5 (i + 1) → ∀ (Tj : State) (Lj : List Loc), Stand p l e ({ frames := 1, cells := 18, slots := 86, locals := 13 } : Room) s m #[(.ref a1), (.ref a2), (.ref a3), (.ref a4), (.ref a5)] below meth c Tj Lj 18 86 → Tj.heap = hq → Fr n0 Lj → (∀ t, Steps p.tables e below (Tj.setTop (mkF m 383 #[.val (.ref a1), .val (.ref a2), .val (.ref a3), .val (.ref a4), .val (.ref a5), .val (.ref b435), .val (.int (Int32.ofNat i)), .val (.int (Int32.ofNat j)), .val (.int x8), .val (.int e_a2_4)] [])) t → Steps p.tables e below (s₁.setTop (entryFrame m #[(.ref a1), (.ref a2), (.ref a3), (.ref a4), (.ref a5)] 10)) t) → False := by
                                                                    intro j hij hj5 hje Tj Lj Xj ej Nj prej
                                                                    obtain ⟨T910, X910, e910, st910⟩ := getF Xj hx hZ hown (host := "") (Or.inl hw29) Via.refl ej F_cellEndq (g := (mkF m 384 #[.val (.ref a1), .val (.ref a2), .val (.ref a3), .val (.ref a4), .val (.ref a5), .val (.ref b435), .val (.int (Int32.ofNat i)), .val (.int (Int32.ofNat j)), .val (.int x8), .val (.int e_a2_4)] [(.ref a1)])) rfl rfl (hb hby d2_384)
                                                                    have sd911 : ¬ ((Int32.ofNat i) < 0) ∧ (Int32.ofNat i) < (5 : Int32) := (side_2_391_911 e_a2_0 e_a2_1 e_a2_2 e_a2_3 e_a2_4 hC A O hOr i hi r hr hc908 h5 j hij hj5)
                                                                    have Vo911 : Arv Z hq b91 k91 .int (5 : Int32) (E.map Value.int) (.int (0 : Int32)) := Y4q
                                                                    obtain ⟨cl911, Ar911, aq911, S911, M911, H911, G911⟩ := id Y4q
                                                                    obtain ⟨T911, h911, X911, e911, W911, st911⟩ := stI X910 hx hZ e910 Ar911 (j := (Int32.ofNat i)) (inb_of S911 sd911) (g := (mkF m 391 #[.val (.ref a1), .val (.ref a2), .val (.ref a3), .val (.ref a4), .val (.ref a5), .val (.ref b435), .val (.int (Int32.ofNat i)), .val (.int (Int32.ofNat j)), .val (.int x8), .val (.int e_a2_4)] [(.int (Int32.ofNat j)), (.int (Int32.ofNat i)), (.ref b91)])) rfl rfl (hb hby d2_391)
                                                                    have hl911 : (E.set ((Int32.ofNat i)).toNatClampNeg (Int32.ofNat j)).length = 5 := (List.length_set ..).trans hE
                                                                    have V911 : Arv Z h911 b91 k91 .int (5 : Int32) ((E.set ((Int32.ofNat i)).toNatClampNeg (Int32.ofNat j)).map Value.int) (.int (0 : Int32)) := own_setL Vo911 hE W911 sd911
                                                                    have N911 := Fr.snoc X911 Nj g_b91
                                                                    have pre912 : ∀ t, Steps p.tables e below (T911.setTop (mkF m 396 #[.val (.ref a1), .val (.ref a2), .val (.ref a3), .val (.ref a4), .val (.ref a5), .val (.ref b435), .val (.int (Int32.ofNat i)), .val (.int (Int32.ofNat j)), .val (.int (Int32.ofNat i)), .val (.int e_a2_4)] [])) t → Steps p.tables e below (s₁.setTop (entryFrame m #[(.ref a1), (.ref a2), (.ref a3), (.ref a4), (.ref a5)] 10)) t := fun t kt => by
                                                                      refine prej t ?_
                                                                      show Steps p.tables e below (Tj.setTop (mkF m 383 #[.val (.ref a1), .val (.ref a2), .val (.ref a3), .val (.ref a4), .val (.ref a5), .val (.ref b435), .val (.int (Int32.ofNat i)), .val (.int (Int32.ofNat j)), .val (.int x8), .val (.int e_a2_4)] [])) _
                                                                      refine XS.aloadN Xj.here hx rfl (hb hby d2_383) rfl rfl ?_
                                                                      show Steps p.tables e below (Tj.setTop (mkF m 384 #[.val (.ref a1), .val (.ref a2), .val (.ref a3), .val (.ref a4), .val (.ref a5), .val (.ref b435), .val (.int (Int32.ofNat i)), .val (.int (Int32.ofNat j)), .val (.int x8), .val (.int e_a2_4)] [(.ref a1)])) _
                                                                      refine st910 _ ?_
                                                                      show Steps p.tables e below (T910.setTop (mkF m 387 #[.val (.ref a1), .val (.ref a2), .val (.ref a3), .val (.ref a4), .val (.ref a5), .val (.ref b435), .val (.int (Int32.ofNat i)), .val (.int (Int32.ofNat j)), .val (.int x8), .val (.int e_a2_4)] [(.ref b91)])) _
                                                                      refine XS.iload X910.here hx rfl (hb hby d2_387) rfl ?_
                                                                      show Steps p.tables e below (T910.setTop (mkF m 389 #[.val (.ref a1), .val (.ref a2), .val (.ref a3), .val (.ref a4), .val (.ref a5), .val (.ref b435), .val (.int (Int32.ofNat i)), .val (.int (Int32.ofNat j)), .val (.int x8), .val (.int e_a2_4)] [(.int (Int32.ofNat i)), (.ref b91)])) _
                                                                      refine XS.iload X910.here hx rfl (hb hby d2_389) rfl ?_
                                                                      show Steps p.tables e below (T910.setTop (mkF m 391 #[.val (.ref a1), .val (.ref a2), .val (.ref a3), .val (.ref a4), .val (.ref a5), .val (.ref b435), .val (.int (Int32.ofNat i)), .val (.int (Int32.ofNat j)), .val (.int x8), .val (.int e_a2_4)] [(.int (Int32.ofNat j)), (.int (Int32.ofNat i)), (.ref b91)])) _
                                                                      refine st911 _ ?_
                                                                      show Steps p.tables e below (T911.setTop (mkF m 392 #[.val (.ref a1), .val (.ref a2), .val (.ref a3), .val (.ref a4), .val (.ref a5), .val (.ref b435), .val (.int (Int32.ofNat i)), .val (.int (Int32.ofNat j)), .val (.int x8), .val (.int e_a2_4)] [])) _
                                                                      refine XS.iload X911.here hx rfl (hb hby d2_392) rfl ?_
                                                                      show Steps p.tables e below (T911.setTop (mkF m 394 #[.val (.ref a1), .val (.ref a2), .val (.ref a3), .val (.ref a4), .val (.ref a5), .val (.ref b435), .val (.int (Int32.ofNat i)), .val (.int (Int32.ofNat j)), .val (.int x8), .val (.int e_a2_4)] [(.int (Int32.ofNat i))])) _
                                                                      refine XS.istore X911.here hx rfl (hb hby d2_394) rfl (l' := #[.val (.ref a1), .val (.ref a2), .val (.ref a3), .val (.ref a4), .val (.ref a5), .val (.ref b435), .val (.int (Int32.ofNat i)), .val (.int (Int32.ofNat j)), .val (.int (Int32.ofNat i)), .val (.int e_a2_4)]) rfl ?_
                                                                      exact kt
                                                                    have fq913 := (Exa.wr W911 Eq)
                                                                    have fq914 := (Fld.other W911 F_sizeq (Or.inl ne_a1_b91))
                                                                    have fq915 := (Fld.other W911 F_orderq (Or.inl ne_a1_b91))
                                                                    have fq916 := (Fld.other W911 F_cellOfq (Or.inl ne_a1_b91))
                                                                    have fq917 := (Fld.other W911 F_cellEndq (Or.inl ne_a1_b91))
                                                                    have fq918 := (Fld.other W911 F_queueq (Or.inl ne_a1_b91))
                                                                    have fq919 := (Fld.other W911 F_queuedq (Or.inl ne_a1_b91))
                                                                    have fq920 := (Fld.other W911 F_queueHeadq (Or.inl ne_a1_b91))
                                                                    have fq921 := (Fld.other W911 F_queueSizeq (Or.inl ne_a1_b91))
                                                                    have fq922 := (Fld.other W911 F_cellsq (Or.inl ne_a1_b91))
                                                                    have fq923 := (Y1q.other W911 ne_a2_b91)
                                                                    have fq924 := (Y2q.other W911 ne_b41_b91)
                                                                    have fq925 := (Y3q.other W911 ne_b85_b91)
                                                                    have fq926 := (VUq.other W911 (Ne.symm ne_b91_b133))
                                                                    have fq927 := (VDq.other W911 (Ne.symm ne_b91_b139))
                                                                    have z928 : n0 ≤ h911.size := (Nat.le_trans zq (Keep.of_wr W911).1)
                                                                    have l396 : ∀ (g k : Nat), j - k < g → k ≤ j → ∀ (W : List Int32) (Tk : State) (Lk : List Loc) (hk : Heap), W.length = 5 → Stand p l e ({ frames := 1, cells := 18, slots := 86, locals := 13 } : Room) s m #[(.ref a1), (.ref a2), (.ref a3), (.ref a4), (.ref a5)] below meth c Tk Lk 18 86 → Tk.heap = hk → Fr n0 Lk → n0 ≤ hk.size → own_EQ Z hk a1 b41 b85 b91 b133 b139 k133 k139 U D r (.int x) → Arv Z hk a2 k_a2 .int (5 : Int32) (A.map Value.int) (.int (0 : Int32)) → Arv Z hk b41 k41 .int (5 : Int32) (O.map Value.int) (.int (0 : Int32)) → Arv Z hk b85 k85 .int (5 : Int32) (W.map Value.int) (.int (0 : Int32)) → Arv Z hk b91 k91 .int (5 : Int32) ((E.set ((Int32.ofNat i)).toNatClampNeg (Int32.ofNat j)).map Value.int) (.int (0 : Int32)) → (∀ t, Steps p.tables e below (Tk.setTop (mkF m 396 #[.val (.ref a1), .val (.ref a2), .val (.ref a3), .val (.ref a4), .val (.ref a5), .val (.ref b435), .val (.int (Int32.ofNat i)), .val (.int (Int32.ofNat j)), .val (.int (Int32.ofNat k)), .val (.int e_a2_4)] [])) t → Steps p.tables e below (s₁.setTop (entryFrame m #[(.ref a1), (.ref a2), (.ref a3), (.ref a4), (.ref a5)] 10)) t) → False := by
                                                                      intro g
                                                                      induction g with
                                                                      | zero => intro k h; exact absurd h (Nat.not_lt_zero _)
                                                                      | succ g ihg =>
                                                                        intro k hg hkj W Tk Lk hk hW Xk ek Nk zk ⟨Ek, F_sizek, F_orderk, F_cellOfk, F_cellEndk, F_queuek, F_queuedk, F_queueHeadk, F_queueSizek, F_cellsk, VUk, VDk⟩ Y1k Y2k Y3k Y4k prek
                                                                        have pre929 : ∀ t, Steps p.tables e below (Tk.setTop (mkF m 400 #[.val (.ref a1), .val (.ref a2), .val (.ref a3), .val (.ref a4), .val (.ref a5), .val (.ref b435), .val (.int (Int32.ofNat i)), .val (.int (Int32.ofNat j)), .val (.int (Int32.ofNat k)), .val (.int e_a2_4)] [(.int (Int32.ofNat j)), (.int (Int32.ofNat k))])) t → Steps p.tables e below (s₁.setTop (entryFrame m #[(.ref a1), (.ref a2), (.ref a3), (.ref a4), (.ref a5)] 10)) t := fun t kt => by
                                                                          refine prek t ?_
                                                                          show Steps p.tables e below (Tk.setTop (mkF m 396 #[.val (.ref a1), .val (.ref a2), .val (.ref a3), .val (.ref a4), .val (.ref a5), .val (.ref b435), .val (.int (Int32.ofNat i)), .val (.int (Int32.ofNat j)), .val (.int (Int32.ofNat k)), .val (.int e_a2_4)] [])) _
                                                                          refine XS.iload Xk.here hx rfl (hb hby d2_396) rfl ?_
                                                                          show Steps p.tables e below (Tk.setTop (mkF m 398 #[.val (.ref a1), .val (.ref a2), .val (.ref a3), .val (.ref a4), .val (.ref a5), .val (.ref b435), .val (.int (Int32.ofNat i)), .val (.int (Int32.ofNat j)), .val (.int (Int32.ofNat k)), .val (.int e_a2_4)] [(.int (Int32.ofNat k))])) _
                                                                          refine XS.iload Xk.here hx rfl (hb hby d2_398) rfl ?_
                                                                          exact kt
                                                                        by_cases hc930 : (Int32.ofNat k) < (Int32.ofNat j)
                                                                        · obtain ⟨T931, X931, e931, st931⟩ := getF Xk hx hZ hown (host := "") (Or.inl hw27) Via.refl ek F_cellOfk (g := (mkF m 404 #[.val (.ref a1), .val (.ref a2), .val (.ref a3), .val (.ref a4), .val (.ref a5), .val (.ref b435), .val (.int (Int32.ofNat i)), .val (.int (Int32.ofNat j)), .val (.int (Int32.ofNat k)), .val (.int e_a2_4)] [(.ref a1)])) rfl rfl (hb hby d2_404)
                                                                          obtain ⟨T932, X932, e932, st932⟩ := getF X931 hx hZ hown (host := "") (Or.inl hw23) Via.refl e931 F_orderk (g := (mkF m 408 #[.val (.ref a1), .val (.ref a2), .val (.ref a3), .val (.ref a4), .val (.ref a5), .val (.ref b435), .val (.int (Int32.ofNat i)), .val (.int (Int32.ofNat j)), .val (.int (Int32.ofNat k)), .val (.int e_a2_4)] [(.ref a1), (.ref b85)])) rfl rfl (hb hby d2_408)
                                                                          obtain ⟨cl933, Ar933, aq933, S933, M933, H933, G933⟩ := id Y2k
                                                                          have hin933 : ¬ ((Int32.ofNat k) < 0 ∨ cl933.slots.size ≤ ((Int32.ofNat k)).toNatClampNeg) := inb_of S933 (side_2_413_933 e_a2_0 e_a2_1 e_a2_2 e_a2_3 e_a2_4 hC A O hOr i hi r hr hc908 h5 j hij hj5 k hkj hc930)
                                                                          have hat933 : cl933.slots[((Int32.ofNat k)).toNatClampNeg]? = some (.int (own_at O (Int32.ofNat k))) := Has.at H933 hin933 (own_getD O ((Int32.ofNat k)).toNatClampNeg)
                                                                          have sd934 : ¬ ((own_at O (Int32.ofNat k)) < 0) ∧ (own_at O (Int32.ofNat k)) < (5 : Int32) := (side_2_416_934 e_a2_0 e_a2_1 e_a2_2 e_a2_3 e_a2_4 hC A O hOr i hi r hr hc908 h5 j hij hj5 k hkj hc930)
                                                                          have Vo934 : Arv Z hk b85 k85 .int (5 : Int32) (W.map Value.int) (.int (0 : Int32)) := Y3k
                                                                          obtain ⟨cl934, Ar934, aq934, S934, M934, H934, G934⟩ := id Y3k
                                                                          obtain ⟨T934, h934, X934, e934, W934, st934⟩ := stI X932 hx hZ e932 Ar934 (j := (own_at O (Int32.ofNat k))) (inb_of S934 sd934) (g := (mkF m 416 #[.val (.ref a1), .val (.ref a2), .val (.ref a3), .val (.ref a4), .val (.ref a5), .val (.ref b435), .val (.int (Int32.ofNat i)), .val (.int (Int32.ofNat j)), .val (.int (Int32.ofNat k)), .val (.int e_a2_4)] [(.int (Int32.ofNat i)), (.int (own_at O (Int32.ofNat k))), (.ref b85)])) rfl rfl (hb hby d2_416)
                                                                          have hl934 : (W.set ((own_at O (Int32.ofNat k))).toNatClampNeg (Int32.ofNat i)).length = 5 := (List.length_set ..).trans hW
                                                                          have V934 : Arv Z h934 b85 k85 .int (5 : Int32) ((W.set ((own_at O (Int32.ofNat k))).toNatClampNeg (Int32.ofNat i)).map Value.int) (.int (0 : Int32)) := own_setL Vo934 hW W934 sd934
                                                                          have N934 := Fr.snoc X934 Nk g_b85
                                                                          have pre935 : ∀ t, Steps p.tables e below (T934.setTop (mkF m 396 #[.val (.ref a1), .val (.ref a2), .val (.ref a3), .val (.ref a4), .val (.ref a5), .val (.ref b435), .val (.int (Int32.ofNat i)), .val (.int (Int32.ofNat j)), .val (.int ((Int32.ofNat k) + (1 : Int32))), .val (.int e_a2_4)] [])) t → Steps p.tables e below (s₁.setTop (entryFrame m #[(.ref a1), (.ref a2), (.ref a3), (.ref a4), (.ref a5)] 10)) t := fun t kt => by
                                                                            refine pre929 t ?_
                                                                            show Steps p.tables e below (Tk.setTop (mkF m 400 #[.val (.ref a1), .val (.ref a2), .val (.ref a3), .val (.ref a4), .val (.ref a5), .val (.ref b435), .val (.int (Int32.ofNat i)), .val (.int (Int32.ofNat j)), .val (.int (Int32.ofNat k)), .val (.int e_a2_4)] [(.int (Int32.ofNat j)), (.int (Int32.ofNat k))])) _
                                                                            refine XS.icmpNo Xk.here hx rfl (hb hby d2_400) rfl (tlt hc930).2.1 ?_
                                                                            show Steps p.tables e below (Tk.setTop (mkF m 403 #[.val (.ref a1), .val (.ref a2), .val (.ref a3), .val (.ref a4), .val (.ref a5), .val (.ref b435), .val (.int (Int32.ofNat i)), .val (.int (Int32.ofNat j)), .val (.int (Int32.ofNat k)), .val (.int e_a2_4)] [])) _
                                                                            refine XS.aloadN Xk.here hx rfl (hb hby d2_403) rfl rfl ?_
                                                                            show Steps p.tables e below (Tk.setTop (mkF m 404 #[.val (.ref a1), .val (.ref a2), .val (.ref a3), .val (.ref a4), .val (.ref a5), .val (.ref b435), .val (.int (Int32.ofNat i)), .val (.int (Int32.ofNat j)), .val (.int (Int32.ofNat k)), .val (.int e_a2_4)] [(.ref a1)])) _
                                                                            refine st931 _ ?_
                                                                            show Steps p.tables e below (T931.setTop (mkF m 407 #[.val (.ref a1), .val (.ref a2), .val (.ref a3), .val (.ref a4), .val (.ref a5), .val (.ref b435), .val (.int (Int32.ofNat i)), .val (.int (Int32.ofNat j)), .val (.int (Int32.ofNat k)), .val (.int e_a2_4)] [(.ref b85)])) _
                                                                            refine XS.aloadN X931.here hx rfl (hb hby d2_407) rfl rfl ?_
                                                                            show Steps p.tables e below (T931.setTop (mkF m 408 #[.val (.ref a1), .val (.ref a2), .val (.ref a3), .val (.ref a4), .val (.ref a5), .val (.ref b435), .val (.int (Int32.ofNat i)), .val (.int (Int32.ofNat j)), .val (.int (Int32.ofNat k)), .val (.int e_a2_4)] [(.ref a1), (.ref b85)])) _
                                                                            refine st932 _ ?_
                                                                            show Steps p.tables e below (T932.setTop (mkF m 411 #[.val (.ref a1), .val (.ref a2), .val (.ref a3), .val (.ref a4), .val (.ref a5), .val (.ref b435), .val (.int (Int32.ofNat i)), .val (.int (Int32.ofNat j)), .val (.int (Int32.ofNat k)), .val (.int e_a2_4)] [(.ref b41), (.ref b85)])) _
                                                                            refine XS.iload X932.here hx rfl (hb hby d2_411) rfl ?_
                                                                            show Steps p.tables e below (T932.setTop (mkF m 413 #[.val (.ref a1), .val (.ref a2), .val (.ref a3), .val (.ref a4), .val (.ref a5), .val (.ref b435), .val (.int (Int32.ofNat i)), .val (.int (Int32.ofNat j)), .val (.int (Int32.ofNat k)), .val (.int e_a2_4)] [(.int (Int32.ofNat k)), (.ref b41), (.ref b85)])) _
                                                                            refine X932.iaload hx (j := (Int32.ofNat k)) (v := (.int (own_at O (Int32.ofNat k)))) (by rw [e932]; exact Ar933.1) (State.isArrayOf_alike hZ.alike Ar933.2.1) Ar933.2.2 hin933 hat933 (g := (mkF m 413 #[.val (.ref a1), .val (.ref a2), .val (.ref a3), .val (.ref a4), .val (.ref a5), .val (.ref b435), .val (.int (Int32.ofNat i)), .val (.int (Int32.ofNat j)), .val (.int (Int32.ofNat k)), .val (.int e_a2_4)] [(.int (Int32.ofNat k)), (.ref b41), (.ref b85)])) rfl rfl (hb hby d2_413) _ ?_
                                                                            show Steps p.tables e below (T932.setTop (mkF m 414 #[.val (.ref a1), .val (.ref a2), .val (.ref a3), .val (.ref a4), .val (.ref a5), .val (.ref b435), .val (.int (Int32.ofNat i)), .val (.int (Int32.ofNat j)), .val (.int (Int32.ofNat k)), .val (.int e_a2_4)] [(.int (own_at O (Int32.ofNat k))), (.ref b85)])) _
                                                                            refine XS.iload X932.here hx rfl (hb hby d2_414) rfl ?_
                                                                            show Steps p.tables e below (T932.setTop (mkF m 416 #[.val (.ref a1), .val (.ref a2), .val (.ref a3), .val (.ref a4), .val (.ref a5), .val (.ref b435), .val (.int (Int32.ofNat i)), .val (.int (Int32.ofNat j)), .val (.int (Int32.ofNat k)), .val (.int e_a2_4)] [(.int (Int32.ofNat i)), (.int (own_at O (Int32.ofNat k))), (.ref b85)])) _
                                                                            refine st934 _ ?_
                                                                            show Steps p.tables e below (T934.setTop (mkF m 417 #[.val (.ref a1), .val (.ref a2), .val (.ref a3), .val (.ref a4), .val (.ref a5), .val (.ref b435), .val (.int (Int32.ofNat i)), .val (.int (Int32.ofNat j)), .val (.int (Int32.ofNat k)), .val (.int e_a2_4)] [])) _
                                                                            refine XS.iinc X934.here hx rfl (hb hby d2_417) rfl (l' := #[.val (.ref a1), .val (.ref a2), .val (.ref a3), .val (.ref a4), .val (.ref a5), .val (.ref b435), .val (.int (Int32.ofNat i)), .val (.int (Int32.ofNat j)), .val (.int ((Int32.ofNat k) + (1 : Int32))), .val (.int e_a2_4)]) rfl ?_
                                                                            show Steps p.tables e below (T934.setTop (mkF m 420 #[.val (.ref a1), .val (.ref a2), .val (.ref a3), .val (.ref a4), .val (.ref a5), .val (.ref b435), .val (.int (Int32.ofNat i)), .val (.int (Int32.ofNat j)), .val (.int ((Int32.ofNat k) + (1 : Int32))), .val (.int e_a2_4)] [])) _
                                                                            refine XS.goto X934.here hx rfl (pc0 := 420) (pc' := 396) rfl (hb hby d2_420) (by decide) (by decide) ?_
                                                                            exact kt
                                                                          have fq936 := (Exa.wr W934 Ek)
                                                                          have fq937 := (Fld.other W934 F_sizek (Or.inl ne_a1_b85))
                                                                          have fq938 := (Fld.other W934 F_orderk (Or.inl ne_a1_b85))
                                                                          have fq939 := (Fld.other W934 F_cellOfk (Or.inl ne_a1_b85))
                                                                          have fq940 := (Fld.other W934 F_cellEndk (Or.inl ne_a1_b85))
                                                                          have fq941 := (Fld.other W934 F_queuek (Or.inl ne_a1_b85))
                                                                          have fq942 := (Fld.other W934 F_queuedk (Or.inl ne_a1_b85))
                                                                          have fq943 := (Fld.other W934 F_queueHeadk (Or.inl ne_a1_b85))
                                                                          have fq944 := (Fld.other W934 F_queueSizek (Or.inl ne_a1_b85))
                                                                          have fq945 := (Fld.other W934 F_cellsk (Or.inl ne_a1_b85))
                                                                          have fq946 := (Y1k.other W934 ne_a2_b85)
                                                                          have fq947 := (Y2k.other W934 ne_b41_b85)
                                                                          have fq948 := (Y4k.other W934 (Ne.symm ne_b85_b91))
                                                                          have fq949 := (VUk.other W934 (Ne.symm ne_b85_b133))
                                                                          have fq950 := (VDk.other W934 (Ne.symm ne_b85_b139))
                                                                          have z951 : n0 ≤ h934.size := (Nat.le_trans zk (Keep.of_wr W934).1)
                                                                          have hk5 : k < j := (own_lt k j (own_t2 hkj hj5) (own_t hj5)).mp hc930
                                                                          have z := pre935
                                                                          rw [own_sc k] at z
                                                                          exact ihg (k + 1) (own_o2 hg hk5) hk5 _ _ _ _ hl934 X934 e934 N934 z951 ⟨fq936, fq937, fq938, fq939, fq940, fq941, fq942, fq943, fq944, fq945, fq949, fq950⟩ fq946 fq947 V934 fq948 z
                                                                        · obtain ⟨T952, X952, e952, st952⟩ := getF Xk hx hZ hown (host := "") (Or.inl hw58) Via.refl ek F_cellsk (g := (mkF m 425 #[.val (.ref a1), .val (.ref a2), .val (.ref a3), .val (.ref a4), .val (.ref a5), .val (.ref b435), .val (.int (Int32.ofNat i)), .val (.int (Int32.ofNat j)), .val (.int (Int32.ofNat k)), .val (.int e_a2_4)] [(.ref a1), (.ref a1)])) rfl rfl (hb hby d2_425)
                                                                          obtain ⟨T953, h953, X953, e953, W953, st953⟩ := putF X952 hx hZ hown (host := "") (Or.inl hw58) Via.refl e952 F_cellsk Ek (Or.inl hw59) hw7 (ty := .int) (by decide) rfl rfl (g := (mkF m 430 #[.val (.ref a1), .val (.ref a2), .val (.ref a3), .val (.ref a4), .val (.ref a5), .val (.ref b435), .val (.int (Int32.ofNat i)), .val (.int (Int32.ofNat j)), .val (.int (Int32.ofNat k)), .val (.int e_a2_4)] [(.int (x + (1 : Int32))), (.ref a1)])) rfl rfl (hb hby d2_430)
                                                                          have Fw953 := Fld.same W953 F_cellsk
                                                                          have N953 := Fr.snoc X953 Nk g_a1
                                                                          have fq955 := (Fld.other W953 F_sizek (Or.inr (slot_ne (Or.inr hw16) (Or.inl hw59) (by decide) (t := .int) (t' := .int) (by decide) (by decide))))
                                                                          have fq956 := (Fld.other W953 F_queueHeadk (Or.inr (slot_ne (Or.inl hw65) (Or.inl hw59) (by decide) (t := .int) (t' := .int) (by decide) (by decide))))
                                                                          have fq957 := (Fld.other W953 F_orderk (Or.inr (slot_ne (Or.inr hw24) (Or.inl hw59) (by decide) (t := (.array .int)) (t' := .int) (by decide) (by decide))))
                                                                          have fq958 := (Fld.other W953 F_cellOfk (Or.inr (slot_ne (Or.inr hw28) (Or.inl hw59) (by decide) (t := (.array .int)) (t' := .int) (by decide) (by decide))))
                                                                          have fq959 := (Fld.other W953 F_cellEndk (Or.inr (slot_ne (Or.inr hw30) (Or.inl hw59) (by decide) (t := (.array .int)) (t' := .int) (by decide) (by decide))))
                                                                          have fq960 := (Fld.other W953 F_queuek (Or.inr (slot_ne (Or.inr hw32) (Or.inl hw59) (by decide) (t := (.array .int)) (t' := .int) (by decide) (by decide))))
                                                                          have fq961 := (Fld.other W953 F_queuedk (Or.inr (slot_ne (Or.inr hw35) (Or.inl hw59) (by decide) (t := (.array .boolean)) (t' := .int) (by decide) (by decide))))
                                                                          have fq962 := (Fld.other W953 F_queueSizek (Or.inr (slot_ne (Or.inl hw67) (Or.inl hw59) (by decide) (t := .int) (t' := .int) (by decide) (by decide))))
                                                                          have fq963 := (Exa.wr W953 Ek)
                                                                          have fq964 := (VUk.other W953 (Ne.symm ne_a1_b133))
                                                                          have fq965 := (VDk.other W953 (Ne.symm ne_a1_b139))
                                                                          have z966 : n0 ≤ h953.size := (Nat.le_trans zk (Keep.of_wr W953).1)
                                                                          obtain ⟨cq954, iq954, iq954'⟩ := fq963.cell
                                                                          obtain ⟨_, _, ⟨T954, L954, k954, n954⟩, -, X954, ⟨Lc954, hQ954, l954, y954, z954⟩, st954⟩ := X953.privateBack hx (y := (⟨"com/example/tercet/tercet/Partition", "enqueue", "(I)V"⟩ : MethodName)) hown (mvT hZ hw60) (mvT hZ hw61) (own_selp (z := (⟨"com/example/tercet/tercet/Partition", "firstNonSingletonCell", "(I)I"⟩ : MethodName)) (mvT hZ hw71) rfl (Cond.privateMethod_at (mvP hZ hw62 (args := #[]))) (mvT hZ hw61) (by decide)) (Cond.privateMethod_at (mvP hZ hw62 (args := #[]))) (mvT hZ hw63) (by decide) (backOf (W := 0) (rm4 l Z a0 hw [] a1 (Int32.ofNat i) b41 b85 b91 b133 k133 U b139 k139 D r (.int (x + (1 : Int32))) h953 n0 z966 fq963 fq955 fq956 fq957 fq958 fq959 fq960 fq964 hU fq961 fq965 hD fq962 Fw953 (side_2_436 e_a2_0 e_a2_1 e_a2_2 e_a2_3 e_a2_4 hC A O hOr i hi r hr hc908 h5 j hij hj5 k hkj hc930) (side_2_436_2 e_a2_0 e_a2_1 e_a2_2 e_a2_3 e_a2_4 hC A O hOr i hi r hr hc908 h5 j hij hj5 k hkj hc930) g_b139 ne_a1_b139 ne_b133_b139 g_b133 ne_a1_b133 g_a1) hZ hw63 hw8 (by decide) (by decide)) (g := (mkF m 436 #[.val (.ref a1), .val (.ref a2), .val (.ref a3), .val (.ref a4), .val (.ref a5), .val (.ref b435), .val (.int (Int32.ofNat i)), .val (.int (Int32.ofNat j)), .val (.int (Int32.ofNat k)), .val (.int e_a2_4)] [(.int (Int32.ofNat i)), (.ref a1)])) rfl (by rw [hml]; rfl) (Steps.refl _) (a := a1) (by rw [e953]; exact iq954) iq954' (argsL := [(.int (Int32.ofNat i))]) (rest := []) (lenOf pd_2_3 rfl) rfl (by show 2 * 0 + _ ≤ _; exact Nat.le_of_eq rfl) (hb hby d2_436) (fun _ _ => ⟨rfl, e953, (by decide : 18 + 0 ≤ _), (by decide : 86 + 0 ≤ _)⟩)
                                                                          dsimp only [Pt.U, Pt.locs, Pt.cells, Pt.slots] at X954 l954 y954 z954 st954 hQ954
                                                                          subst l954 y954 z954
                                                                          obtain ⟨rfl, N954q, K954, U954, D954, r954, hU954, hD954, hr954, E954, F_size954, F_order954, F_cellOf954, F_cellEnd954, F_queue954, F_queued954, F_queueHead954, F_queueSize954, F_cells954, VU954, VD954⟩ := hQ954
                                                                          have N954 := Fr.app N953 N954q
                                                                          obtain ⟨T967, X967, e967, st967⟩ := getF X954 hx hZ hown (host := "") (Or.inl hw29) Via.refl rfl F_cellEnd954 (g := (mkF m 440 #[.val (.ref a1), .val (.ref a2), .val (.ref a3), .val (.ref a4), .val (.ref a5), .val (.ref b435), .val (.int (Int32.ofNat i)), .val (.int (Int32.ofNat j)), .val (.int (Int32.ofNat k)), .val (.int e_a2_4)] [(.ref a1)])) rfl rfl (hb hby d2_440)
                                                                          have fq968 := ((Y4k.other W953 (Ne.symm ne_a1_b91)).keep K954 (ninS ne_b91_b139 (ninS ne_b91_b133 (ninS (Ne.symm ne_a1_b91) nin0))))
                                                                          obtain ⟨cl969, Ar969, aq969, S969, M969, H969, G969⟩ := id fq968
                                                                          have hin969 : ¬ ((Int32.ofNat i) < 0 ∨ cl969.slots.size ≤ ((Int32.ofNat i)).toNatClampNeg) := inb_of S969 (side_2_445_969 e_a2_0 e_a2_1 e_a2_2 e_a2_3 e_a2_4 hC A O hOr i hi r hr hc908 h5 j hij hj5 k hkj hc930)
                                                                          have hat969 : cl969.slots[((Int32.ofNat i)).toNatClampNeg]? = some (.int (own_at (E.set ((Int32.ofNat i)).toNatClampNeg (Int32.ofNat j)) (Int32.ofNat i))) := Has.at H969 hin969 (own_getD (E.set ((Int32.ofNat i)).toNatClampNeg (Int32.ofNat j)) ((Int32.ofNat i)).toNatClampNeg)
                                                                          have pre970 : ∀ t, Steps p.tables e below (T967.setTop (mkF m 332 #[.val (.ref a1), .val (.ref a2), .val (.ref a3), .val (.ref a4), .val (.ref a5), .val (.ref b435), .val (.int (own_at (E.set ((Int32.ofNat i)).toNatClampNeg (Int32.ofNat j)) (Int32.ofNat i))), .val (.int (Int32.ofNat j)), .val (.int (Int32.ofNat k)), .val (.int e_a2_4)] [])) t → Steps p.tables e below (s₁.setTop (entryFrame m #[(.ref a1), (.ref a2), (.ref a3), (.ref a4), (.ref a5)] 10)) t := fun t kt => by
                                                                            refine pre929 t ?_
                                                                            show Steps p.tables e below (Tk.setTop (mkF m 400 #[.val (.ref a1), .val (.ref a2), .val (.ref a3), .val (.ref a4), .val (.ref a5), .val (.ref b435), .val (.int (Int32.ofNat i)), .val (.int (Int32.ofNat j)), .val (.int (Int32.ofNat k)), .val (.int e_a2_4)] [(.int (Int32.ofNat j)), (.int (Int32.ofNat k))])) _
                                                                            refine XS.icmpYes Xk.here hx rfl (pc0 := 400) (pc' := 423) rfl (hb hby d2_400) rfl (flt hc930).2.1 (by decide) (by decide) ?_
                                                                            show Steps p.tables e below (Tk.setTop (mkF m 423 #[.val (.ref a1), .val (.ref a2), .val (.ref a3), .val (.ref a4), .val (.ref a5), .val (.ref b435), .val (.int (Int32.ofNat i)), .val (.int (Int32.ofNat j)), .val (.int (Int32.ofNat k)), .val (.int e_a2_4)] [])) _
                                                                            refine XS.aloadN Xk.here hx rfl (hb hby d2_423) rfl rfl ?_
                                                                            show Steps p.tables e below (Tk.setTop (mkF m 424 #[.val (.ref a1), .val (.ref a2), .val (.ref a3), .val (.ref a4), .val (.ref a5), .val (.ref b435), .val (.int (Int32.ofNat i)), .val (.int (Int32.ofNat j)), .val (.int (Int32.ofNat k)), .val (.int e_a2_4)] [(.ref a1)])) _
                                                                            refine XS.dup Xk.here hx rfl (hb hby d2_424) rfl rfl ?_
                                                                            show Steps p.tables e below (Tk.setTop (mkF m 425 #[.val (.ref a1), .val (.ref a2), .val (.ref a3), .val (.ref a4), .val (.ref a5), .val (.ref b435), .val (.int (Int32.ofNat i)), .val (.int (Int32.ofNat j)), .val (.int (Int32.ofNat k)), .val (.int e_a2_4)] [(.ref a1), (.ref a1)])) _
                                                                            refine st952 _ ?_
                                                                            show Steps p.tables e below (T952.setTop (mkF m 428 #[.val (.ref a1), .val (.ref a2), .val (.ref a3), .val (.ref a4), .val (.ref a5), .val (.ref b435), .val (.int (Int32.ofNat i)), .val (.int (Int32.ofNat j)), .val (.int (Int32.ofNat k)), .val (.int e_a2_4)] [(.int x), (.ref a1)])) _
                                                                            refine XS.iconst X952.here hx rfl (hb hby d2_428) ?_
                                                                            show Steps p.tables e below (T952.setTop (mkF m 429 #[.val (.ref a1), .val (.ref a2), .val (.ref a3), .val (.ref a4), .val (.ref a5), .val (.ref b435), .val (.int (Int32.ofNat i)), .val (.int (Int32.ofNat j)), .val (.int (Int32.ofNat k)), .val (.int e_a2_4)] [(.int (1 : Int32)), (.int x), (.ref a1)])) _
                                                                            refine XS.iadd X952.here hx rfl (hb hby d2_429) rfl ?_
                                                                            show Steps p.tables e below (T952.setTop (mkF m 430 #[.val (.ref a1), .val (.ref a2), .val (.ref a3), .val (.ref a4), .val (.ref a5), .val (.ref b435), .val (.int (Int32.ofNat i)), .val (.int (Int32.ofNat j)), .val (.int (Int32.ofNat k)), .val (.int e_a2_4)] [(.int (x + (1 : Int32))), (.ref a1)])) _
                                                                            refine st953 _ ?_
                                                                            show Steps p.tables e below (T953.setTop (mkF m 433 #[.val (.ref a1), .val (.ref a2), .val (.ref a3), .val (.ref a4), .val (.ref a5), .val (.ref b435), .val (.int (Int32.ofNat i)), .val (.int (Int32.ofNat j)), .val (.int (Int32.ofNat k)), .val (.int e_a2_4)] [])) _
                                                                            refine XS.aloadN X953.here hx rfl (hb hby d2_433) rfl rfl ?_
                                                                            show Steps p.tables e below (T953.setTop (mkF m 434 #[.val (.ref a1), .val (.ref a2), .val (.ref a3), .val (.ref a4), .val (.ref a5), .val (.ref b435), .val (.int (Int32.ofNat i)), .val (.int (Int32.ofNat j)), .val (.int (Int32.ofNat k)), .val (.int e_a2_4)] [(.ref a1)])) _
                                                                            refine XS.iload X953.here hx rfl (hb hby d2_434) rfl ?_
                                                                            show Steps p.tables e below (T953.setTop (mkF m 436 #[.val (.ref a1), .val (.ref a2), .val (.ref a3), .val (.ref a4), .val (.ref a5), .val (.ref b435), .val (.int (Int32.ofNat i)), .val (.int (Int32.ofNat j)), .val (.int (Int32.ofNat k)), .val (.int e_a2_4)] [(.int (Int32.ofNat i)), (.ref a1)])) _
                                                                            refine st954.trans ?_
                                                                            show Steps p.tables e below (T954.setTop (mkF m 439 #[.val (.ref a1), .val (.ref a2), .val (.ref a3), .val (.ref a4), .val (.ref a5), .val (.ref b435), .val (.int (Int32.ofNat i)), .val (.int (Int32.ofNat j)), .val (.int (Int32.ofNat k)), .val (.int e_a2_4)] [])) _
                                                                            refine XS.aloadN X954.here hx rfl (hb hby d2_439) rfl rfl ?_
                                                                            show Steps p.tables e below (T954.setTop (mkF m 440 #[.val (.ref a1), .val (.ref a2), .val (.ref a3), .val (.ref a4), .val (.ref a5), .val (.ref b435), .val (.int (Int32.ofNat i)), .val (.int (Int32.ofNat j)), .val (.int (Int32.ofNat k)), .val (.int e_a2_4)] [(.ref a1)])) _
                                                                            refine st967 _ ?_
                                                                            show Steps p.tables e below (T967.setTop (mkF m 443 #[.val (.ref a1), .val (.ref a2), .val (.ref a3), .val (.ref a4), .val (.ref a5), .val (.ref b435), .val (.int (Int32.ofNat i)), .val (.int (Int32.ofNat j)), .val (.int (Int32.ofNat k)), .val (.int e_a2_4)] [(.ref b91)])) _
                                                                            refine XS.iload X967.here hx rfl (hb hby d2_443) rfl ?_
                                                                            show Steps p.tables e below (T967.setTop (mkF m 445 #[.val (.ref a1), .val (.ref a2), .val (.ref a3), .val (.ref a4), .val (.ref a5), .val (.ref b435), .val (.int (Int32.ofNat i)), .val (.int (Int32.ofNat j)), .val (.int (Int32.ofNat k)), .val (.int e_a2_4)] [(.int (Int32.ofNat i)), (.ref b91)])) _
                                                                            refine X967.iaload hx (j := (Int32.ofNat i)) (v := (.int (own_at (E.set ((Int32.ofNat i)).toNatClampNeg (Int32.ofNat j)) (Int32.ofNat i)))) (by rw [e967]; exact Ar969.1) (State.isArrayOf_alike hZ.alike Ar969.2.1) Ar969.2.2 hin969 hat969 (g := (mkF m 445 #[.val (.ref a1), .val (.ref a2), .val (.ref a3), .val (.ref a4), .val (.ref a5), .val (.ref b435), .val (.int (Int32.ofNat i)), .val (.int (Int32.ofNat j)), .val (.int (Int32.ofNat k)), .val (.int e_a2_4)] [(.int (Int32.ofNat i)), (.ref b91)])) rfl rfl (hb hby d2_445) _ ?_
                                                                            show Steps p.tables e below (T967.setTop (mkF m 446 #[.val (.ref a1), .val (.ref a2), .val (.ref a3), .val (.ref a4), .val (.ref a5), .val (.ref b435), .val (.int (Int32.ofNat i)), .val (.int (Int32.ofNat j)), .val (.int (Int32.ofNat k)), .val (.int e_a2_4)] [(.int (own_at (E.set ((Int32.ofNat i)).toNatClampNeg (Int32.ofNat j)) (Int32.ofNat i)))])) _
                                                                            refine XS.istore X967.here hx rfl (hb hby d2_446) rfl (l' := #[.val (.ref a1), .val (.ref a2), .val (.ref a3), .val (.ref a4), .val (.ref a5), .val (.ref b435), .val (.int (own_at (E.set ((Int32.ofNat i)).toNatClampNeg (Int32.ofNat j)) (Int32.ofNat i))), .val (.int (Int32.ofNat j)), .val (.int (Int32.ofNat k)), .val (.int e_a2_4)]) rfl ?_
                                                                            show Steps p.tables e below (T967.setTop (mkF m 448 #[.val (.ref a1), .val (.ref a2), .val (.ref a3), .val (.ref a4), .val (.ref a5), .val (.ref b435), .val (.int (own_at (E.set ((Int32.ofNat i)).toNatClampNeg (Int32.ofNat j)) (Int32.ofNat i))), .val (.int (Int32.ofNat j)), .val (.int (Int32.ofNat k)), .val (.int e_a2_4)] [])) _
                                                                            refine XS.goto X967.here hx rfl (pc0 := 448) (pc' := 332) rfl (hb hby d2_448) (by decide) (by decide) ?_
                                                                            exact kt
                                                                          have fq971 := ((Y1k.other W953 ne_a2_a1).keep K954 (ninS ne_a2_b139 (ninS ne_a2_b133 (ninS ne_a2_a1 nin0))))
                                                                          have fq972 := ((Y2k.other W953 (Ne.symm ne_a1_b41)).keep K954 (ninS ne_b41_b139 (ninS ne_b41_b133 (ninS (Ne.symm ne_a1_b41) nin0))))
                                                                          have fq973 := ((Y3k.other W953 (Ne.symm ne_a1_b85)).keep K954 (ninS ne_b85_b139 (ninS ne_b85_b133 (ninS (Ne.symm ne_a1_b85) nin0))))
                                                                          have z974 : n0 ≤ T954.heap.size := (Nat.le_trans z966 K954.1)
                                                                          have hz : own_at (E.set ((Int32.ofNat i)).toNatClampNeg (Int32.ofNat j)) (Int32.ofNat i) = Int32.ofNat j := own_gs E i j h5 hE
                                                                          have z := pre970
                                                                          rw [hz] at z
                                                                          have hce2 : own_ce A O f j (E.set ((Int32.ofNat i)).toNatClampNeg (Int32.ofNat j)) = CE := by rw [own_ce, if_pos h5, ← hje] at hce; rw [own_cl i (own_t hi)]; exact hce
                                                                          exact ih j (own_o1 hf h5 hij) hj5 _ _ _ _ _ _ _ _ _ _ _ hl911 hW hU954 hD954 (own_qn hr954 hr hi hij) hce2 X967 e967 N954 z974 ⟨E954, F_size954, F_order954, F_cellOf954, F_cellEnd954, F_queue954, F_queued954, F_queueHead954, F_queueSize954, F_cells954, VU954, VD954⟩ fq971 fq972 fq973 fq968 z
                                                                    exact l396 6 i (own_o3 h5 hj5 hij).1 (own_o3 h5 hj5 hij).2 _ _ _ _ hW X911 e911 N911 z928 ⟨fq913, fq914, fq915, fq916, fq917, fq918, fq919, fq920, fq921, fq922, fq926, fq927⟩ fq923 fq924 fq925 V911 pre912
                                                                  have l347 : ∀ (g j : Nat), 5 - j < g → i < j → j ≤ 5 → own_e A O i g j = own_e A O i 5 (i + 1) → ∀ (Tj : State) (Lj : List Loc), Stand p l e ({ frames := 1, cells := 18, slots := 86, locals := 13 } : Room) s m #[(.ref a1), (.ref a2), (.ref a3), (.ref a4), (.ref a5)] below meth c Tj Lj 18 86 → Tj.heap = hq → Fr n0 Lj → (∀ t, Steps p.tables e below (Tj.setTop (mkF m 347 #[.val (.ref a1), .val (.ref a2), .val (.ref a3), .val (.ref a4), .val (.ref a5), .val (.ref b435), .val (.int (Int32.ofNat i)), .val (.int (Int32.ofNat j)), .val (.int x8), .val (.int e_a2_4)] [])) t → Steps p.tables e below (s₁.setTop (entryFrame m #[(.ref a1), (.ref a2), (.ref a3), (.ref a4), (.ref a5)] 10)) t) → False := by
                                                                    intro g
                                                                    induction g with
                                                                    | zero => intro j h; exact absurd h (Nat.not_lt_zero _)
                                                                    | succ g ihg =>
                                                                      intro j hg hij hj5 hje Tj Lj Xj ej Nj prej
                                                                      obtain ⟨T975, X975, e975, st975⟩ := getF Xj hx hZ hown (host := "") (Or.inl hw15) Via.refl ej F_sizeq (g := (mkF m 350 #[.val (.ref a1), .val (.ref a2), .val (.ref a3), .val (.ref a4), .val (.ref a5), .val (.ref b435), .val (.int (Int32.ofNat i)), .val (.int (Int32.ofNat j)), .val (.int x8), .val (.int e_a2_4)] [(.ref a1), (.int (Int32.ofNat j))])) rfl rfl (hb hby d2_350)
                                                                      have pre976 : ∀ t, Steps p.tables e below (T975.setTop (mkF m 353 #[.val (.ref a1), .val (.ref a2), .val (.ref a3), .val (.ref a4), .val (.ref a5), .val (.ref b435), .val (.int (Int32.ofNat i)), .val (.int (Int32.ofNat j)), .val (.int x8), .val (.int e_a2_4)] [(.int (5 : Int32)), (.int (Int32.ofNat j))])) t → Steps p.tables e below (s₁.setTop (entryFrame m #[(.ref a1), (.ref a2), (.ref a3), (.ref a4), (.ref a5)] 10)) t := fun t kt => by
                                                                        refine prej t ?_
                                                                        show Steps p.tables e below (Tj.setTop (mkF m 347 #[.val (.ref a1), .val (.ref a2), .val (.ref a3), .val (.ref a4), .val (.ref a5), .val (.ref b435), .val (.int (Int32.ofNat i)), .val (.int (Int32.ofNat j)), .val (.int x8), .val (.int e_a2_4)] [])) _
                                                                        refine XS.iload Xj.here hx rfl (hb hby d2_347) rfl ?_
                                                                        show Steps p.tables e below (Tj.setTop (mkF m 349 #[.val (.ref a1), .val (.ref a2), .val (.ref a3), .val (.ref a4), .val (.ref a5), .val (.ref b435), .val (.int (Int32.ofNat i)), .val (.int (Int32.ofNat j)), .val (.int x8), .val (.int e_a2_4)] [(.int (Int32.ofNat j))])) _
                                                                        refine XS.aloadN Xj.here hx rfl (hb hby d2_349) rfl rfl ?_
                                                                        show Steps p.tables e below (Tj.setTop (mkF m 350 #[.val (.ref a1), .val (.ref a2), .val (.ref a3), .val (.ref a4), .val (.ref a5), .val (.ref b435), .val (.int (Int32.ofNat i)), .val (.int (Int32.ofNat j)), .val (.int x8), .val (.int e_a2_4)] [(.ref a1), (.int (Int32.ofNat j))])) _
                                                                        refine st975 _ ?_
                                                                        exact kt
                                                                      by_cases hc977 : (Int32.ofNat j) < (5 : Int32)
                                                                      · obtain ⟨T978, X978, e978, st978⟩ := getF X975 hx hZ hown (host := "") (Or.inl hw23) Via.refl e975 F_orderq (g := (mkF m 358 #[.val (.ref a1), .val (.ref a2), .val (.ref a3), .val (.ref a4), .val (.ref a5), .val (.ref b435), .val (.int (Int32.ofNat i)), .val (.int (Int32.ofNat j)), .val (.int x8), .val (.int e_a2_4)] [(.ref a1), (.ref a2)])) rfl rfl (hb hby d2_358)
                                                                        obtain ⟨cl979, Ar979, aq979, S979, M979, H979, G979⟩ := id Y2q
                                                                        have hin979 : ¬ ((Int32.ofNat j) < 0 ∨ cl979.slots.size ≤ ((Int32.ofNat j)).toNatClampNeg) := inb_of S979 (side_2_363_979 e_a2_0 e_a2_1 e_a2_2 e_a2_3 e_a2_4 hC A O hOr i hi r hr hc908 h5 j hij hj5 hc977)
                                                                        have hat979 : cl979.slots[((Int32.ofNat j)).toNatClampNeg]? = some (.int (own_at O (Int32.ofNat j))) := Has.at H979 hin979 (own_getD O ((Int32.ofNat j)).toNatClampNeg)
                                                                        obtain ⟨cl980, Ar980, aq980, S980, M980, H980, G980⟩ := id Y1q
                                                                        have hin980 : ¬ ((own_at O (Int32.ofNat j)) < 0 ∨ cl980.slots.size ≤ ((own_at O (Int32.ofNat j))).toNatClampNeg) := inb_of S980 (side_2_364_980 e_a2_0 e_a2_1 e_a2_2 e_a2_3 e_a2_4 hC A O hOr i hi r hr hc908 h5 j hij hj5 hc977)
                                                                        have hat980 : cl980.slots[((own_at O (Int32.ofNat j))).toNatClampNeg]? = some (.int (own_at A (own_at O (Int32.ofNat j)))) := Has.at H980 hin980 (own_getD A ((own_at O (Int32.ofNat j))).toNatClampNeg)
                                                                        obtain ⟨T981, X981, e981, st981⟩ := getF X978 hx hZ hown (host := "") (Or.inl hw23) Via.refl e978 F_orderq (g := (mkF m 367 #[.val (.ref a1), .val (.ref a2), .val (.ref a3), .val (.ref a4), .val (.ref a5), .val (.ref b435), .val (.int (Int32.ofNat i)), .val (.int (Int32.ofNat j)), .val (.int x8), .val (.int e_a2_4)] [(.ref a1), (.ref a2), (.int (own_at A (own_at O (Int32.ofNat j))))])) rfl rfl (hb hby d2_367)
                                                                        obtain ⟨cl982, Ar982, aq982, S982, M982, H982, G982⟩ := id Y2q
                                                                        have hin982 : ¬ ((Int32.ofNat i) < 0 ∨ cl982.slots.size ≤ ((Int32.ofNat i)).toNatClampNeg) := inb_of S982 (side_2_372_982 e_a2_0 e_a2_1 e_a2_2 e_a2_3 e_a2_4 hC A O hOr i hi r hr hc908 h5 j hij hj5 hc977)
                                                                        have hat982 : cl982.slots[((Int32.ofNat i)).toNatClampNeg]? = some (.int (own_at O (Int32.ofNat i))) := Has.at H982 hin982 (own_getD O ((Int32.ofNat i)).toNatClampNeg)
                                                                        obtain ⟨cl983, Ar983, aq983, S983, M983, H983, G983⟩ := id Y1q
                                                                        have hin983 : ¬ ((own_at O (Int32.ofNat i)) < 0 ∨ cl983.slots.size ≤ ((own_at O (Int32.ofNat i))).toNatClampNeg) := inb_of S983 (side_2_373_983 e_a2_0 e_a2_1 e_a2_2 e_a2_3 e_a2_4 hC A O hOr i hi r hr hc908 h5 j hij hj5 hc977)
                                                                        have hat983 : cl983.slots[((own_at O (Int32.ofNat i))).toNatClampNeg]? = some (.int (own_at A (own_at O (Int32.ofNat i)))) := Has.at H983 hin983 (own_getD A ((own_at O (Int32.ofNat i))).toNatClampNeg)
                                                                        have pre984 : ∀ t, Steps p.tables e below (T981.setTop (mkF m 374 #[.val (.ref a1), .val (.ref a2), .val (.ref a3), .val (.ref a4), .val (.ref a5), .val (.ref b435), .val (.int (Int32.ofNat i)), .val (.int (Int32.ofNat j)), .val (.int x8), .val (.int e_a2_4)] [(.int (own_at A (own_at O (Int32.ofNat i)))), (.int (own_at A (own_at O (Int32.ofNat j))))])) t → Steps p.tables e below (s₁.setTop (entryFrame m #[(.ref a1), (.ref a2), (.ref a3), (.ref a4), (.ref a5)] 10)) t := fun t kt => by
                                                                          refine pre976 t ?_
                                                                          show Steps p.tables e below (T975.setTop (mkF m 353 #[.val (.ref a1), .val (.ref a2), .val (.ref a3), .val (.ref a4), .val (.ref a5), .val (.ref b435), .val (.int (Int32.ofNat i)), .val (.int (Int32.ofNat j)), .val (.int x8), .val (.int e_a2_4)] [(.int (5 : Int32)), (.int (Int32.ofNat j))])) _
                                                                          refine XS.icmpNo X975.here hx rfl (hb hby d2_353) rfl (tlt hc977).2.1 ?_
                                                                          show Steps p.tables e below (T975.setTop (mkF m 356 #[.val (.ref a1), .val (.ref a2), .val (.ref a3), .val (.ref a4), .val (.ref a5), .val (.ref b435), .val (.int (Int32.ofNat i)), .val (.int (Int32.ofNat j)), .val (.int x8), .val (.int e_a2_4)] [])) _
                                                                          refine XS.aloadN X975.here hx rfl (hb hby d2_356) rfl rfl ?_
                                                                          show Steps p.tables e below (T975.setTop (mkF m 357 #[.val (.ref a1), .val (.ref a2), .val (.ref a3), .val (.ref a4), .val (.ref a5), .val (.ref b435), .val (.int (Int32.ofNat i)), .val (.int (Int32.ofNat j)), .val (.int x8), .val (.int e_a2_4)] [(.ref a2)])) _
                                                                          refine XS.aloadN X975.here hx rfl (hb hby d2_357) rfl rfl ?_
                                                                          show Steps p.tables e below (T975.setTop (mkF m 358 #[.val (.ref a1), .val (.ref a2), .val (.ref a3), .val (.ref a4), .val (.ref a5), .val (.ref b435), .val (.int (Int32.ofNat i)), .val (.int (Int32.ofNat j)), .val (.int x8), .val (.int e_a2_4)] [(.ref a1), (.ref a2)])) _
                                                                          refine st978 _ ?_
                                                                          show Steps p.tables e below (T978.setTop (mkF m 361 #[.val (.ref a1), .val (.ref a2), .val (.ref a3), .val (.ref a4), .val (.ref a5), .val (.ref b435), .val (.int (Int32.ofNat i)), .val (.int (Int32.ofNat j)), .val (.int x8), .val (.int e_a2_4)] [(.ref b41), (.ref a2)])) _
                                                                          refine XS.iload X978.here hx rfl (hb hby d2_361) rfl ?_
                                                                          show Steps p.tables e below (T978.setTop (mkF m 363 #[.val (.ref a1), .val (.ref a2), .val (.ref a3), .val (.ref a4), .val (.ref a5), .val (.ref b435), .val (.int (Int32.ofNat i)), .val (.int (Int32.ofNat j)), .val (.int x8), .val (.int e_a2_4)] [(.int (Int32.ofNat j)), (.ref b41), (.ref a2)])) _
                                                                          refine X978.iaload hx (j := (Int32.ofNat j)) (v := (.int (own_at O (Int32.ofNat j)))) (by rw [e978]; exact Ar979.1) (State.isArrayOf_alike hZ.alike Ar979.2.1) Ar979.2.2 hin979 hat979 (g := (mkF m 363 #[.val (.ref a1), .val (.ref a2), .val (.ref a3), .val (.ref a4), .val (.ref a5), .val (.ref b435), .val (.int (Int32.ofNat i)), .val (.int (Int32.ofNat j)), .val (.int x8), .val (.int e_a2_4)] [(.int (Int32.ofNat j)), (.ref b41), (.ref a2)])) rfl rfl (hb hby d2_363) _ ?_
                                                                          show Steps p.tables e below (T978.setTop (mkF m 364 #[.val (.ref a1), .val (.ref a2), .val (.ref a3), .val (.ref a4), .val (.ref a5), .val (.ref b435), .val (.int (Int32.ofNat i)), .val (.int (Int32.ofNat j)), .val (.int x8), .val (.int e_a2_4)] [(.int (own_at O (Int32.ofNat j))), (.ref a2)])) _
                                                                          refine X978.iaload hx (j := (own_at O (Int32.ofNat j))) (v := (.int (own_at A (own_at O (Int32.ofNat j))))) (by rw [e978]; exact Ar980.1) (State.isArrayOf_alike hZ.alike Ar980.2.1) Ar980.2.2 hin980 hat980 (g := (mkF m 364 #[.val (.ref a1), .val (.ref a2), .val (.ref a3), .val (.ref a4), .val (.ref a5), .val (.ref b435), .val (.int (Int32.ofNat i)), .val (.int (Int32.ofNat j)), .val (.int x8), .val (.int e_a2_4)] [(.int (own_at O (Int32.ofNat j))), (.ref a2)])) rfl rfl (hb hby d2_364) _ ?_
                                                                          show Steps p.tables e below (T978.setTop (mkF m 365 #[.val (.ref a1), .val (.ref a2), .val (.ref a3), .val (.ref a4), .val (.ref a5), .val (.ref b435), .val (.int (Int32.ofNat i)), .val (.int (Int32.ofNat j)), .val (.int x8), .val (.int e_a2_4)] [(.int (own_at A (own_at O (Int32.ofNat j))))])) _
                                                                          refine XS.aloadN X978.here hx rfl (hb hby d2_365) rfl rfl ?_
                                                                          show Steps p.tables e below (T978.setTop (mkF m 366 #[.val (.ref a1), .val (.ref a2), .val (.ref a3), .val (.ref a4), .val (.ref a5), .val (.ref b435), .val (.int (Int32.ofNat i)), .val (.int (Int32.ofNat j)), .val (.int x8), .val (.int e_a2_4)] [(.ref a2), (.int (own_at A (own_at O (Int32.ofNat j))))])) _
                                                                          refine XS.aloadN X978.here hx rfl (hb hby d2_366) rfl rfl ?_
                                                                          show Steps p.tables e below (T978.setTop (mkF m 367 #[.val (.ref a1), .val (.ref a2), .val (.ref a3), .val (.ref a4), .val (.ref a5), .val (.ref b435), .val (.int (Int32.ofNat i)), .val (.int (Int32.ofNat j)), .val (.int x8), .val (.int e_a2_4)] [(.ref a1), (.ref a2), (.int (own_at A (own_at O (Int32.ofNat j))))])) _
                                                                          refine st981 _ ?_
                                                                          show Steps p.tables e below (T981.setTop (mkF m 370 #[.val (.ref a1), .val (.ref a2), .val (.ref a3), .val (.ref a4), .val (.ref a5), .val (.ref b435), .val (.int (Int32.ofNat i)), .val (.int (Int32.ofNat j)), .val (.int x8), .val (.int e_a2_4)] [(.ref b41), (.ref a2), (.int (own_at A (own_at O (Int32.ofNat j))))])) _
                                                                          refine XS.iload X981.here hx rfl (hb hby d2_370) rfl ?_
                                                                          show Steps p.tables e below (T981.setTop (mkF m 372 #[.val (.ref a1), .val (.ref a2), .val (.ref a3), .val (.ref a4), .val (.ref a5), .val (.ref b435), .val (.int (Int32.ofNat i)), .val (.int (Int32.ofNat j)), .val (.int x8), .val (.int e_a2_4)] [(.int (Int32.ofNat i)), (.ref b41), (.ref a2), (.int (own_at A (own_at O (Int32.ofNat j))))])) _
                                                                          refine X981.iaload hx (j := (Int32.ofNat i)) (v := (.int (own_at O (Int32.ofNat i)))) (by rw [e981]; exact Ar982.1) (State.isArrayOf_alike hZ.alike Ar982.2.1) Ar982.2.2 hin982 hat982 (g := (mkF m 372 #[.val (.ref a1), .val (.ref a2), .val (.ref a3), .val (.ref a4), .val (.ref a5), .val (.ref b435), .val (.int (Int32.ofNat i)), .val (.int (Int32.ofNat j)), .val (.int x8), .val (.int e_a2_4)] [(.int (Int32.ofNat i)), (.ref b41), (.ref a2), (.int (own_at A (own_at O (Int32.ofNat j))))])) rfl rfl (hb hby d2_372) _ ?_
                                                                          show Steps p.tables e below (T981.setTop (mkF m 373 #[.val (.ref a1), .val (.ref a2), .val (.ref a3), .val (.ref a4), .val (.ref a5), .val (.ref b435), .val (.int (Int32.ofNat i)), .val (.int (Int32.ofNat j)), .val (.int x8), .val (.int e_a2_4)] [(.int (own_at O (Int32.ofNat i))), (.ref a2), (.int (own_at A (own_at O (Int32.ofNat j))))])) _
                                                                          refine X981.iaload hx (j := (own_at O (Int32.ofNat i))) (v := (.int (own_at A (own_at O (Int32.ofNat i))))) (by rw [e981]; exact Ar983.1) (State.isArrayOf_alike hZ.alike Ar983.2.1) Ar983.2.2 hin983 hat983 (g := (mkF m 373 #[.val (.ref a1), .val (.ref a2), .val (.ref a3), .val (.ref a4), .val (.ref a5), .val (.ref b435), .val (.int (Int32.ofNat i)), .val (.int (Int32.ofNat j)), .val (.int x8), .val (.int e_a2_4)] [(.int (own_at O (Int32.ofNat i))), (.ref a2), (.int (own_at A (own_at O (Int32.ofNat j))))])) rfl rfl (hb hby d2_373) _ ?_
                                                                          exact kt
                                                                        by_cases hc985 : (own_at A (own_at O (Int32.ofNat j))) = (own_at A (own_at O (Int32.ofNat i)))
                                                                        · have pre986 : ∀ t, Steps p.tables e below (T981.setTop (mkF m 347 #[.val (.ref a1), .val (.ref a2), .val (.ref a3), .val (.ref a4), .val (.ref a5), .val (.ref b435), .val (.int (Int32.ofNat i)), .val (.int ((Int32.ofNat j) + (1 : Int32))), .val (.int x8), .val (.int e_a2_4)] [])) t → Steps p.tables e below (s₁.setTop (entryFrame m #[(.ref a1), (.ref a2), (.ref a3), (.ref a4), (.ref a5)] 10)) t := fun t kt => by
                                                                            refine pre984 t ?_
                                                                            show Steps p.tables e below (T981.setTop (mkF m 374 #[.val (.ref a1), .val (.ref a2), .val (.ref a3), .val (.ref a4), .val (.ref a5), .val (.ref b435), .val (.int (Int32.ofNat i)), .val (.int (Int32.ofNat j)), .val (.int x8), .val (.int e_a2_4)] [(.int (own_at A (own_at O (Int32.ofNat i)))), (.int (own_at A (own_at O (Int32.ofNat j))))])) _
                                                                            refine XS.icmpNo X981.here hx rfl (hb hby d2_374) rfl (teq hc985).2 ?_
                                                                            show Steps p.tables e below (T981.setTop (mkF m 377 #[.val (.ref a1), .val (.ref a2), .val (.ref a3), .val (.ref a4), .val (.ref a5), .val (.ref b435), .val (.int (Int32.ofNat i)), .val (.int (Int32.ofNat j)), .val (.int x8), .val (.int e_a2_4)] [])) _
                                                                            refine XS.iinc X981.here hx rfl (hb hby d2_377) rfl (l' := #[.val (.ref a1), .val (.ref a2), .val (.ref a3), .val (.ref a4), .val (.ref a5), .val (.ref b435), .val (.int (Int32.ofNat i)), .val (.int ((Int32.ofNat j) + (1 : Int32))), .val (.int x8), .val (.int e_a2_4)]) rfl ?_
                                                                            show Steps p.tables e below (T981.setTop (mkF m 380 #[.val (.ref a1), .val (.ref a2), .val (.ref a3), .val (.ref a4), .val (.ref a5), .val (.ref b435), .val (.int (Int32.ofNat i)), .val (.int ((Int32.ofNat j) + (1 : Int32))), .val (.int x8), .val (.int e_a2_4)] [])) _
                                                                            refine XS.goto X981.here hx rfl (pc0 := 380) (pc' := 347) rfl (hb hby d2_380) (by decide) (by decide) ?_
                                                                            exact kt
                                                                          have hj : j < 5 := (own_lt5 j (own_t hj5)).mp hc977
                                                                          have z := pre986
                                                                          rw [own_sc j] at z
                                                                          exact ihg (j + 1) (own_o1 hg hj (Nat.lt_succ_self j)) (Nat.lt_succ_of_lt hij) hj (by rw [← hje, own_e, if_pos ⟨hj, hc985⟩]) _ _ X981 e981 Nj z
                                                                        · have pre987 : ∀ t, Steps p.tables e below (T981.setTop (mkF m 383 #[.val (.ref a1), .val (.ref a2), .val (.ref a3), .val (.ref a4), .val (.ref a5), .val (.ref b435), .val (.int (Int32.ofNat i)), .val (.int (Int32.ofNat j)), .val (.int x8), .val (.int e_a2_4)] [])) t → Steps p.tables e below (s₁.setTop (entryFrame m #[(.ref a1), (.ref a2), (.ref a3), (.ref a4), (.ref a5)] 10)) t := fun t kt => by
                                                                            refine pre984 t ?_
                                                                            show Steps p.tables e below (T981.setTop (mkF m 374 #[.val (.ref a1), .val (.ref a2), .val (.ref a3), .val (.ref a4), .val (.ref a5), .val (.ref b435), .val (.int (Int32.ofNat i)), .val (.int (Int32.ofNat j)), .val (.int x8), .val (.int e_a2_4)] [(.int (own_at A (own_at O (Int32.ofNat i)))), (.int (own_at A (own_at O (Int32.ofNat j))))])) _
                                                                            refine XS.icmpYes X981.here hx rfl (pc0 := 374) (pc' := 383) rfl (hb hby d2_374) rfl (feq hc985).2 (by decide) (by decide) ?_
                                                                            exact kt
                                                                          exact k383 j hij hj5 (by rw [← hje, own_e, if_neg (fun q => hc985 q.2)]) _ _ X981 e981 Nj pre987
                                                                      · have pre988 : ∀ t, Steps p.tables e below (T975.setTop (mkF m 383 #[.val (.ref a1), .val (.ref a2), .val (.ref a3), .val (.ref a4), .val (.ref a5), .val (.ref b435), .val (.int (Int32.ofNat i)), .val (.int (Int32.ofNat j)), .val (.int x8), .val (.int e_a2_4)] [])) t → Steps p.tables e below (s₁.setTop (entryFrame m #[(.ref a1), (.ref a2), (.ref a3), (.ref a4), (.ref a5)] 10)) t := fun t kt => by
                                                                          refine pre976 t ?_
                                                                          show Steps p.tables e below (T975.setTop (mkF m 353 #[.val (.ref a1), .val (.ref a2), .val (.ref a3), .val (.ref a4), .val (.ref a5), .val (.ref b435), .val (.int (Int32.ofNat i)), .val (.int (Int32.ofNat j)), .val (.int x8), .val (.int e_a2_4)] [(.int (5 : Int32)), (.int (Int32.ofNat j))])) _
                                                                          refine XS.icmpYes X975.here hx rfl (pc0 := 353) (pc' := 383) rfl (hb hby d2_353) rfl (flt hc977).2.1 (by decide) (by decide) ?_
                                                                          exact kt
                                                                        exact k383 j hij hj5 (by rw [← hje, own_e, if_neg (fun q => hc977 ((own_lt5 j (own_t hj5)).mpr q.1))]) _ _ X975 e975 Nj pre988
                                                                  have z := pre909
                                                                  rw [own_sc i] at z
                                                                  exact l347 5 (i + 1) (own_o4 h5).1 (own_o4 h5).2.1 (own_o4 h5).2.2 rfl _ _ X906 e906 Nq z
                                                                · refine hG ?_
                                                                  obtain ⟨fs, hr, hrun, hended, hW, hsame⟩ := X906.leave (v := none) (fun _ => rfl) hlk
                                                                  refine ⟨_, _, pre907 _ ?_, hrun, hended, _, _, rfl, ?_, ⟨_, rfl⟩, hW, hsame.mono (by decide) (by decide)⟩
                                                                  · show Steps p.tables e below (T906.setTop (mkF m 338 #[.val (.ref a1), .val (.ref a2), .val (.ref a3), .val (.ref a4), .val (.ref a5), .val (.ref b435), .val (.int (Int32.ofNat i)), .val (.int x7), .val (.int x8), .val (.int e_a2_4)] [(.int (5 : Int32)), (.int (Int32.ofNat i))])) _
                                                                    refine XS.icmpYes X906.here hx rfl (pc0 := 338) (pc' := 451) rfl (hb hby d2_338) rfl (flt hc908).2.1 (by decide) (by decide) ?_
                                                                    show Steps p.tables e below (T906.setTop (mkF m 451 #[.val (.ref a1), .val (.ref a2), .val (.ref a3), .val (.ref a4), .val (.ref a5), .val (.ref b435), .val (.int (Int32.ofNat i)), .val (.int x7), .val (.int x8), .val (.int e_a2_4)] [])) _
                                                                    exact X906.returnOut hx Bd.returns (hb hby d2_451) hr
                                                                  · show Q2 Z a1 a2 a3 a4 a5 u_size_a1 u_arcStart_a1 u_arcKeys_a1 u_arcNodes_a1 u_order_a1 u_position_a1 u_cellOf_a1 u_cellEnd_a1 u_queue_a1 u_queued_a1 u_trail_a1 u_trailParent_a1 u_reached_a1 u_hitKeys_a1 u_keysStart_a1 u_keysEnd_a1 u_cellsReached_a1 u_reachedInCell_a1 u_byCell_a1 u_mergeBuffer_a1 u_groupStarts_a1 k_a2 e_a2_0 e_a2_1 e_a2_2 e_a2_3 e_a2_4 k_a3 k_a4 k_a5 h0 n0 _ T906.heap _
                                                                    rw [e906]
                                                                    have h5 : ¬ i < 5 := fun q => hc908 ((own_lt5 i (own_t hi)).mpr q)
                                                                    rw [own_ce, if_neg h5] at hce
                                                                    have Y5 : Arv Z hq b91 k91 .int (5 : Int32) ((own_CE e_a2_0 e_a2_1 e_a2_2 e_a2_3 e_a2_4).map Value.int) (.int (0 : Int32)) := by rw [← hCE, ← hce]; exact Y4q
                                                                    exact ⟨rfl, Nq, zq, b91, k91, Eq, F_sizeq, F_cellEndq, Y5⟩
                                                            exact loop 6 0 (by decide) (by decide) _ _ _ _ _ _ _ _ _ _ _ hZl hZl hZl hZl ⟨by decide, by decide⟩ hC0 Xc904 e902 Nc904 z900 EQ0 Y1 Y2 Y3 Y4 pre905
theorem pn_0 : plainName "com/example/tercet/tercet/PartitionFirstNonSingletonCellPinLaw" = true := by first | (simp [plainName, overriddenIn]; done) | decide +kernel
theorem pd_0_0 : parseMethodDescriptor "(I)I" = some ⟨[.int], some .int⟩ := by decide +kernel
theorem pd_0_1 : parseMethodDescriptor "([I[I[I[I)V" = some ⟨[(.array .int), (.array .int), (.array .int), (.array .int)], none⟩ := by decide +kernel
theorem ef_0 (m : MethodId) (p1 : Int32) (p2 : Int32) (p3 : Int32) (p4 : Int32) (p5 : Int32) (p6 : Int32) : entryFrame m #[(.int p1), (.int p2), (.int p3), (.int p4), (.int p5), (.int p6)] maxLocals = mkF m 0 #[.val (.int p1), .val (.int p2), .val (.int p3), .val (.int p4), .val (.int p5), .val (.int p6), .unset, .unset, .unset, .unset, .unset, .unset, .unset] [] := by first | (simp [entryFrame, mkF, argsToLocals, Value.category, maxLocals]; done) | rfl
def own_tab_0_53 : List Int32 := [(0 : Int32), (0 : Int32), (0 : Int32), (0 : Int32), (0 : Int32)]
def own_L0_0 (c0 : Int32) (c1 : Int32) (c2 : Int32) (c3 : Int32) (c4 : Int32) : List Int32 := ([(0 : Int32), (0 : Int32), (0 : Int32), (0 : Int32), (0 : Int32)] : List Int32).set (c0).toNatClampNeg ((own_at own_tab_0_53 c0) + (1 : Int32))
def own_L0_1 (c0 : Int32) (c1 : Int32) (c2 : Int32) (c3 : Int32) (c4 : Int32) : List Int32 := (own_L0_0 c0 c1 c2 c3 c4).set (c1).toNatClampNeg ((own_at (own_L0_0 c0 c1 c2 c3 c4) c1) + (1 : Int32))
def own_L0_2 (c0 : Int32) (c1 : Int32) (c2 : Int32) (c3 : Int32) (c4 : Int32) : List Int32 := (own_L0_1 c0 c1 c2 c3 c4).set (c2).toNatClampNeg ((own_at (own_L0_1 c0 c1 c2 c3 c4) c2) + (1 : Int32))
def own_L0_3 (c0 : Int32) (c1 : Int32) (c2 : Int32) (c3 : Int32) (c4 : Int32) : List Int32 := (own_L0_2 c0 c1 c2 c3 c4).set (c3).toNatClampNeg ((own_at (own_L0_2 c0 c1 c2 c3 c4) c3) + (1 : Int32))
def own_L0_4 (c0 : Int32) (c1 : Int32) (c2 : Int32) (c3 : Int32) (c4 : Int32) : List Int32 := (own_L0_3 c0 c1 c2 c3 c4).set (c4).toNatClampNeg ((own_at (own_L0_3 c0 c1 c2 c3 c4) c4) + (1 : Int32))

theorem own_l5 {L : List Int32} (h : L.length = 5) : L = [own_at L 0, own_at L 1, own_at L 2, own_at L 3, own_at L 4] :=
  match L, h with
  | [_, _, _, _, _], _ => rfl
def own_g (E : List Int32) (s : Nat) : List Nat → List Int32
  | [] => E
  | n :: r => own_g (if n = 0 then E else E.set s (Int32.ofNat (s + n))) (s + n) r
def own_G (m0 m1 m2 m3 m4 : Nat) : List Int32 := own_g [0, 0, 0, 0, 0] 0 [m0, m1, m2, m3, m4]
def own_f (x : Int32) (k : Nat → Bool) : Bool := (List.range 6).any (fun m => decide (x = Int32.ofNat m) && k m)
theorem own_fx {x : Int32} {k : Nat → Bool} (h : own_f x k = true) : ∃ m, m < 6 ∧ x = Int32.ofNat m ∧ k m = true := by
  rw [own_f, List.any_eq_true] at h
  obtain ⟨m, hm, h⟩ := h
  rw [Bool.and_eq_true, decide_eq_true_eq] at h
  exact ⟨m, List.mem_range.mp hm, h.1, h.2⟩
def own_Kn (O : List Int32) (c0 c1 c2 c3 c4 : Int32) : Bool :=
  own_f (own_at (own_L0_4 c0 c1 c2 c3 c4) 0) fun m0 => own_f (own_at (own_L0_4 c0 c1 c2 c3 c4) 1) fun m1 => own_f (own_at (own_L0_4 c0 c1 c2 c3 c4) 2) fun m2 => own_f (own_at (own_L0_4 c0 c1 c2 c3 c4) 3) fun m3 => own_f (own_at (own_L0_4 c0 c1 c2 c3 c4) 4) fun m4 =>
    decide (m0 + m1 + m2 + m3 + m4 = 5) && decide (own_ce [c0, c1, c2, c3, c4] O 6 0 [0, 0, 0, 0, 0] = own_G m0 m1 m2 m3 m4)
def own_K (c0 c1 c2 c3 c4 : Int32) : Bool :=
  own_f (own_at (own_L2_19 c0 c1 c2 c3 c4) 0) fun o0 => own_f (own_at (own_L2_19 c0 c1 c2 c3 c4) 1) fun o1 => own_f (own_at (own_L2_19 c0 c1 c2 c3 c4) 2) fun o2 => own_f (own_at (own_L2_19 c0 c1 c2 c3 c4) 3) fun o3 => own_f (own_at (own_L2_19 c0 c1 c2 c3 c4) 4) fun o4 =>
    own_Kn [Int32.ofNat o0, Int32.ofNat o1, Int32.ofNat o2, Int32.ofNat o3, Int32.ofNat o4] c0 c1 c2 c3 c4
set_option maxRecDepth 100000 in
theorem own_KA : ∀ (a : Nat), a < 5 → ∀ (b : Nat), b < 5 → ∀ (c : Nat), c < 5 → ∀ (d : Nat), d < 5 → ∀ (e : Nat), e < 5 → own_K (Int32.ofNat a) (Int32.ofNat b) (Int32.ofNat c) (Int32.ofNat d) (Int32.ofNat e) = true := by decide +kernel
theorem own_Kx (c0 c1 c2 c3 c4 : Int32) (hC : own_C c0 c1 c2 c3 c4) : ∃ m0 m1 m2 m3 m4, m0 < 6 ∧ m1 < 6 ∧ m2 < 6 ∧ m3 < 6 ∧ m4 < 6 ∧ m0 + m1 + m2 + m3 + m4 = 5 ∧ own_at (own_L0_4 c0 c1 c2 c3 c4) 0 = Int32.ofNat m0 ∧ own_at (own_L0_4 c0 c1 c2 c3 c4) 1 = Int32.ofNat m1 ∧ own_at (own_L0_4 c0 c1 c2 c3 c4) 2 = Int32.ofNat m2 ∧ own_at (own_L0_4 c0 c1 c2 c3 c4) 3 = Int32.ofNat m3 ∧ own_at (own_L0_4 c0 c1 c2 c3 c4) 4 = Int32.ofNat m4 ∧ own_CE c0 c1 c2 c3 c4 = own_G m0 m1 m2 m3 m4 := by
  have h := own_fin (P := fun a b c d e => own_K a b c d e = true) own_KA hC
  have hO := own_l5 (own_or c0 c1 c2 c3 c4 hC).1
  unfold own_K at h
  obtain ⟨o0, -, e0, h⟩ := own_fx h
  obtain ⟨o1, -, e1, h⟩ := own_fx h
  obtain ⟨o2, -, e2, h⟩ := own_fx h
  obtain ⟨o3, -, e3, h⟩ := own_fx h
  obtain ⟨o4, -, e4, h⟩ := own_fx h
  rw [e0, e1, e2, e3, e4] at hO
  replace h : own_Kn [Int32.ofNat o0, Int32.ofNat o1, Int32.ofNat o2, Int32.ofNat o3, Int32.ofNat o4] c0 c1 c2 c3 c4 = true := h
  rw [← hO] at h
  unfold own_Kn at h
  obtain ⟨m0, l0, e0, h⟩ := own_fx h
  obtain ⟨m1, l1, e1, h⟩ := own_fx h
  obtain ⟨m2, l2, e2, h⟩ := own_fx h
  obtain ⟨m3, l3, e3, h⟩ := own_fx h
  obtain ⟨m4, l4, e4, h⟩ := own_fx h
  replace h : (decide (m0 + m1 + m2 + m3 + m4 = 5) && decide (own_ce [c0, c1, c2, c3, c4] (own_L2_19 c0 c1 c2 c3 c4) 6 0 [0, 0, 0, 0, 0] = own_G m0 m1 m2 m3 m4)) = true := h
  rw [Bool.and_eq_true, decide_eq_true_eq, decide_eq_true_eq] at h
  exact ⟨m0, m1, m2, m3, m4, l0, l1, l2, l3, l4, h.1, e0, e1, e2, e3, e4, h.2⟩
def own_Mk (m0 m1 m2 m3 m4 k : Nat) : Bool := decide ((own_at ([(0 : Int32), ((0 : Int32) + (Int32.ofNat m0)), (((0 : Int32) + (Int32.ofNat m0)) + (Int32.ofNat m1)), ((((0 : Int32) + (Int32.ofNat m0)) + (Int32.ofNat m1)) + (Int32.ofNat m2)), (((((0 : Int32) + (Int32.ofNat m0)) + (Int32.ofNat m1)) + (Int32.ofNat m2)) + (Int32.ofNat m3)), ((((((0 : Int32) + (Int32.ofNat m0)) + (Int32.ofNat m1)) + (Int32.ofNat m2)) + (Int32.ofNat m3)) + (Int32.ofNat m4))] : List Int32) (Int32.ofNat k)) = Int32.ofNat (own_at ([(0 : Int32), ((0 : Int32) + (Int32.ofNat m0)), (((0 : Int32) + (Int32.ofNat m0)) + (Int32.ofNat m1)), ((((0 : Int32) + (Int32.ofNat m0)) + (Int32.ofNat m1)) + (Int32.ofNat m2)), (((((0 : Int32) + (Int32.ofNat m0)) + (Int32.ofNat m1)) + (Int32.ofNat m2)) + (Int32.ofNat m3)), ((((((0 : Int32) + (Int32.ofNat m0)) + (Int32.ofNat m1)) + (Int32.ofNat m2)) + (Int32.ofNat m3)) + (Int32.ofNat m4))] : List Int32) (Int32.ofNat k)).toNatClampNeg) && own_W (own_G m0 m1 m2 m3 m4) 6 (own_at ([(0 : Int32), ((0 : Int32) + (Int32.ofNat m0)), (((0 : Int32) + (Int32.ofNat m0)) + (Int32.ofNat m1)), ((((0 : Int32) + (Int32.ofNat m0)) + (Int32.ofNat m1)) + (Int32.ofNat m2)), (((((0 : Int32) + (Int32.ofNat m0)) + (Int32.ofNat m1)) + (Int32.ofNat m2)) + (Int32.ofNat m3)), ((((((0 : Int32) + (Int32.ofNat m0)) + (Int32.ofNat m1)) + (Int32.ofNat m2)) + (Int32.ofNat m3)) + (Int32.ofNat m4))] : List Int32) (Int32.ofNat k)).toNatClampNeg && decide (own_fn (own_G m0 m1 m2 m3 m4) 6 (own_at ([(0 : Int32), ((0 : Int32) + (Int32.ofNat m0)), (((0 : Int32) + (Int32.ofNat m0)) + (Int32.ofNat m1)), ((((0 : Int32) + (Int32.ofNat m0)) + (Int32.ofNat m1)) + (Int32.ofNat m2)), (((((0 : Int32) + (Int32.ofNat m0)) + (Int32.ofNat m1)) + (Int32.ofNat m2)) + (Int32.ofNat m3)), ((((((0 : Int32) + (Int32.ofNat m0)) + (Int32.ofNat m1)) + (Int32.ofNat m2)) + (Int32.ofNat m3)) + (Int32.ofNat m4))] : List Int32) (Int32.ofNat k)).toNatClampNeg = (if (0 : Int32) < (Int32.ofNat k) then (if (1 : Int32) < (Int32.ofNat k) then (if (2 : Int32) < (Int32.ofNat k) then (if (3 : Int32) < (Int32.ofNat k) then (if (4 : Int32) < (Int32.ofNat k) then (-1 : Int32) else (if (Int32.ofNat m4) < (2 : Int32) then (-1 : Int32) else (((((0 : Int32) + (Int32.ofNat m0)) + (Int32.ofNat m1)) + (Int32.ofNat m2)) + (Int32.ofNat m3)))) else (if (Int32.ofNat m3) < (2 : Int32) then (if (4 : Int32) < (Int32.ofNat k) then (-1 : Int32) else (if (Int32.ofNat m4) < (2 : Int32) then (-1 : Int32) else (((((0 : Int32) + (Int32.ofNat m0)) + (Int32.ofNat m1)) + (Int32.ofNat m2)) + (Int32.ofNat m3)))) else ((((0 : Int32) + (Int32.ofNat m0)) + (Int32.ofNat m1)) + (Int32.ofNat m2)))) else (if (Int32.ofNat m2) < (2 : Int32) then (if (3 : Int32) < (Int32.ofNat k) then (if (4 : Int32) < (Int32.ofNat k) then (-1 : Int32) else (if (Int32.ofNat m4) < (2 : Int32) then (-1 : Int32) else (((((0 : Int32) + (Int32.ofNat m0)) + (Int32.ofNat m1)) + (Int32.ofNat m2)) + (Int32.ofNat m3)))) else (if (Int32.ofNat m3) < (2 : Int32) then (if (4 : Int32) < (Int32.ofNat k) then (-1 : Int32) else (if (Int32.ofNat m4) < (2 : Int32) then (-1 : Int32) else (((((0 : Int32) + (Int32.ofNat m0)) + (Int32.ofNat m1)) + (Int32.ofNat m2)) + (Int32.ofNat m3)))) else ((((0 : Int32) + (Int32.ofNat m0)) + (Int32.ofNat m1)) + (Int32.ofNat m2)))) else (((0 : Int32) + (Int32.ofNat m0)) + (Int32.ofNat m1)))) else (if (Int32.ofNat m1) < (2 : Int32) then (if (2 : Int32) < (Int32.ofNat k) then (if (3 : Int32) < (Int32.ofNat k) then (if (4 : Int32) < (Int32.ofNat k) then (-1 : Int32) else (if (Int32.ofNat m4) < (2 : Int32) then (-1 : Int32) else (((((0 : Int32) + (Int32.ofNat m0)) + (Int32.ofNat m1)) + (Int32.ofNat m2)) + (Int32.ofNat m3)))) else (if (Int32.ofNat m3) < (2 : Int32) then (if (4 : Int32) < (Int32.ofNat k) then (-1 : Int32) else (if (Int32.ofNat m4) < (2 : Int32) then (-1 : Int32) else (((((0 : Int32) + (Int32.ofNat m0)) + (Int32.ofNat m1)) + (Int32.ofNat m2)) + (Int32.ofNat m3)))) else ((((0 : Int32) + (Int32.ofNat m0)) + (Int32.ofNat m1)) + (Int32.ofNat m2)))) else (if (Int32.ofNat m2) < (2 : Int32) then (if (3 : Int32) < (Int32.ofNat k) then (if (4 : Int32) < (Int32.ofNat k) then (-1 : Int32) else (if (Int32.ofNat m4) < (2 : Int32) then (-1 : Int32) else (((((0 : Int32) + (Int32.ofNat m0)) + (Int32.ofNat m1)) + (Int32.ofNat m2)) + (Int32.ofNat m3)))) else (if (Int32.ofNat m3) < (2 : Int32) then (if (4 : Int32) < (Int32.ofNat k) then (-1 : Int32) else (if (Int32.ofNat m4) < (2 : Int32) then (-1 : Int32) else (((((0 : Int32) + (Int32.ofNat m0)) + (Int32.ofNat m1)) + (Int32.ofNat m2)) + (Int32.ofNat m3)))) else ((((0 : Int32) + (Int32.ofNat m0)) + (Int32.ofNat m1)) + (Int32.ofNat m2)))) else (((0 : Int32) + (Int32.ofNat m0)) + (Int32.ofNat m1)))) else ((0 : Int32) + (Int32.ofNat m0)))) else (if (Int32.ofNat m0) < (2 : Int32) then (if (1 : Int32) < (Int32.ofNat k) then (if (2 : Int32) < (Int32.ofNat k) then (if (3 : Int32) < (Int32.ofNat k) then (if (4 : Int32) < (Int32.ofNat k) then (-1 : Int32) else (if (Int32.ofNat m4) < (2 : Int32) then (-1 : Int32) else (((((0 : Int32) + (Int32.ofNat m0)) + (Int32.ofNat m1)) + (Int32.ofNat m2)) + (Int32.ofNat m3)))) else (if (Int32.ofNat m3) < (2 : Int32) then (if (4 : Int32) < (Int32.ofNat k) then (-1 : Int32) else (if (Int32.ofNat m4) < (2 : Int32) then (-1 : Int32) else (((((0 : Int32) + (Int32.ofNat m0)) + (Int32.ofNat m1)) + (Int32.ofNat m2)) + (Int32.ofNat m3)))) else ((((0 : Int32) + (Int32.ofNat m0)) + (Int32.ofNat m1)) + (Int32.ofNat m2)))) else (if (Int32.ofNat m2) < (2 : Int32) then (if (3 : Int32) < (Int32.ofNat k) then (if (4 : Int32) < (Int32.ofNat k) then (-1 : Int32) else (if (Int32.ofNat m4) < (2 : Int32) then (-1 : Int32) else (((((0 : Int32) + (Int32.ofNat m0)) + (Int32.ofNat m1)) + (Int32.ofNat m2)) + (Int32.ofNat m3)))) else (if (Int32.ofNat m3) < (2 : Int32) then (if (4 : Int32) < (Int32.ofNat k) then (-1 : Int32) else (if (Int32.ofNat m4) < (2 : Int32) then (-1 : Int32) else (((((0 : Int32) + (Int32.ofNat m0)) + (Int32.ofNat m1)) + (Int32.ofNat m2)) + (Int32.ofNat m3)))) else ((((0 : Int32) + (Int32.ofNat m0)) + (Int32.ofNat m1)) + (Int32.ofNat m2)))) else (((0 : Int32) + (Int32.ofNat m0)) + (Int32.ofNat m1)))) else (if (Int32.ofNat m1) < (2 : Int32) then (if (2 : Int32) < (Int32.ofNat k) then (if (3 : Int32) < (Int32.ofNat k) then (if (4 : Int32) < (Int32.ofNat k) then (-1 : Int32) else (if (Int32.ofNat m4) < (2 : Int32) then (-1 : Int32) else (((((0 : Int32) + (Int32.ofNat m0)) + (Int32.ofNat m1)) + (Int32.ofNat m2)) + (Int32.ofNat m3)))) else (if (Int32.ofNat m3) < (2 : Int32) then (if (4 : Int32) < (Int32.ofNat k) then (-1 : Int32) else (if (Int32.ofNat m4) < (2 : Int32) then (-1 : Int32) else (((((0 : Int32) + (Int32.ofNat m0)) + (Int32.ofNat m1)) + (Int32.ofNat m2)) + (Int32.ofNat m3)))) else ((((0 : Int32) + (Int32.ofNat m0)) + (Int32.ofNat m1)) + (Int32.ofNat m2)))) else (if (Int32.ofNat m2) < (2 : Int32) then (if (3 : Int32) < (Int32.ofNat k) then (if (4 : Int32) < (Int32.ofNat k) then (-1 : Int32) else (if (Int32.ofNat m4) < (2 : Int32) then (-1 : Int32) else (((((0 : Int32) + (Int32.ofNat m0)) + (Int32.ofNat m1)) + (Int32.ofNat m2)) + (Int32.ofNat m3)))) else (if (Int32.ofNat m3) < (2 : Int32) then (if (4 : Int32) < (Int32.ofNat k) then (-1 : Int32) else (if (Int32.ofNat m4) < (2 : Int32) then (-1 : Int32) else (((((0 : Int32) + (Int32.ofNat m0)) + (Int32.ofNat m1)) + (Int32.ofNat m2)) + (Int32.ofNat m3)))) else ((((0 : Int32) + (Int32.ofNat m0)) + (Int32.ofNat m1)) + (Int32.ofNat m2)))) else (((0 : Int32) + (Int32.ofNat m0)) + (Int32.ofNat m1)))) else ((0 : Int32) + (Int32.ofNat m0)))) else (0 : Int32))))
def own_Mb (m0 m1 m2 m3 m4 : Nat) : Bool := !(Nat.beq (m0 + m1 + m2 + m3 + m4) 5) || (List.range 6).all (fun k => own_Mk m0 m1 m2 m3 m4 k)
set_option maxRecDepth 100000 in
theorem own_MB : ∀ (m0 : Nat), m0 < 6 → ∀ (m1 : Nat), m1 < 6 → ∀ (m2 : Nat), m2 < 6 → ∀ (m3 : Nat), m3 < 6 → ∀ (m4 : Nat), m4 < 6 → own_Mb m0 m1 m2 m3 m4 = true := by decide +kernel
theorem own_MA (m0 : Nat) (l0 : m0 < 6) (m1 : Nat) (l1 : m1 < 6) (m2 : Nat) (l2 : m2 < 6) (m3 : Nat) (l3 : m3 < 6) (m4 : Nat) (l4 : m4 < 6) (hs : m0 + m1 + m2 + m3 + m4 = 5) (k : Nat) (hk : k < 6) : ((own_at ([(0 : Int32), ((0 : Int32) + (Int32.ofNat m0)), (((0 : Int32) + (Int32.ofNat m0)) + (Int32.ofNat m1)), ((((0 : Int32) + (Int32.ofNat m0)) + (Int32.ofNat m1)) + (Int32.ofNat m2)), (((((0 : Int32) + (Int32.ofNat m0)) + (Int32.ofNat m1)) + (Int32.ofNat m2)) + (Int32.ofNat m3)), ((((((0 : Int32) + (Int32.ofNat m0)) + (Int32.ofNat m1)) + (Int32.ofNat m2)) + (Int32.ofNat m3)) + (Int32.ofNat m4))] : List Int32) (Int32.ofNat k)) = Int32.ofNat (own_at ([(0 : Int32), ((0 : Int32) + (Int32.ofNat m0)), (((0 : Int32) + (Int32.ofNat m0)) + (Int32.ofNat m1)), ((((0 : Int32) + (Int32.ofNat m0)) + (Int32.ofNat m1)) + (Int32.ofNat m2)), (((((0 : Int32) + (Int32.ofNat m0)) + (Int32.ofNat m1)) + (Int32.ofNat m2)) + (Int32.ofNat m3)), ((((((0 : Int32) + (Int32.ofNat m0)) + (Int32.ofNat m1)) + (Int32.ofNat m2)) + (Int32.ofNat m3)) + (Int32.ofNat m4))] : List Int32) (Int32.ofNat k)).toNatClampNeg ∧ own_W (own_G m0 m1 m2 m3 m4) 6 (own_at ([(0 : Int32), ((0 : Int32) + (Int32.ofNat m0)), (((0 : Int32) + (Int32.ofNat m0)) + (Int32.ofNat m1)), ((((0 : Int32) + (Int32.ofNat m0)) + (Int32.ofNat m1)) + (Int32.ofNat m2)), (((((0 : Int32) + (Int32.ofNat m0)) + (Int32.ofNat m1)) + (Int32.ofNat m2)) + (Int32.ofNat m3)), ((((((0 : Int32) + (Int32.ofNat m0)) + (Int32.ofNat m1)) + (Int32.ofNat m2)) + (Int32.ofNat m3)) + (Int32.ofNat m4))] : List Int32) (Int32.ofNat k)).toNatClampNeg = true) ∧ own_fn (own_G m0 m1 m2 m3 m4) 6 (own_at ([(0 : Int32), ((0 : Int32) + (Int32.ofNat m0)), (((0 : Int32) + (Int32.ofNat m0)) + (Int32.ofNat m1)), ((((0 : Int32) + (Int32.ofNat m0)) + (Int32.ofNat m1)) + (Int32.ofNat m2)), (((((0 : Int32) + (Int32.ofNat m0)) + (Int32.ofNat m1)) + (Int32.ofNat m2)) + (Int32.ofNat m3)), ((((((0 : Int32) + (Int32.ofNat m0)) + (Int32.ofNat m1)) + (Int32.ofNat m2)) + (Int32.ofNat m3)) + (Int32.ofNat m4))] : List Int32) (Int32.ofNat k)).toNatClampNeg = (if (0 : Int32) < (Int32.ofNat k) then (if (1 : Int32) < (Int32.ofNat k) then (if (2 : Int32) < (Int32.ofNat k) then (if (3 : Int32) < (Int32.ofNat k) then (if (4 : Int32) < (Int32.ofNat k) then (-1 : Int32) else (if (Int32.ofNat m4) < (2 : Int32) then (-1 : Int32) else (((((0 : Int32) + (Int32.ofNat m0)) + (Int32.ofNat m1)) + (Int32.ofNat m2)) + (Int32.ofNat m3)))) else (if (Int32.ofNat m3) < (2 : Int32) then (if (4 : Int32) < (Int32.ofNat k) then (-1 : Int32) else (if (Int32.ofNat m4) < (2 : Int32) then (-1 : Int32) else (((((0 : Int32) + (Int32.ofNat m0)) + (Int32.ofNat m1)) + (Int32.ofNat m2)) + (Int32.ofNat m3)))) else ((((0 : Int32) + (Int32.ofNat m0)) + (Int32.ofNat m1)) + (Int32.ofNat m2)))) else (if (Int32.ofNat m2) < (2 : Int32) then (if (3 : Int32) < (Int32.ofNat k) then (if (4 : Int32) < (Int32.ofNat k) then (-1 : Int32) else (if (Int32.ofNat m4) < (2 : Int32) then (-1 : Int32) else (((((0 : Int32) + (Int32.ofNat m0)) + (Int32.ofNat m1)) + (Int32.ofNat m2)) + (Int32.ofNat m3)))) else (if (Int32.ofNat m3) < (2 : Int32) then (if (4 : Int32) < (Int32.ofNat k) then (-1 : Int32) else (if (Int32.ofNat m4) < (2 : Int32) then (-1 : Int32) else (((((0 : Int32) + (Int32.ofNat m0)) + (Int32.ofNat m1)) + (Int32.ofNat m2)) + (Int32.ofNat m3)))) else ((((0 : Int32) + (Int32.ofNat m0)) + (Int32.ofNat m1)) + (Int32.ofNat m2)))) else (((0 : Int32) + (Int32.ofNat m0)) + (Int32.ofNat m1)))) else (if (Int32.ofNat m1) < (2 : Int32) then (if (2 : Int32) < (Int32.ofNat k) then (if (3 : Int32) < (Int32.ofNat k) then (if (4 : Int32) < (Int32.ofNat k) then (-1 : Int32) else (if (Int32.ofNat m4) < (2 : Int32) then (-1 : Int32) else (((((0 : Int32) + (Int32.ofNat m0)) + (Int32.ofNat m1)) + (Int32.ofNat m2)) + (Int32.ofNat m3)))) else (if (Int32.ofNat m3) < (2 : Int32) then (if (4 : Int32) < (Int32.ofNat k) then (-1 : Int32) else (if (Int32.ofNat m4) < (2 : Int32) then (-1 : Int32) else (((((0 : Int32) + (Int32.ofNat m0)) + (Int32.ofNat m1)) + (Int32.ofNat m2)) + (Int32.ofNat m3)))) else ((((0 : Int32) + (Int32.ofNat m0)) + (Int32.ofNat m1)) + (Int32.ofNat m2)))) else (if (Int32.ofNat m2) < (2 : Int32) then (if (3 : Int32) < (Int32.ofNat k) then (if (4 : Int32) < (Int32.ofNat k) then (-1 : Int32) else (if (Int32.ofNat m4) < (2 : Int32) then (-1 : Int32) else (((((0 : Int32) + (Int32.ofNat m0)) + (Int32.ofNat m1)) + (Int32.ofNat m2)) + (Int32.ofNat m3)))) else (if (Int32.ofNat m3) < (2 : Int32) then (if (4 : Int32) < (Int32.ofNat k) then (-1 : Int32) else (if (Int32.ofNat m4) < (2 : Int32) then (-1 : Int32) else (((((0 : Int32) + (Int32.ofNat m0)) + (Int32.ofNat m1)) + (Int32.ofNat m2)) + (Int32.ofNat m3)))) else ((((0 : Int32) + (Int32.ofNat m0)) + (Int32.ofNat m1)) + (Int32.ofNat m2)))) else (((0 : Int32) + (Int32.ofNat m0)) + (Int32.ofNat m1)))) else ((0 : Int32) + (Int32.ofNat m0)))) else (if (Int32.ofNat m0) < (2 : Int32) then (if (1 : Int32) < (Int32.ofNat k) then (if (2 : Int32) < (Int32.ofNat k) then (if (3 : Int32) < (Int32.ofNat k) then (if (4 : Int32) < (Int32.ofNat k) then (-1 : Int32) else (if (Int32.ofNat m4) < (2 : Int32) then (-1 : Int32) else (((((0 : Int32) + (Int32.ofNat m0)) + (Int32.ofNat m1)) + (Int32.ofNat m2)) + (Int32.ofNat m3)))) else (if (Int32.ofNat m3) < (2 : Int32) then (if (4 : Int32) < (Int32.ofNat k) then (-1 : Int32) else (if (Int32.ofNat m4) < (2 : Int32) then (-1 : Int32) else (((((0 : Int32) + (Int32.ofNat m0)) + (Int32.ofNat m1)) + (Int32.ofNat m2)) + (Int32.ofNat m3)))) else ((((0 : Int32) + (Int32.ofNat m0)) + (Int32.ofNat m1)) + (Int32.ofNat m2)))) else (if (Int32.ofNat m2) < (2 : Int32) then (if (3 : Int32) < (Int32.ofNat k) then (if (4 : Int32) < (Int32.ofNat k) then (-1 : Int32) else (if (Int32.ofNat m4) < (2 : Int32) then (-1 : Int32) else (((((0 : Int32) + (Int32.ofNat m0)) + (Int32.ofNat m1)) + (Int32.ofNat m2)) + (Int32.ofNat m3)))) else (if (Int32.ofNat m3) < (2 : Int32) then (if (4 : Int32) < (Int32.ofNat k) then (-1 : Int32) else (if (Int32.ofNat m4) < (2 : Int32) then (-1 : Int32) else (((((0 : Int32) + (Int32.ofNat m0)) + (Int32.ofNat m1)) + (Int32.ofNat m2)) + (Int32.ofNat m3)))) else ((((0 : Int32) + (Int32.ofNat m0)) + (Int32.ofNat m1)) + (Int32.ofNat m2)))) else (((0 : Int32) + (Int32.ofNat m0)) + (Int32.ofNat m1)))) else (if (Int32.ofNat m1) < (2 : Int32) then (if (2 : Int32) < (Int32.ofNat k) then (if (3 : Int32) < (Int32.ofNat k) then (if (4 : Int32) < (Int32.ofNat k) then (-1 : Int32) else (if (Int32.ofNat m4) < (2 : Int32) then (-1 : Int32) else (((((0 : Int32) + (Int32.ofNat m0)) + (Int32.ofNat m1)) + (Int32.ofNat m2)) + (Int32.ofNat m3)))) else (if (Int32.ofNat m3) < (2 : Int32) then (if (4 : Int32) < (Int32.ofNat k) then (-1 : Int32) else (if (Int32.ofNat m4) < (2 : Int32) then (-1 : Int32) else (((((0 : Int32) + (Int32.ofNat m0)) + (Int32.ofNat m1)) + (Int32.ofNat m2)) + (Int32.ofNat m3)))) else ((((0 : Int32) + (Int32.ofNat m0)) + (Int32.ofNat m1)) + (Int32.ofNat m2)))) else (if (Int32.ofNat m2) < (2 : Int32) then (if (3 : Int32) < (Int32.ofNat k) then (if (4 : Int32) < (Int32.ofNat k) then (-1 : Int32) else (if (Int32.ofNat m4) < (2 : Int32) then (-1 : Int32) else (((((0 : Int32) + (Int32.ofNat m0)) + (Int32.ofNat m1)) + (Int32.ofNat m2)) + (Int32.ofNat m3)))) else (if (Int32.ofNat m3) < (2 : Int32) then (if (4 : Int32) < (Int32.ofNat k) then (-1 : Int32) else (if (Int32.ofNat m4) < (2 : Int32) then (-1 : Int32) else (((((0 : Int32) + (Int32.ofNat m0)) + (Int32.ofNat m1)) + (Int32.ofNat m2)) + (Int32.ofNat m3)))) else ((((0 : Int32) + (Int32.ofNat m0)) + (Int32.ofNat m1)) + (Int32.ofNat m2)))) else (((0 : Int32) + (Int32.ofNat m0)) + (Int32.ofNat m1)))) else ((0 : Int32) + (Int32.ofNat m0)))) else (0 : Int32))) := by
  have h := own_MB m0 l0 m1 l1 m2 l2 m3 l3 m4 l4
  unfold own_Mb at h
  rw [hs, show Nat.beq 5 5 = true from rfl, Bool.not_true, Bool.false_or] at h
  have h3 := List.all_eq_true.mp h k (List.mem_range.mpr hk)
  unfold own_Mk at h3
  rw [Bool.and_eq_true, Bool.and_eq_true] at h3
  exact ⟨⟨of_decide_eq_true h3.1.1, h3.1.2⟩, of_decide_eq_true h3.2⟩

set_option maxRecDepth 65536 in
set_option maxHeartbeats 40000000 in
theorem side_0_53 (p1 : Int32) (p2 : Int32) (p3 : Int32) (p4 : Int32) (p5 : Int32) (p6 : Int32) (c0 : Int32) (c1 : Int32) (c2 : Int32) (c3 : Int32) (c4 : Int32) (hC : own_C c0 c1 c2 c3 c4) : ¬ (c0 < 0) ∧ c0 < (5 : Int32) := by
  exact hC.1
set_option maxRecDepth 65536 in
set_option maxHeartbeats 40000000 in
theorem side_0_56_24 (p1 : Int32) (p2 : Int32) (p3 : Int32) (p4 : Int32) (p5 : Int32) (p6 : Int32) (c0 : Int32) (c1 : Int32) (c2 : Int32) (c3 : Int32) (c4 : Int32) (hC : own_C c0 c1 c2 c3 c4) : ¬ (c0 < 0) ∧ c0 < (5 : Int32) := by
  exact hC.1
set_option maxRecDepth 65536 in
set_option maxHeartbeats 40000000 in
theorem side_0_64_27 (p1 : Int32) (p2 : Int32) (p3 : Int32) (p4 : Int32) (p5 : Int32) (p6 : Int32) (c0 : Int32) (c1 : Int32) (c2 : Int32) (c3 : Int32) (c4 : Int32) (hC : own_C c0 c1 c2 c3 c4) : ¬ (c1 < 0) ∧ c1 < (5 : Int32) := by
  exact hC.2.1
set_option maxRecDepth 65536 in
set_option maxHeartbeats 40000000 in
theorem side_0_67_28 (p1 : Int32) (p2 : Int32) (p3 : Int32) (p4 : Int32) (p5 : Int32) (p6 : Int32) (c0 : Int32) (c1 : Int32) (c2 : Int32) (c3 : Int32) (c4 : Int32) (hC : own_C c0 c1 c2 c3 c4) : ¬ (c1 < 0) ∧ c1 < (5 : Int32) := by
  exact hC.2.1
set_option maxRecDepth 65536 in
set_option maxHeartbeats 40000000 in
theorem side_0_75_31 (p1 : Int32) (p2 : Int32) (p3 : Int32) (p4 : Int32) (p5 : Int32) (p6 : Int32) (c0 : Int32) (c1 : Int32) (c2 : Int32) (c3 : Int32) (c4 : Int32) (hC : own_C c0 c1 c2 c3 c4) : ¬ (c2 < 0) ∧ c2 < (5 : Int32) := by
  exact hC.2.2.1
set_option maxRecDepth 65536 in
set_option maxHeartbeats 40000000 in
theorem side_0_78_32 (p1 : Int32) (p2 : Int32) (p3 : Int32) (p4 : Int32) (p5 : Int32) (p6 : Int32) (c0 : Int32) (c1 : Int32) (c2 : Int32) (c3 : Int32) (c4 : Int32) (hC : own_C c0 c1 c2 c3 c4) : ¬ (c2 < 0) ∧ c2 < (5 : Int32) := by
  exact hC.2.2.1
set_option maxRecDepth 65536 in
set_option maxHeartbeats 40000000 in
theorem side_0_86_35 (p1 : Int32) (p2 : Int32) (p3 : Int32) (p4 : Int32) (p5 : Int32) (p6 : Int32) (c0 : Int32) (c1 : Int32) (c2 : Int32) (c3 : Int32) (c4 : Int32) (hC : own_C c0 c1 c2 c3 c4) : ¬ (c3 < 0) ∧ c3 < (5 : Int32) := by
  exact hC.2.2.2.1
set_option maxRecDepth 65536 in
set_option maxHeartbeats 40000000 in
theorem side_0_89_36 (p1 : Int32) (p2 : Int32) (p3 : Int32) (p4 : Int32) (p5 : Int32) (p6 : Int32) (c0 : Int32) (c1 : Int32) (c2 : Int32) (c3 : Int32) (c4 : Int32) (hC : own_C c0 c1 c2 c3 c4) : ¬ (c3 < 0) ∧ c3 < (5 : Int32) := by
  exact hC.2.2.2.1
set_option maxRecDepth 65536 in
set_option maxHeartbeats 40000000 in
theorem side_0_97_39 (p1 : Int32) (p2 : Int32) (p3 : Int32) (p4 : Int32) (p5 : Int32) (p6 : Int32) (c0 : Int32) (c1 : Int32) (c2 : Int32) (c3 : Int32) (c4 : Int32) (hC : own_C c0 c1 c2 c3 c4) : ¬ (c4 < 0) ∧ c4 < (5 : Int32) := by
  exact hC.2.2.2.2
set_option maxRecDepth 65536 in
set_option maxHeartbeats 40000000 in
theorem side_0_100_40 (p1 : Int32) (p2 : Int32) (p3 : Int32) (p4 : Int32) (p5 : Int32) (p6 : Int32) (c0 : Int32) (c1 : Int32) (c2 : Int32) (c3 : Int32) (c4 : Int32) (hC : own_C c0 c1 c2 c3 c4) : ¬ (c4 < 0) ∧ c4 < (5 : Int32) := by
  exact hC.2.2.2.2
set_option maxRecDepth 65536 in
set_option maxHeartbeats 40000000 in
theorem side_0_186 (p1 : Int32) (p2 : Int32) (p3 : Int32) (p4 : Int32) (p5 : Int32) (p6 : Int32) (c0 : Int32) (c1 : Int32) (c2 : Int32) (c3 : Int32) (c4 : Int32) (hC : own_C c0 c1 c2 c3 c4) (nn0 : Int32) (hnn0 : nn0 = own_at (own_L0_4 c0 c1 c2 c3 c4) (0 : Int32)) (nn1 : Int32) (hnn1 : nn1 = own_at (own_L0_4 c0 c1 c2 c3 c4) (1 : Int32)) (nn2 : Int32) (hnn2 : nn2 = own_at (own_L0_4 c0 c1 c2 c3 c4) (2 : Int32)) (nn3 : Int32) (hnn3 : nn3 = own_at (own_L0_4 c0 c1 c2 c3 c4) (3 : Int32)) (nn4 : Int32) (hnn4 : nn4 = own_at (own_L0_4 c0 c1 c2 c3 c4) (4 : Int32)) (x9 : Int32) (hx9 : x9 = ((p6 &&& (2147483647 : Int32)) % (6 : Int32))) : ¬ (x9 < 0) ∧ x9 < (6 : Int32) := by
  obtain ⟨k, hk, ek⟩ := own_k6 p6
  rw [hx9, ek]
  have h := (by decide : ∀ (k : Nat), k < 6 → ¬ (Int32.ofNat k < 0) ∧ Int32.ofNat k < (6 : Int32))
  exact h k hk
set_option maxRecDepth 65536 in
set_option maxHeartbeats 40000000 in
theorem side_0_307 (p1 : Int32) (p2 : Int32) (p3 : Int32) (p4 : Int32) (p5 : Int32) (p6 : Int32) (c0 : Int32) (c1 : Int32) (c2 : Int32) (c3 : Int32) (c4 : Int32) (hC : own_C c0 c1 c2 c3 c4) (nn0 : Int32) (hnn0 : nn0 = own_at (own_L0_4 c0 c1 c2 c3 c4) (0 : Int32)) (nn1 : Int32) (hnn1 : nn1 = own_at (own_L0_4 c0 c1 c2 c3 c4) (1 : Int32)) (nn2 : Int32) (hnn2 : nn2 = own_at (own_L0_4 c0 c1 c2 c3 c4) (2 : Int32)) (nn3 : Int32) (hnn3 : nn3 = own_at (own_L0_4 c0 c1 c2 c3 c4) (3 : Int32)) (nn4 : Int32) (hnn4 : nn4 = own_at (own_L0_4 c0 c1 c2 c3 c4) (4 : Int32)) (x9 : Int32) (hx9 : x9 = ((p6 &&& (2147483647 : Int32)) % (6 : Int32))) (x10 : Int32) (hx10 : x10 = (own_at ([(0 : Int32), ((0 : Int32) + nn0), (((0 : Int32) + nn0) + nn1), ((((0 : Int32) + nn0) + nn1) + nn2), (((((0 : Int32) + nn0) + nn1) + nn2) + nn3), ((((((0 : Int32) + nn0) + nn1) + nn2) + nn3) + nn4)] : List Int32) x9)) (v81 : Int32) (hv81 : v81 = (if (4 : Int32) < x9 then (-1 : Int32) else (if nn4 < (2 : Int32) then (-1 : Int32) else (((((0 : Int32) + nn0) + nn1) + nn2) + nn3)))) (v89 : Int32) (hv89 : v89 = (if (3 : Int32) < x9 then v81 else (if nn3 < (2 : Int32) then v81 else ((((0 : Int32) + nn0) + nn1) + nn2)))) (v97 : Int32) (hv97 : v97 = (if (2 : Int32) < x9 then v89 else (if nn2 < (2 : Int32) then v89 else (((0 : Int32) + nn0) + nn1)))) (v105 : Int32) (hv105 : v105 = (if (1 : Int32) < x9 then v97 else (if nn1 < (2 : Int32) then v97 else ((0 : Int32) + nn0)))) (v113 : Int32) (hv113 : v113 = (if (0 : Int32) < x9 then v105 else (if nn0 < (2 : Int32) then v105 else (0 : Int32)))) : own_C c0 c1 c2 c3 c4 := by
  exact hC
set_option maxRecDepth 65536 in
set_option maxHeartbeats 40000000 in
theorem side_0_316 (p1 : Int32) (p2 : Int32) (p3 : Int32) (p4 : Int32) (p5 : Int32) (p6 : Int32) (c0 : Int32) (c1 : Int32) (c2 : Int32) (c3 : Int32) (c4 : Int32) (hC : own_C c0 c1 c2 c3 c4) (nn0 : Int32) (hnn0 : nn0 = own_at (own_L0_4 c0 c1 c2 c3 c4) (0 : Int32)) (nn1 : Int32) (hnn1 : nn1 = own_at (own_L0_4 c0 c1 c2 c3 c4) (1 : Int32)) (nn2 : Int32) (hnn2 : nn2 = own_at (own_L0_4 c0 c1 c2 c3 c4) (2 : Int32)) (nn3 : Int32) (hnn3 : nn3 = own_at (own_L0_4 c0 c1 c2 c3 c4) (3 : Int32)) (nn4 : Int32) (hnn4 : nn4 = own_at (own_L0_4 c0 c1 c2 c3 c4) (4 : Int32)) (x9 : Int32) (hx9 : x9 = ((p6 &&& (2147483647 : Int32)) % (6 : Int32))) (x10 : Int32) (hx10 : x10 = (own_at ([(0 : Int32), ((0 : Int32) + nn0), (((0 : Int32) + nn0) + nn1), ((((0 : Int32) + nn0) + nn1) + nn2), (((((0 : Int32) + nn0) + nn1) + nn2) + nn3), ((((((0 : Int32) + nn0) + nn1) + nn2) + nn3) + nn4)] : List Int32) x9)) (v81 : Int32) (hv81 : v81 = (if (4 : Int32) < x9 then (-1 : Int32) else (if nn4 < (2 : Int32) then (-1 : Int32) else (((((0 : Int32) + nn0) + nn1) + nn2) + nn3)))) (v89 : Int32) (hv89 : v89 = (if (3 : Int32) < x9 then v81 else (if nn3 < (2 : Int32) then v81 else ((((0 : Int32) + nn0) + nn1) + nn2)))) (v97 : Int32) (hv97 : v97 = (if (2 : Int32) < x9 then v89 else (if nn2 < (2 : Int32) then v89 else (((0 : Int32) + nn0) + nn1)))) (v105 : Int32) (hv105 : v105 = (if (1 : Int32) < x9 then v97 else (if nn1 < (2 : Int32) then v97 else ((0 : Int32) + nn0)))) (v113 : Int32) (hv113 : v113 = (if (0 : Int32) < x9 then v105 else (if nn0 < (2 : Int32) then v105 else (0 : Int32)))) : x10 = Int32.ofNat (x10).toNatClampNeg ∧ own_W (own_CE c0 c1 c2 c3 c4) 6 (x10).toNatClampNeg = true := by
  obtain ⟨m0, m1, m2, m3, m4, l0, l1, l2, l3, l4, hs, e0, e1, e2, e3, e4, hE⟩ := own_Kx c0 c1 c2 c3 c4 hC
  obtain ⟨k, hk, ek⟩ := own_k6 p6
  have M := own_MA m0 l0 m1 l1 m2 l2 m3 l3 m4 l4 hs k hk
  replace hx9 := hx9.trans ek
  subst hx9
  replace hnn0 := hnn0.trans e0
  subst hnn0
  replace hnn1 := hnn1.trans e1
  subst hnn1
  replace hnn2 := hnn2.trans e2
  subst hnn2
  replace hnn3 := hnn3.trans e3
  subst hnn3
  replace hnn4 := hnn4.trans e4
  subst hnn4
  subst hx10
  rw [hE]
  exact M.1
set_option maxRecDepth 65536 in
set_option maxHeartbeats 40000000 in
theorem leaf_0_2 (p1 : Int32) (p2 : Int32) (p3 : Int32) (p4 : Int32) (p5 : Int32) (p6 : Int32) (c0 : Int32) (c1 : Int32) (c2 : Int32) (c3 : Int32) (c4 : Int32) (hC : own_C c0 c1 c2 c3 c4) (nn0 : Int32) (hnn0 : nn0 = own_at (own_L0_4 c0 c1 c2 c3 c4) (0 : Int32)) (nn1 : Int32) (hnn1 : nn1 = own_at (own_L0_4 c0 c1 c2 c3 c4) (1 : Int32)) (nn2 : Int32) (hnn2 : nn2 = own_at (own_L0_4 c0 c1 c2 c3 c4) (2 : Int32)) (nn3 : Int32) (hnn3 : nn3 = own_at (own_L0_4 c0 c1 c2 c3 c4) (3 : Int32)) (nn4 : Int32) (hnn4 : nn4 = own_at (own_L0_4 c0 c1 c2 c3 c4) (4 : Int32)) (x9 : Int32) (hx9 : x9 = ((p6 &&& (2147483647 : Int32)) % (6 : Int32))) (x10 : Int32) (hx10 : x10 = (own_at ([(0 : Int32), ((0 : Int32) + nn0), (((0 : Int32) + nn0) + nn1), ((((0 : Int32) + nn0) + nn1) + nn2), (((((0 : Int32) + nn0) + nn1) + nn2) + nn3), ((((((0 : Int32) + nn0) + nn1) + nn2) + nn3) + nn4)] : List Int32) x9)) (v81 : Int32) (hv81 : v81 = (if (4 : Int32) < x9 then (-1 : Int32) else (if nn4 < (2 : Int32) then (-1 : Int32) else (((((0 : Int32) + nn0) + nn1) + nn2) + nn3)))) (v89 : Int32) (hv89 : v89 = (if (3 : Int32) < x9 then v81 else (if nn3 < (2 : Int32) then v81 else ((((0 : Int32) + nn0) + nn1) + nn2)))) (v97 : Int32) (hv97 : v97 = (if (2 : Int32) < x9 then v89 else (if nn2 < (2 : Int32) then v89 else (((0 : Int32) + nn0) + nn1)))) (v105 : Int32) (hv105 : v105 = (if (1 : Int32) < x9 then v97 else (if nn1 < (2 : Int32) then v97 else ((0 : Int32) + nn0)))) (v113 : Int32) (hv113 : v113 = (if (0 : Int32) < x9 then v105 else (if nn0 < (2 : Int32) then v105 else (0 : Int32)))) (hc168 : ¬ ((own_fn (own_CE c0 c1 c2 c3 c4) 6 (x10).toNatClampNeg) = v113)) : False := by
  obtain ⟨m0, m1, m2, m3, m4, l0, l1, l2, l3, l4, hs, e0, e1, e2, e3, e4, hE⟩ := own_Kx c0 c1 c2 c3 c4 hC
  obtain ⟨k, hk, ek⟩ := own_k6 p6
  have M := own_MA m0 l0 m1 l1 m2 l2 m3 l3 m4 l4 hs k hk
  replace hx9 := hx9.trans ek
  subst hx9
  replace hnn0 := hnn0.trans e0
  subst hnn0
  replace hnn1 := hnn1.trans e1
  subst hnn1
  replace hnn2 := hnn2.trans e2
  subst hnn2
  replace hnn3 := hnn3.trans e3
  subst hnn3
  replace hnn4 := hnn4.trans e4
  subst hnn4
  subst hx10
  subst hv81 hv89 hv97 hv105 hv113
  rw [hE] at hc168
  exact hc168 M.2
def Q0 (Z : State) (p1 : Int32) (p2 : Int32) (p3 : Int32) (p4 : Int32) (p5 : Int32) (p6 : Int32) (h0 : Heap) (n0 : Nat) (v : Option Value) (h : Heap) (L : List Loc) : Prop := v = some (.int (1 : Int32)) ∧ Fr n0 L
set_option maxRecDepth 65536 in
set_option maxHeartbeats 40000000 in
theorem rm0 (l : Launch) (Z : State) (a0 : Array Value) (hw : ∀ d ∈ tables_1, d.before a0 Z = true) (ws : List Jvm.Cond) (p1 : Int32) (p2 : Int32) (p3 : Int32) (p4 : Int32) (p5 : Int32) (p6 : Int32) (h0 : Heap) (n0 : Nat) (Z0 : n0 ≤ h0.size) :
    MetFree l x (head1 (Jvm.Cond.code x code maxLocals ret :: ws) room_1) (fun a U => a = #[(.int p1), (.int p2), (.int p3), (.int p4), (.int p5), (.int p6)] ∧ Z.Warmed39 U.vm ∧ U.heap = h0) (fun _ _ _ _ _ => True) (fun _ U o U' => ∃ v L, o = .returned v ∧ Q0 Z p1 p2 p3 p4 p5 p6 h0 n0 v U'.heap L ∧ FrameEnd U o U' L room_1.cells room_1.slots) := by
  refine MetFree.of_bodySF (plainFor_of_name pn_0) hisR ?_
  intro p e s m args below meth c s₁ Bd hml0 hP hK
  obtain ⟨rfl, hZ, hh⟩ := hP
  skip
  skip
  skip
  skip
  skip
  skip
  have hx := Bd.exec
  have hby := Bd.bytes
  have hml : c.maxLocals = 13 := hml0
  have hown : s.vm.findClass "com/example/tercet/tercet/PartitionFirstNonSingletonCellPinLaw" = some m.cls := findClass_of_methodNamed Bd.named
  have hnm := (name_of_methodNamed Bd.named Bd.method).1
  have X0 : Stand p l e room_1 s m #[(.int p1), (.int p2), (.int p3), (.int p4), (.int p5), (.int p6)] below meth c s₁ [] 0 0 := Stand.of_body Bd
  have e0 : s₁.heap = h0 := by rw [← hh, Bd.state]; rfl
  have N0 := Fr.nil n0
  have pre0 : ∀ t, Steps p.tables e below (s₁.setTop (mkF m 0 #[.val (.int p1), .val (.int p2), .val (.int p3), .val (.int p4), .val (.int p5), .val (.int p6), .unset, .unset, .unset, .unset, .unset, .unset, .unset] [])) t → Steps p.tables e below (s₁.setTop (entryFrame m #[(.int p1), (.int p2), (.int p3), (.int p4), (.int p5), (.int p6)] maxLocals)) t := fun t k => castTop (ef_0 m p1 p2 p3 p4 p5 p6) k
  have hlk : meth.locks = false := by first | exact BodyLoose.notSynchronized Bd | exact Body.notSynchronized Bd
  have hw1 : (Jvm.Cond.methodLink "com/example/tercet/tercet/PartitionFirstNonSingletonCellPinLaw" (7 : Nat) ({ cls := "com/example/tercet/tercet/PartitionFirstNonSingletonCellPinLaw", name := "col", desc := "(I)I" } : Jvm.MethodName)).before a0 Z = true := hw _ (List.mem_of_getElem? (i := 1) rfl)
  have hw2 : (Jvm.Cond.static ({ cls := "com/example/tercet/tercet/PartitionFirstNonSingletonCellPinLaw", name := "col", desc := "(I)I" } : Jvm.MethodName)).before a0 Z = true := hw _ (List.mem_of_getElem? (i := 2) rfl)
  have hw3 : (Jvm.Cond.initialized "com/example/tercet/tercet/PartitionFirstNonSingletonCellPinLaw").before a0 Z = true := hw _ (List.mem_of_getElem? (i := 3) rfl)
  have hw4 : (Jvm.Cond.code ({ cls := "com/example/tercet/tercet/PartitionFirstNonSingletonCellPinLaw", name := "col", desc := "(I)I" } : Jvm.MethodName) method_3_code (1 : Nat) (Option.some Jvm.ClassFile.FieldType.int)).before a0 Z = true := hw _ (List.mem_of_getElem? (i := 4) rfl)
  have hw5 : (Jvm.Cond.constant "com/example/tercet/tercet/PartitionFirstNonSingletonCellPinLaw" (13 : Nat) (2147483647 : Int32)).before a0 Z = true := hw _ (List.mem_of_getElem? (i := 5) rfl)
  have hw6 : (Jvm.Cond.classLink "com/example/tercet/tercet/PartitionFirstNonSingletonCellPinLaw" (14 : Nat) "com/example/tercet/tercet/Partition").before a0 Z = true := hw _ (List.mem_of_getElem? (i := 6) rfl)
  have hw7 : (Jvm.Cond.instantiable "com/example/tercet/tercet/Partition" (26 : Nat)).before a0 Z = true := hw _ (List.mem_of_getElem? (i := 7) rfl)
  have hw8 : (Jvm.Cond.initialized "com/example/tercet/tercet/Partition").before a0 Z = true := hw _ (List.mem_of_getElem? (i := 8) rfl)
  have hw9 : (Jvm.Cond.methodLink "com/example/tercet/tercet/PartitionFirstNonSingletonCellPinLaw" (16 : Nat) ({ cls := "com/example/tercet/tercet/Partition", name := "<init>", desc := "([I[I[I[I)V" } : Jvm.MethodName)).before a0 Z = true := hw _ (List.mem_of_getElem? (i := 9) rfl)
  have hw10 : (Jvm.Cond.instanceMethod ({ cls := "com/example/tercet/tercet/Partition", name := "<init>", desc := "([I[I[I[I)V" } : Jvm.MethodName)).before a0 Z = true := hw _ (List.mem_of_getElem? (i := 10) rfl)
  have hw11 : (Jvm.Cond.code ({ cls := "com/example/tercet/tercet/Partition", name := "<init>", desc := "([I[I[I[I)V" } : Jvm.MethodName) prog_36_method_1_code (10 : Nat) (Option.none : Option Jvm.ClassFile.FieldType)).before a0 Z = true := hw _ (List.mem_of_getElem? (i := 11) rfl)
  have hw16 : (Jvm.Cond.laysFinal "com/example/tercet/tercet/Partition" "com/example/tercet/tercet/Partition" "size" "I").before a0 Z = true := hw _ (List.mem_of_getElem? (i := 16) rfl)
  have hw18 : (Jvm.Cond.laysFinal "com/example/tercet/tercet/Partition" "com/example/tercet/tercet/Partition" "arcStart" "[I").before a0 Z = true := hw _ (List.mem_of_getElem? (i := 18) rfl)
  have hw20 : (Jvm.Cond.laysFinal "com/example/tercet/tercet/Partition" "com/example/tercet/tercet/Partition" "arcKeys" "[I").before a0 Z = true := hw _ (List.mem_of_getElem? (i := 20) rfl)
  have hw22 : (Jvm.Cond.laysFinal "com/example/tercet/tercet/Partition" "com/example/tercet/tercet/Partition" "arcNodes" "[I").before a0 Z = true := hw _ (List.mem_of_getElem? (i := 22) rfl)
  have hw24 : (Jvm.Cond.laysFinal "com/example/tercet/tercet/Partition" "com/example/tercet/tercet/Partition" "order" "[I").before a0 Z = true := hw _ (List.mem_of_getElem? (i := 24) rfl)
  have hw26 : (Jvm.Cond.laysFinal "com/example/tercet/tercet/Partition" "com/example/tercet/tercet/Partition" "position" "[I").before a0 Z = true := hw _ (List.mem_of_getElem? (i := 26) rfl)
  have hw28 : (Jvm.Cond.laysFinal "com/example/tercet/tercet/Partition" "com/example/tercet/tercet/Partition" "cellOf" "[I").before a0 Z = true := hw _ (List.mem_of_getElem? (i := 28) rfl)
  have hw30 : (Jvm.Cond.laysFinal "com/example/tercet/tercet/Partition" "com/example/tercet/tercet/Partition" "cellEnd" "[I").before a0 Z = true := hw _ (List.mem_of_getElem? (i := 30) rfl)
  have hw32 : (Jvm.Cond.laysFinal "com/example/tercet/tercet/Partition" "com/example/tercet/tercet/Partition" "queue" "[I").before a0 Z = true := hw _ (List.mem_of_getElem? (i := 32) rfl)
  have hw35 : (Jvm.Cond.laysFinal "com/example/tercet/tercet/Partition" "com/example/tercet/tercet/Partition" "queued" "[Z").before a0 Z = true := hw _ (List.mem_of_getElem? (i := 35) rfl)
  have hw37 : (Jvm.Cond.laysFinal "com/example/tercet/tercet/Partition" "com/example/tercet/tercet/Partition" "trail" "[I").before a0 Z = true := hw _ (List.mem_of_getElem? (i := 37) rfl)
  have hw39 : (Jvm.Cond.laysFinal "com/example/tercet/tercet/Partition" "com/example/tercet/tercet/Partition" "trailParent" "[I").before a0 Z = true := hw _ (List.mem_of_getElem? (i := 39) rfl)
  have hw41 : (Jvm.Cond.laysFinal "com/example/tercet/tercet/Partition" "com/example/tercet/tercet/Partition" "reached" "[I").before a0 Z = true := hw _ (List.mem_of_getElem? (i := 41) rfl)
  have hw43 : (Jvm.Cond.laysFinal "com/example/tercet/tercet/Partition" "com/example/tercet/tercet/Partition" "hitKeys" "[I").before a0 Z = true := hw _ (List.mem_of_getElem? (i := 43) rfl)
  have hw45 : (Jvm.Cond.laysFinal "com/example/tercet/tercet/Partition" "com/example/tercet/tercet/Partition" "keysStart" "[I").before a0 Z = true := hw _ (List.mem_of_getElem? (i := 45) rfl)
  have hw47 : (Jvm.Cond.laysFinal "com/example/tercet/tercet/Partition" "com/example/tercet/tercet/Partition" "keysEnd" "[I").before a0 Z = true := hw _ (List.mem_of_getElem? (i := 47) rfl)
  have hw49 : (Jvm.Cond.laysFinal "com/example/tercet/tercet/Partition" "com/example/tercet/tercet/Partition" "cellsReached" "[I").before a0 Z = true := hw _ (List.mem_of_getElem? (i := 49) rfl)
  have hw51 : (Jvm.Cond.laysFinal "com/example/tercet/tercet/Partition" "com/example/tercet/tercet/Partition" "reachedInCell" "[I").before a0 Z = true := hw _ (List.mem_of_getElem? (i := 51) rfl)
  have hw53 : (Jvm.Cond.laysFinal "com/example/tercet/tercet/Partition" "com/example/tercet/tercet/Partition" "byCell" "[I").before a0 Z = true := hw _ (List.mem_of_getElem? (i := 53) rfl)
  have hw55 : (Jvm.Cond.laysFinal "com/example/tercet/tercet/Partition" "com/example/tercet/tercet/Partition" "mergeBuffer" "[I").before a0 Z = true := hw _ (List.mem_of_getElem? (i := 55) rfl)
  have hw57 : (Jvm.Cond.laysFinal "com/example/tercet/tercet/Partition" "com/example/tercet/tercet/Partition" "groupStarts" "[I").before a0 Z = true := hw _ (List.mem_of_getElem? (i := 57) rfl)
  have hw59 : (Jvm.Cond.lays "com/example/tercet/tercet/Partition" "com/example/tercet/tercet/Partition" "cells" "I").before a0 Z = true := hw _ (List.mem_of_getElem? (i := 59) rfl)
  have hw65 : (Jvm.Cond.lays "com/example/tercet/tercet/Partition" "com/example/tercet/tercet/Partition" "queueHead" "I").before a0 Z = true := hw _ (List.mem_of_getElem? (i := 65) rfl)
  have hw67 : (Jvm.Cond.lays "com/example/tercet/tercet/Partition" "com/example/tercet/tercet/Partition" "queueSize" "I").before a0 Z = true := hw _ (List.mem_of_getElem? (i := 67) rfl)
  have hw68 : (Jvm.Cond.methodLink "com/example/tercet/tercet/PartitionFirstNonSingletonCellPinLaw" (19 : Nat) ({ cls := "com/example/tercet/tercet/Partition", name := "firstNonSingletonCell", desc := "(I)I" } : Jvm.MethodName)).before a0 Z = true := hw _ (List.mem_of_getElem? (i := 68) rfl)
  have hw69 : (Jvm.Cond.declares ({ cls := "com/example/tercet/tercet/Partition", name := "firstNonSingletonCell", desc := "(I)I" } : Jvm.MethodName)).before a0 Z = true := hw _ (List.mem_of_getElem? (i := 69) rfl)
  have hw70 : (Jvm.Cond.instanceMethod ({ cls := "com/example/tercet/tercet/Partition", name := "firstNonSingletonCell", desc := "(I)I" } : Jvm.MethodName)).before a0 Z = true := hw _ (List.mem_of_getElem? (i := 70) rfl)
  have hw71 : (Jvm.Cond.selects "com/example/tercet/tercet/Partition" ({ cls := "com/example/tercet/tercet/Partition", name := "firstNonSingletonCell", desc := "(I)I" } : Jvm.MethodName) ({ cls := "com/example/tercet/tercet/Partition", name := "firstNonSingletonCell", desc := "(I)I" } : Jvm.MethodName)).before a0 Z = true := hw _ (List.mem_of_getElem? (i := 71) rfl)
  have hw72 : (Jvm.Cond.code ({ cls := "com/example/tercet/tercet/Partition", name := "firstNonSingletonCell", desc := "(I)I" } : Jvm.MethodName) prog_36_method_8_code (3 : Nat) (Option.some Jvm.ClassFile.FieldType.int)).before a0 Z = true := hw _ (List.mem_of_getElem? (i := 72) rfl)
  obtain ⟨b1, g1⟩ : ∃ z, z = h0.size := ⟨_, rfl⟩
  obtain ⟨T1, h1, k1, X1, e1, E1, A1, st1⟩ := newP X0 hx hZ (hw _ (List.mem_of_getElem? (i := 0) rfl)) e0 (g := (mkF m 1 #[.val (.int p1), .val (.int p2), .val (.int p3), .val (.int p4), .val (.int p5), .val (.int p6), .unset, .unset, .unset, .unset, .unset, .unset, .unset] [(.int (5 : Int32))])) rfl (hb hby at_1) rfl (by decide) (cap := 5) (by decide) (by decide) (by decide) (by decide)
  rw [← g1] at A1 st1
  have g_b1 : n0 ≤ b1 := Nat.le_trans Z0 (Nat.le_of_eq g1.symm)
  have V1 : Arv Z h1 b1 k1 .int (5 : Int32) [(.int (0 : Int32)), (.int (0 : Int32)), (.int (0 : Int32)), (.int (0 : Int32)), (.int (0 : Int32))] (.int (0 : Int32)) := (Arv.new A1 (by decide)).pad (pad_rep [] (.int (0 : Int32)) 5)
  have z3 : n0 ≤ h1.size := (Nat.le_trans Z0 E1.1)
  obtain ⟨_, _, ⟨T2, L2, k2, n2⟩, -, X2, ⟨Lc2, hQ2, l2, y2, z2⟩, st2⟩ := Jvm.LawKit.callS X1 hx (y := (⟨"com/example/tercet/tercet/PartitionFirstNonSingletonCellPinLaw", "col", "(I)I"⟩ : MethodName)) hown (mvT hZ hw1) (mvT hZ hw2) (mvT hZ hw3) (mvT hZ hw4) (by decide) (backOf (W := 3) (rm1 l Z a0 hw [] p1 h1 n0 z3) hZ hw4 hw3 (by decide) (by decide)) (g := (mkF m 6 #[.val (.int p1), .val (.int p2), .val (.int p3), .val (.int p4), .val (.int p5), .val (.int p6), .unset, .unset, .unset, .unset, .unset, .unset, .unset] [(.int p1), (.int (0 : Int32)), (.ref b1), (.ref b1)])) rfl (by rw [hml]; rfl) (argsL := [(.int p1)]) (rest := [(.int (0 : Int32)), (.ref b1), (.ref b1)]) (lenOf pd_0_0 rfl) rfl (by show 2 * 0 + _ ≤ _; exact Nat.le_of_eq rfl) (hb hby at_6) (fun _ _ => ⟨rfl, e1, (by decide : 1 + 0 ≤ _), (by decide : 5 + 0 ≤ _)⟩)
  dsimp only [Pt.U, Pt.locs, Pt.cells, Pt.slots] at X2 l2 y2 z2 st2 hQ2
  subst l2 y2 z2
  obtain ⟨rfl, N2q, e2⟩ := hQ2
  have N2 := Fr.app N0 N2q
  obtain ⟨cl4, Ar4, aq4, S4, M4, H4, G4⟩ := id V1
  have hin4 : ¬ ((0 : Int32) < 0 ∨ cl4.slots.size ≤ ((0 : Int32)).toNatClampNeg) := inb_of S4 ⟨by decide, by decide⟩
  obtain ⟨T4, h4, X4, e4, W4, st4⟩ := stI X2 hx hZ e2 Ar4 (j := (0 : Int32)) hin4 (g := (mkF m 9 #[.val (.int p1), .val (.int p2), .val (.int p3), .val (.int p4), .val (.int p5), .val (.int p6), .unset, .unset, .unset, .unset, .unset, .unset, .unset] [(.int (F1 p1)), (.int (0 : Int32)), (.ref b1), (.ref b1)])) rfl rfl (hb hby at_9)
  have V4 : Arv Z h4 b1 k1 .int (5 : Int32) [(.int (F1 p1)), (.int (0 : Int32)), (.int (0 : Int32)), (.int (0 : Int32)), (.int (0 : Int32))] (.int (0 : Int32)) := Arv.set Ar4 aq4 S4 M4 H4 G4 rfl W4 0 rfl (Nat.le_of_ble_eq_true rfl)
  have N4 := Fr.snoc X4 N2 g_b1
  have z6 : n0 ≤ h4.size := (Nat.le_trans z3 (Keep.of_wr W4).1)
  obtain ⟨_, _, ⟨T5, L5, k5, n5⟩, -, X5, ⟨Lc5, hQ5, l5, y5, z5⟩, st5⟩ := Jvm.LawKit.callS X4 hx (y := (⟨"com/example/tercet/tercet/PartitionFirstNonSingletonCellPinLaw", "col", "(I)I"⟩ : MethodName)) hown (mvT hZ hw1) (mvT hZ hw2) (mvT hZ hw3) (mvT hZ hw4) (by decide) (backOf (W := 3) (rm1 l Z a0 hw [] p2 h4 n0 z6) hZ hw4 hw3 (by decide) (by decide)) (g := (mkF m 13 #[.val (.int p1), .val (.int p2), .val (.int p3), .val (.int p4), .val (.int p5), .val (.int p6), .unset, .unset, .unset, .unset, .unset, .unset, .unset] [(.int p2), (.int (1 : Int32)), (.ref b1), (.ref b1)])) rfl (by rw [hml]; rfl) (argsL := [(.int p2)]) (rest := [(.int (1 : Int32)), (.ref b1), (.ref b1)]) (lenOf pd_0_0 rfl) rfl (by show 2 * 0 + _ ≤ _; exact Nat.le_of_eq rfl) (hb hby at_13) (fun _ _ => ⟨rfl, e4, (by decide : 1 + 0 ≤ _), (by decide : 5 + 0 ≤ _)⟩)
  dsimp only [Pt.U, Pt.locs, Pt.cells, Pt.slots] at X5 l5 y5 z5 st5 hQ5
  subst l5 y5 z5
  obtain ⟨rfl, N5q, e5⟩ := hQ5
  have N5 := Fr.app N4 N5q
  obtain ⟨cl7, Ar7, aq7, S7, M7, H7, G7⟩ := id V4
  have hin7 : ¬ ((1 : Int32) < 0 ∨ cl7.slots.size ≤ ((1 : Int32)).toNatClampNeg) := inb_of S7 ⟨by decide, by decide⟩
  obtain ⟨T7, h7, X7, e7, W7, st7⟩ := stI X5 hx hZ e5 Ar7 (j := (1 : Int32)) hin7 (g := (mkF m 16 #[.val (.int p1), .val (.int p2), .val (.int p3), .val (.int p4), .val (.int p5), .val (.int p6), .unset, .unset, .unset, .unset, .unset, .unset, .unset] [(.int (F1 p2)), (.int (1 : Int32)), (.ref b1), (.ref b1)])) rfl rfl (hb hby at_16)
  have V7 : Arv Z h7 b1 k1 .int (5 : Int32) [(.int (F1 p1)), (.int (F1 p2)), (.int (0 : Int32)), (.int (0 : Int32)), (.int (0 : Int32))] (.int (0 : Int32)) := Arv.set Ar7 aq7 S7 M7 H7 G7 rfl W7 1 rfl (Nat.le_of_ble_eq_true rfl)
  have N7 := Fr.snoc X7 N5 g_b1
  have z9 : n0 ≤ h7.size := (Nat.le_trans z6 (Keep.of_wr W7).1)
  obtain ⟨_, _, ⟨T8, L8, k8, n8⟩, -, X8, ⟨Lc8, hQ8, l8, y8, z8⟩, st8⟩ := Jvm.LawKit.callS X7 hx (y := (⟨"com/example/tercet/tercet/PartitionFirstNonSingletonCellPinLaw", "col", "(I)I"⟩ : MethodName)) hown (mvT hZ hw1) (mvT hZ hw2) (mvT hZ hw3) (mvT hZ hw4) (by decide) (backOf (W := 3) (rm1 l Z a0 hw [] p3 h7 n0 z9) hZ hw4 hw3 (by decide) (by decide)) (g := (mkF m 20 #[.val (.int p1), .val (.int p2), .val (.int p3), .val (.int p4), .val (.int p5), .val (.int p6), .unset, .unset, .unset, .unset, .unset, .unset, .unset] [(.int p3), (.int (2 : Int32)), (.ref b1), (.ref b1)])) rfl (by rw [hml]; rfl) (argsL := [(.int p3)]) (rest := [(.int (2 : Int32)), (.ref b1), (.ref b1)]) (lenOf pd_0_0 rfl) rfl (by show 2 * 0 + _ ≤ _; exact Nat.le_of_eq rfl) (hb hby at_20) (fun _ _ => ⟨rfl, e7, (by decide : 1 + 0 ≤ _), (by decide : 5 + 0 ≤ _)⟩)
  dsimp only [Pt.U, Pt.locs, Pt.cells, Pt.slots] at X8 l8 y8 z8 st8 hQ8
  subst l8 y8 z8
  obtain ⟨rfl, N8q, e8⟩ := hQ8
  have N8 := Fr.app N7 N8q
  obtain ⟨cl10, Ar10, aq10, S10, M10, H10, G10⟩ := id V7
  have hin10 : ¬ ((2 : Int32) < 0 ∨ cl10.slots.size ≤ ((2 : Int32)).toNatClampNeg) := inb_of S10 ⟨by decide, by decide⟩
  obtain ⟨T10, h10, X10, e10, W10, st10⟩ := stI X8 hx hZ e8 Ar10 (j := (2 : Int32)) hin10 (g := (mkF m 23 #[.val (.int p1), .val (.int p2), .val (.int p3), .val (.int p4), .val (.int p5), .val (.int p6), .unset, .unset, .unset, .unset, .unset, .unset, .unset] [(.int (F1 p3)), (.int (2 : Int32)), (.ref b1), (.ref b1)])) rfl rfl (hb hby at_23)
  have V10 : Arv Z h10 b1 k1 .int (5 : Int32) [(.int (F1 p1)), (.int (F1 p2)), (.int (F1 p3)), (.int (0 : Int32)), (.int (0 : Int32))] (.int (0 : Int32)) := Arv.set Ar10 aq10 S10 M10 H10 G10 rfl W10 2 rfl (Nat.le_of_ble_eq_true rfl)
  have N10 := Fr.snoc X10 N8 g_b1
  have z12 : n0 ≤ h10.size := (Nat.le_trans z9 (Keep.of_wr W10).1)
  obtain ⟨_, _, ⟨T11, L11, k11, n11⟩, -, X11, ⟨Lc11, hQ11, l11, y11, z11⟩, st11⟩ := Jvm.LawKit.callS X10 hx (y := (⟨"com/example/tercet/tercet/PartitionFirstNonSingletonCellPinLaw", "col", "(I)I"⟩ : MethodName)) hown (mvT hZ hw1) (mvT hZ hw2) (mvT hZ hw3) (mvT hZ hw4) (by decide) (backOf (W := 3) (rm1 l Z a0 hw [] p4 h10 n0 z12) hZ hw4 hw3 (by decide) (by decide)) (g := (mkF m 27 #[.val (.int p1), .val (.int p2), .val (.int p3), .val (.int p4), .val (.int p5), .val (.int p6), .unset, .unset, .unset, .unset, .unset, .unset, .unset] [(.int p4), (.int (3 : Int32)), (.ref b1), (.ref b1)])) rfl (by rw [hml]; rfl) (argsL := [(.int p4)]) (rest := [(.int (3 : Int32)), (.ref b1), (.ref b1)]) (lenOf pd_0_0 rfl) rfl (by show 2 * 0 + _ ≤ _; exact Nat.le_of_eq rfl) (hb hby at_27) (fun _ _ => ⟨rfl, e10, (by decide : 1 + 0 ≤ _), (by decide : 5 + 0 ≤ _)⟩)
  dsimp only [Pt.U, Pt.locs, Pt.cells, Pt.slots] at X11 l11 y11 z11 st11 hQ11
  subst l11 y11 z11
  obtain ⟨rfl, N11q, e11⟩ := hQ11
  have N11 := Fr.app N10 N11q
  obtain ⟨cl13, Ar13, aq13, S13, M13, H13, G13⟩ := id V10
  have hin13 : ¬ ((3 : Int32) < 0 ∨ cl13.slots.size ≤ ((3 : Int32)).toNatClampNeg) := inb_of S13 ⟨by decide, by decide⟩
  obtain ⟨T13, h13, X13, e13, W13, st13⟩ := stI X11 hx hZ e11 Ar13 (j := (3 : Int32)) hin13 (g := (mkF m 30 #[.val (.int p1), .val (.int p2), .val (.int p3), .val (.int p4), .val (.int p5), .val (.int p6), .unset, .unset, .unset, .unset, .unset, .unset, .unset] [(.int (F1 p4)), (.int (3 : Int32)), (.ref b1), (.ref b1)])) rfl rfl (hb hby at_30)
  have V13 : Arv Z h13 b1 k1 .int (5 : Int32) [(.int (F1 p1)), (.int (F1 p2)), (.int (F1 p3)), (.int (F1 p4)), (.int (0 : Int32))] (.int (0 : Int32)) := Arv.set Ar13 aq13 S13 M13 H13 G13 rfl W13 3 rfl (Nat.le_of_ble_eq_true rfl)
  have N13 := Fr.snoc X13 N11 g_b1
  have z15 : n0 ≤ h13.size := (Nat.le_trans z12 (Keep.of_wr W13).1)
  obtain ⟨_, _, ⟨T14, L14, k14, n14⟩, -, X14, ⟨Lc14, hQ14, l14, y14, z14⟩, st14⟩ := Jvm.LawKit.callS X13 hx (y := (⟨"com/example/tercet/tercet/PartitionFirstNonSingletonCellPinLaw", "col", "(I)I"⟩ : MethodName)) hown (mvT hZ hw1) (mvT hZ hw2) (mvT hZ hw3) (mvT hZ hw4) (by decide) (backOf (W := 3) (rm1 l Z a0 hw [] p5 h13 n0 z15) hZ hw4 hw3 (by decide) (by decide)) (g := (mkF m 35 #[.val (.int p1), .val (.int p2), .val (.int p3), .val (.int p4), .val (.int p5), .val (.int p6), .unset, .unset, .unset, .unset, .unset, .unset, .unset] [(.int p5), (.int (4 : Int32)), (.ref b1), (.ref b1)])) rfl (by rw [hml]; rfl) (argsL := [(.int p5)]) (rest := [(.int (4 : Int32)), (.ref b1), (.ref b1)]) (lenOf pd_0_0 rfl) rfl (by show 2 * 0 + _ ≤ _; exact Nat.le_of_eq rfl) (hb hby at_35) (fun _ _ => ⟨rfl, e13, (by decide : 1 + 0 ≤ _), (by decide : 5 + 0 ≤ _)⟩)
  dsimp only [Pt.U, Pt.locs, Pt.cells, Pt.slots] at X14 l14 y14 z14 st14 hQ14
  subst l14 y14 z14
  obtain ⟨rfl, N14q, e14⟩ := hQ14
  have N14 := Fr.app N13 N14q
  obtain ⟨cl16, Ar16, aq16, S16, M16, H16, G16⟩ := id V13
  have hin16 : ¬ ((4 : Int32) < 0 ∨ cl16.slots.size ≤ ((4 : Int32)).toNatClampNeg) := inb_of S16 ⟨by decide, by decide⟩
  obtain ⟨T16, h16, X16, e16, W16, st16⟩ := stI X14 hx hZ e14 Ar16 (j := (4 : Int32)) hin16 (g := (mkF m 38 #[.val (.int p1), .val (.int p2), .val (.int p3), .val (.int p4), .val (.int p5), .val (.int p6), .unset, .unset, .unset, .unset, .unset, .unset, .unset] [(.int (F1 p5)), (.int (4 : Int32)), (.ref b1), (.ref b1)])) rfl rfl (hb hby at_38)
  have V16 : Arv Z h16 b1 k1 .int (5 : Int32) [(.int (F1 p1)), (.int (F1 p2)), (.int (F1 p3)), (.int (F1 p4)), (.int (F1 p5))] (.int (0 : Int32)) := Arv.set Ar16 aq16 S16 M16 H16 G16 rfl W16 4 rfl (Nat.le_of_ble_eq_true rfl)
  have N16 := Fr.snoc X16 N14 g_b1
  have pre17 : ∀ t, Steps p.tables e below (T16.setTop (mkF m 41 #[.val (.int p1), .val (.int p2), .val (.int p3), .val (.int p4), .val (.int p5), .val (.int p6), .val (.ref b1), .unset, .unset, .unset, .unset, .unset, .unset] [])) t → Steps p.tables e below (s₁.setTop (entryFrame m #[(.int p1), (.int p2), (.int p3), (.int p4), (.int p5), (.int p6)] maxLocals)) t := fun t kt => by
    refine pre0 t ?_
    show Steps p.tables e below (s₁.setTop (mkF m 0 #[.val (.int p1), .val (.int p2), .val (.int p3), .val (.int p4), .val (.int p5), .val (.int p6), .unset, .unset, .unset, .unset, .unset, .unset, .unset] [])) _
    refine XS.iconst X0.here hx rfl (hb hby at_0) ?_
    show Steps p.tables e below (s₁.setTop (mkF m 1 #[.val (.int p1), .val (.int p2), .val (.int p3), .val (.int p4), .val (.int p5), .val (.int p6), .unset, .unset, .unset, .unset, .unset, .unset, .unset] [(.int (5 : Int32))])) _
    refine st1 _ ?_
    show Steps p.tables e below (T1.setTop (mkF m 3 #[.val (.int p1), .val (.int p2), .val (.int p3), .val (.int p4), .val (.int p5), .val (.int p6), .unset, .unset, .unset, .unset, .unset, .unset, .unset] [(.ref b1)])) _
    refine XS.dup X1.here hx rfl (hb hby at_3) rfl rfl ?_
    show Steps p.tables e below (T1.setTop (mkF m 4 #[.val (.int p1), .val (.int p2), .val (.int p3), .val (.int p4), .val (.int p5), .val (.int p6), .unset, .unset, .unset, .unset, .unset, .unset, .unset] [(.ref b1), (.ref b1)])) _
    refine XS.iconst X1.here hx rfl (hb hby at_4) ?_
    show Steps p.tables e below (T1.setTop (mkF m 5 #[.val (.int p1), .val (.int p2), .val (.int p3), .val (.int p4), .val (.int p5), .val (.int p6), .unset, .unset, .unset, .unset, .unset, .unset, .unset] [(.int (0 : Int32)), (.ref b1), (.ref b1)])) _
    refine XS.iloadN X1.here hx rfl (hb hby at_5) rfl ?_
    show Steps p.tables e below (T1.setTop (mkF m 6 #[.val (.int p1), .val (.int p2), .val (.int p3), .val (.int p4), .val (.int p5), .val (.int p6), .unset, .unset, .unset, .unset, .unset, .unset, .unset] [(.int p1), (.int (0 : Int32)), (.ref b1), (.ref b1)])) _
    refine st2 _ ?_
    show Steps p.tables e below (T2.setTop (mkF m 9 #[.val (.int p1), .val (.int p2), .val (.int p3), .val (.int p4), .val (.int p5), .val (.int p6), .unset, .unset, .unset, .unset, .unset, .unset, .unset] [(.int (F1 p1)), (.int (0 : Int32)), (.ref b1), (.ref b1)])) _
    refine st4 _ ?_
    show Steps p.tables e below (T4.setTop (mkF m 10 #[.val (.int p1), .val (.int p2), .val (.int p3), .val (.int p4), .val (.int p5), .val (.int p6), .unset, .unset, .unset, .unset, .unset, .unset, .unset] [(.ref b1)])) _
    refine XS.dup X4.here hx rfl (hb hby at_10) rfl rfl ?_
    show Steps p.tables e below (T4.setTop (mkF m 11 #[.val (.int p1), .val (.int p2), .val (.int p3), .val (.int p4), .val (.int p5), .val (.int p6), .unset, .unset, .unset, .unset, .unset, .unset, .unset] [(.ref b1), (.ref b1)])) _
    refine XS.iconst X4.here hx rfl (hb hby at_11) ?_
    show Steps p.tables e below (T4.setTop (mkF m 12 #[.val (.int p1), .val (.int p2), .val (.int p3), .val (.int p4), .val (.int p5), .val (.int p6), .unset, .unset, .unset, .unset, .unset, .unset, .unset] [(.int (1 : Int32)), (.ref b1), (.ref b1)])) _
    refine XS.iloadN X4.here hx rfl (hb hby at_12) rfl ?_
    show Steps p.tables e below (T4.setTop (mkF m 13 #[.val (.int p1), .val (.int p2), .val (.int p3), .val (.int p4), .val (.int p5), .val (.int p6), .unset, .unset, .unset, .unset, .unset, .unset, .unset] [(.int p2), (.int (1 : Int32)), (.ref b1), (.ref b1)])) _
    refine st5 _ ?_
    show Steps p.tables e below (T5.setTop (mkF m 16 #[.val (.int p1), .val (.int p2), .val (.int p3), .val (.int p4), .val (.int p5), .val (.int p6), .unset, .unset, .unset, .unset, .unset, .unset, .unset] [(.int (F1 p2)), (.int (1 : Int32)), (.ref b1), (.ref b1)])) _
    refine st7 _ ?_
    show Steps p.tables e below (T7.setTop (mkF m 17 #[.val (.int p1), .val (.int p2), .val (.int p3), .val (.int p4), .val (.int p5), .val (.int p6), .unset, .unset, .unset, .unset, .unset, .unset, .unset] [(.ref b1)])) _
    refine XS.dup X7.here hx rfl (hb hby at_17) rfl rfl ?_
    show Steps p.tables e below (T7.setTop (mkF m 18 #[.val (.int p1), .val (.int p2), .val (.int p3), .val (.int p4), .val (.int p5), .val (.int p6), .unset, .unset, .unset, .unset, .unset, .unset, .unset] [(.ref b1), (.ref b1)])) _
    refine XS.iconst X7.here hx rfl (hb hby at_18) ?_
    show Steps p.tables e below (T7.setTop (mkF m 19 #[.val (.int p1), .val (.int p2), .val (.int p3), .val (.int p4), .val (.int p5), .val (.int p6), .unset, .unset, .unset, .unset, .unset, .unset, .unset] [(.int (2 : Int32)), (.ref b1), (.ref b1)])) _
    refine XS.iloadN X7.here hx rfl (hb hby at_19) rfl ?_
    show Steps p.tables e below (T7.setTop (mkF m 20 #[.val (.int p1), .val (.int p2), .val (.int p3), .val (.int p4), .val (.int p5), .val (.int p6), .unset, .unset, .unset, .unset, .unset, .unset, .unset] [(.int p3), (.int (2 : Int32)), (.ref b1), (.ref b1)])) _
    refine st8 _ ?_
    show Steps p.tables e below (T8.setTop (mkF m 23 #[.val (.int p1), .val (.int p2), .val (.int p3), .val (.int p4), .val (.int p5), .val (.int p6), .unset, .unset, .unset, .unset, .unset, .unset, .unset] [(.int (F1 p3)), (.int (2 : Int32)), (.ref b1), (.ref b1)])) _
    refine st10 _ ?_
    show Steps p.tables e below (T10.setTop (mkF m 24 #[.val (.int p1), .val (.int p2), .val (.int p3), .val (.int p4), .val (.int p5), .val (.int p6), .unset, .unset, .unset, .unset, .unset, .unset, .unset] [(.ref b1)])) _
    refine XS.dup X10.here hx rfl (hb hby at_24) rfl rfl ?_
    show Steps p.tables e below (T10.setTop (mkF m 25 #[.val (.int p1), .val (.int p2), .val (.int p3), .val (.int p4), .val (.int p5), .val (.int p6), .unset, .unset, .unset, .unset, .unset, .unset, .unset] [(.ref b1), (.ref b1)])) _
    refine XS.iconst X10.here hx rfl (hb hby at_25) ?_
    show Steps p.tables e below (T10.setTop (mkF m 26 #[.val (.int p1), .val (.int p2), .val (.int p3), .val (.int p4), .val (.int p5), .val (.int p6), .unset, .unset, .unset, .unset, .unset, .unset, .unset] [(.int (3 : Int32)), (.ref b1), (.ref b1)])) _
    refine XS.iloadN X10.here hx rfl (hb hby at_26) rfl ?_
    show Steps p.tables e below (T10.setTop (mkF m 27 #[.val (.int p1), .val (.int p2), .val (.int p3), .val (.int p4), .val (.int p5), .val (.int p6), .unset, .unset, .unset, .unset, .unset, .unset, .unset] [(.int p4), (.int (3 : Int32)), (.ref b1), (.ref b1)])) _
    refine st11 _ ?_
    show Steps p.tables e below (T11.setTop (mkF m 30 #[.val (.int p1), .val (.int p2), .val (.int p3), .val (.int p4), .val (.int p5), .val (.int p6), .unset, .unset, .unset, .unset, .unset, .unset, .unset] [(.int (F1 p4)), (.int (3 : Int32)), (.ref b1), (.ref b1)])) _
    refine st13 _ ?_
    show Steps p.tables e below (T13.setTop (mkF m 31 #[.val (.int p1), .val (.int p2), .val (.int p3), .val (.int p4), .val (.int p5), .val (.int p6), .unset, .unset, .unset, .unset, .unset, .unset, .unset] [(.ref b1)])) _
    refine XS.dup X13.here hx rfl (hb hby at_31) rfl rfl ?_
    show Steps p.tables e below (T13.setTop (mkF m 32 #[.val (.int p1), .val (.int p2), .val (.int p3), .val (.int p4), .val (.int p5), .val (.int p6), .unset, .unset, .unset, .unset, .unset, .unset, .unset] [(.ref b1), (.ref b1)])) _
    refine XS.iconst X13.here hx rfl (hb hby at_32) ?_
    show Steps p.tables e below (T13.setTop (mkF m 33 #[.val (.int p1), .val (.int p2), .val (.int p3), .val (.int p4), .val (.int p5), .val (.int p6), .unset, .unset, .unset, .unset, .unset, .unset, .unset] [(.int (4 : Int32)), (.ref b1), (.ref b1)])) _
    refine XS.iload X13.here hx rfl (hb hby at_33) rfl ?_
    show Steps p.tables e below (T13.setTop (mkF m 35 #[.val (.int p1), .val (.int p2), .val (.int p3), .val (.int p4), .val (.int p5), .val (.int p6), .unset, .unset, .unset, .unset, .unset, .unset, .unset] [(.int p5), (.int (4 : Int32)), (.ref b1), (.ref b1)])) _
    refine st14 _ ?_
    show Steps p.tables e below (T14.setTop (mkF m 38 #[.val (.int p1), .val (.int p2), .val (.int p3), .val (.int p4), .val (.int p5), .val (.int p6), .unset, .unset, .unset, .unset, .unset, .unset, .unset] [(.int (F1 p5)), (.int (4 : Int32)), (.ref b1), (.ref b1)])) _
    refine st16 _ ?_
    show Steps p.tables e below (T16.setTop (mkF m 39 #[.val (.int p1), .val (.int p2), .val (.int p3), .val (.int p4), .val (.int p5), .val (.int p6), .unset, .unset, .unset, .unset, .unset, .unset, .unset] [(.ref b1)])) _
    refine XS.astore X16.here hx rfl (hb hby at_39) rfl rfl (l' := #[.val (.int p1), .val (.int p2), .val (.int p3), .val (.int p4), .val (.int p5), .val (.int p6), .val (.ref b1), .unset, .unset, .unset, .unset, .unset, .unset]) rfl ?_
    exact kt
  obtain ⟨c0, hc0⟩ : ∃ z : Int32, z = (F1 p1) := ⟨_, rfl⟩
  obtain ⟨c1, hc1⟩ : ∃ z : Int32, z = (F1 p2) := ⟨_, rfl⟩
  obtain ⟨c2, hc2⟩ : ∃ z : Int32, z = (F1 p3) := ⟨_, rfl⟩
  obtain ⟨c3, hc3⟩ : ∃ z : Int32, z = (F1 p4) := ⟨_, rfl⟩
  obtain ⟨c4, hc4⟩ : ∃ z : Int32, z = (F1 p5) := ⟨_, rfl⟩
  have Vc : Arv Z h16 b1 k1 .int (5 : Int32) [(.int c0), (.int c1), (.int c2), (.int c3), (.int c4)] (.int (0 : Int32)) := by rw [hc0, hc1, hc2, hc3, hc4]; exact V16
  have hC : own_C c0 c1 c2 c3 c4 := ⟨by rw [hc0]; exact own_F1 p1, by rw [hc1]; exact own_F1 p2, by rw [hc2]; exact own_F1 p3, by rw [hc3]; exact own_F1 p4, by rw [hc4]; exact own_F1 p5⟩
  have z18 : n0 ≤ h16.size := (Nat.le_trans z15 (Keep.of_wr W16).1)
  obtain ⟨Lc19, Xc19, Nc19⟩ : ∃ L, Stand p l e room_1 s m #[(.int p1), (.int p2), (.int p3), (.int p4), (.int p5), (.int p6)] below meth c T16 L 1 5 ∧ Fr n0 L := ⟨_, X16, N16⟩
  clear g1 X1 e1 E1 A1 st1 V1 z3 X2 st2 N2q e2 N2 Ar4 aq4 S4 M4 H4 G4 hin4 X4 e4 W4 st4 V4 N4 z6 X5 st5 N5q e5 N5 Ar7 aq7 S7 M7 H7 G7 hin7 X7 e7 W7 st7 V7 N7 z9 X8 st8 N8q e8 N8 Ar10 aq10 S10 M10 H10 G10 hin10 X10 e10 W10 st10 V10 N10 z12 X11 st11 N11q e11 N11 Ar13 aq13 S13 M13 H13 G13 hin13 X13 e13 W13 st13 V13 N13 z15 X14 st14 N14q e14 N14 Ar16 aq16 S16 M16 H16 G16 hin16 X16 W16 st16 V16 N16 hc0 hc1 hc2 hc3 hc4
  try clear cl16
  try clear Lc14
  try clear L14
  try clear T14
  try clear h13
  try clear T13
  try clear cl13
  try clear Lc11
  try clear L11
  try clear T11
  try clear h10
  try clear T10
  try clear cl10
  try clear Lc8
  try clear L8
  try clear T8
  try clear h7
  try clear T7
  try clear cl7
  try clear Lc5
  try clear L5
  try clear T5
  try clear h4
  try clear T4
  try clear cl4
  try clear Lc2
  try clear L2
  try clear T2
  try clear h1
  try clear T1
  as_aux_lemma =>
    obtain ⟨b20, g20⟩ : ∃ z, z = h16.size := ⟨_, rfl⟩
    obtain ⟨T20, h20, k20, X20, e20, E20, A20, st20⟩ := newP Xc19 hx hZ (hw _ (List.mem_of_getElem? (i := 0) rfl)) e16 (g := (mkF m 42 #[.val (.int p1), .val (.int p2), .val (.int p3), .val (.int p4), .val (.int p5), .val (.int p6), .val (.ref b1), .unset, .unset, .unset, .unset, .unset, .unset] [(.int (5 : Int32))])) rfl (hb hby at_42) rfl (by decide) (cap := 5) (by decide) (by decide) (by decide) (by decide)
    rw [← g20] at A20 st20
    have g_b20 : n0 ≤ b20 := Nat.le_trans z18 (Nat.le_of_eq g20.symm)
    have ne_b1_b20 : b1 ≠ b20 := Nat.ne_of_lt (Nat.lt_of_lt_of_le Vc.lt (Nat.le_of_eq g20.symm))
    have V20 : Arv Z h20 b20 k20 .int (5 : Int32) [(.int (0 : Int32)), (.int (0 : Int32)), (.int (0 : Int32)), (.int (0 : Int32)), (.int (0 : Int32))] (.int (0 : Int32)) := (Arv.new A20 (by decide)).pad (pad_rep [] (.int (0 : Int32)) 5)
    have fq21 := (Vc.ext E20)
    obtain ⟨cl22, Ar22, aq22, S22, M22, H22, G22⟩ := id fq21
    have hin22 : ¬ ((0 : Int32) < 0 ∨ cl22.slots.size ≤ ((0 : Int32)).toNatClampNeg) := inb_of S22 ⟨by decide, by decide⟩
    have hat22 : cl22.slots[((0 : Int32)).toNatClampNeg]? = some (.int c0) := Has.at H22 hin22 rfl
    obtain ⟨cl23, Ar23, aq23, S23, M23, H23, G23⟩ := id V20
    have hin23 : ¬ (c0 < 0 ∨ cl23.slots.size ≤ (c0).toNatClampNeg) := inb_of S23 (side_0_53 p1 p2 p3 p4 p5 p6 c0 c1 c2 c3 c4 hC)
    have hat23 : cl23.slots[(c0).toNatClampNeg]? = some (.int (own_at own_tab_0_53 c0)) := Has.at H23 hin23 (own_getD own_tab_0_53 (c0).toNatClampNeg)
    have sd24 : ¬ (c0 < 0) ∧ c0 < (5 : Int32) := (side_0_56_24 p1 p2 p3 p4 p5 p6 c0 c1 c2 c3 c4 hC)
    have Vo24 : Arv Z h20 b20 k20 .int (5 : Int32) (([(0 : Int32), (0 : Int32), (0 : Int32), (0 : Int32), (0 : Int32)] : List Int32).map Value.int) (.int (0 : Int32)) := V20
    obtain ⟨cl24, Ar24, aq24, S24, M24, H24, G24⟩ := id V20
    obtain ⟨T24, h24, X24, e24, W24, st24⟩ := stI X20 hx hZ e20 Ar24 (j := c0) (inb_of S24 sd24) (g := (mkF m 56 #[.val (.int p1), .val (.int p2), .val (.int p3), .val (.int p4), .val (.int p5), .val (.int p6), .val (.ref b1), .val (.ref b20), .unset, .unset, .unset, .unset, .unset] [(.int ((own_at own_tab_0_53 c0) + (1 : Int32))), (.int c0), (.ref b20)])) rfl rfl (hb hby at_56)
    have hl24 : (own_L0_0 c0 c1 c2 c3 c4).length = 5 := (List.length_set ..).trans rfl
    have V24 : Arv Z h24 b20 k20 .int (5 : Int32) ((own_L0_0 c0 c1 c2 c3 c4).map Value.int) (.int (0 : Int32)) := own_setL Vo24 rfl W24 sd24
    have N24 := Fr.snoc X24 Nc19 g_b20
    have fq25 := (fq21.other W24 ne_b1_b20)
    obtain ⟨cl26, Ar26, aq26, S26, M26, H26, G26⟩ := id fq25
    have hin26 : ¬ ((1 : Int32) < 0 ∨ cl26.slots.size ≤ ((1 : Int32)).toNatClampNeg) := inb_of S26 ⟨by decide, by decide⟩
    have hat26 : cl26.slots[((1 : Int32)).toNatClampNeg]? = some (.int c1) := Has.at H26 hin26 rfl
    obtain ⟨cl27, Ar27, aq27, S27, M27, H27, G27⟩ := id V24
    have hin27 : ¬ (c1 < 0 ∨ cl27.slots.size ≤ (c1).toNatClampNeg) := inb_of S27 (side_0_64_27 p1 p2 p3 p4 p5 p6 c0 c1 c2 c3 c4 hC)
    have hat27 : cl27.slots[(c1).toNatClampNeg]? = some (.int (own_at (own_L0_0 c0 c1 c2 c3 c4) c1)) := Has.at H27 hin27 (own_getD (own_L0_0 c0 c1 c2 c3 c4) (c1).toNatClampNeg)
    have sd28 : ¬ (c1 < 0) ∧ c1 < (5 : Int32) := (side_0_67_28 p1 p2 p3 p4 p5 p6 c0 c1 c2 c3 c4 hC)
    have Vo28 : Arv Z h24 b20 k20 .int (5 : Int32) ((own_L0_0 c0 c1 c2 c3 c4).map Value.int) (.int (0 : Int32)) := V24
    obtain ⟨cl28, Ar28, aq28, S28, M28, H28, G28⟩ := id V24
    obtain ⟨T28, h28, X28, e28, W28, st28⟩ := stI X24 hx hZ e24 Ar28 (j := c1) (inb_of S28 sd28) (g := (mkF m 67 #[.val (.int p1), .val (.int p2), .val (.int p3), .val (.int p4), .val (.int p5), .val (.int p6), .val (.ref b1), .val (.ref b20), .unset, .unset, .unset, .unset, .unset] [(.int ((own_at (own_L0_0 c0 c1 c2 c3 c4) c1) + (1 : Int32))), (.int c1), (.ref b20)])) rfl rfl (hb hby at_67)
    have hl28 : (own_L0_1 c0 c1 c2 c3 c4).length = 5 := (List.length_set ..).trans hl24
    have V28 : Arv Z h28 b20 k20 .int (5 : Int32) ((own_L0_1 c0 c1 c2 c3 c4).map Value.int) (.int (0 : Int32)) := own_setL Vo28 hl24 W28 sd28
    have N28 := Fr.snoc X28 N24 g_b20
    have fq29 := (fq25.other W28 ne_b1_b20)
    obtain ⟨cl30, Ar30, aq30, S30, M30, H30, G30⟩ := id fq29
    have hin30 : ¬ ((2 : Int32) < 0 ∨ cl30.slots.size ≤ ((2 : Int32)).toNatClampNeg) := inb_of S30 ⟨by decide, by decide⟩
    have hat30 : cl30.slots[((2 : Int32)).toNatClampNeg]? = some (.int c2) := Has.at H30 hin30 rfl
    obtain ⟨cl31, Ar31, aq31, S31, M31, H31, G31⟩ := id V28
    have hin31 : ¬ (c2 < 0 ∨ cl31.slots.size ≤ (c2).toNatClampNeg) := inb_of S31 (side_0_75_31 p1 p2 p3 p4 p5 p6 c0 c1 c2 c3 c4 hC)
    have hat31 : cl31.slots[(c2).toNatClampNeg]? = some (.int (own_at (own_L0_1 c0 c1 c2 c3 c4) c2)) := Has.at H31 hin31 (own_getD (own_L0_1 c0 c1 c2 c3 c4) (c2).toNatClampNeg)
    have sd32 : ¬ (c2 < 0) ∧ c2 < (5 : Int32) := (side_0_78_32 p1 p2 p3 p4 p5 p6 c0 c1 c2 c3 c4 hC)
    have Vo32 : Arv Z h28 b20 k20 .int (5 : Int32) ((own_L0_1 c0 c1 c2 c3 c4).map Value.int) (.int (0 : Int32)) := V28
    obtain ⟨cl32, Ar32, aq32, S32, M32, H32, G32⟩ := id V28
    obtain ⟨T32, h32, X32, e32, W32, st32⟩ := stI X28 hx hZ e28 Ar32 (j := c2) (inb_of S32 sd32) (g := (mkF m 78 #[.val (.int p1), .val (.int p2), .val (.int p3), .val (.int p4), .val (.int p5), .val (.int p6), .val (.ref b1), .val (.ref b20), .unset, .unset, .unset, .unset, .unset] [(.int ((own_at (own_L0_1 c0 c1 c2 c3 c4) c2) + (1 : Int32))), (.int c2), (.ref b20)])) rfl rfl (hb hby at_78)
    have hl32 : (own_L0_2 c0 c1 c2 c3 c4).length = 5 := (List.length_set ..).trans hl28
    have V32 : Arv Z h32 b20 k20 .int (5 : Int32) ((own_L0_2 c0 c1 c2 c3 c4).map Value.int) (.int (0 : Int32)) := own_setL Vo32 hl28 W32 sd32
    have N32 := Fr.snoc X32 N28 g_b20
    have fq33 := (fq29.other W32 ne_b1_b20)
    obtain ⟨cl34, Ar34, aq34, S34, M34, H34, G34⟩ := id fq33
    have hin34 : ¬ ((3 : Int32) < 0 ∨ cl34.slots.size ≤ ((3 : Int32)).toNatClampNeg) := inb_of S34 ⟨by decide, by decide⟩
    have hat34 : cl34.slots[((3 : Int32)).toNatClampNeg]? = some (.int c3) := Has.at H34 hin34 rfl
    obtain ⟨cl35, Ar35, aq35, S35, M35, H35, G35⟩ := id V32
    have hin35 : ¬ (c3 < 0 ∨ cl35.slots.size ≤ (c3).toNatClampNeg) := inb_of S35 (side_0_86_35 p1 p2 p3 p4 p5 p6 c0 c1 c2 c3 c4 hC)
    have hat35 : cl35.slots[(c3).toNatClampNeg]? = some (.int (own_at (own_L0_2 c0 c1 c2 c3 c4) c3)) := Has.at H35 hin35 (own_getD (own_L0_2 c0 c1 c2 c3 c4) (c3).toNatClampNeg)
    have sd36 : ¬ (c3 < 0) ∧ c3 < (5 : Int32) := (side_0_89_36 p1 p2 p3 p4 p5 p6 c0 c1 c2 c3 c4 hC)
    have Vo36 : Arv Z h32 b20 k20 .int (5 : Int32) ((own_L0_2 c0 c1 c2 c3 c4).map Value.int) (.int (0 : Int32)) := V32
    obtain ⟨cl36, Ar36, aq36, S36, M36, H36, G36⟩ := id V32
    obtain ⟨T36, h36, X36, e36, W36, st36⟩ := stI X32 hx hZ e32 Ar36 (j := c3) (inb_of S36 sd36) (g := (mkF m 89 #[.val (.int p1), .val (.int p2), .val (.int p3), .val (.int p4), .val (.int p5), .val (.int p6), .val (.ref b1), .val (.ref b20), .unset, .unset, .unset, .unset, .unset] [(.int ((own_at (own_L0_2 c0 c1 c2 c3 c4) c3) + (1 : Int32))), (.int c3), (.ref b20)])) rfl rfl (hb hby at_89)
    have hl36 : (own_L0_3 c0 c1 c2 c3 c4).length = 5 := (List.length_set ..).trans hl32
    have V36 : Arv Z h36 b20 k20 .int (5 : Int32) ((own_L0_3 c0 c1 c2 c3 c4).map Value.int) (.int (0 : Int32)) := own_setL Vo36 hl32 W36 sd36
    have N36 := Fr.snoc X36 N32 g_b20
    have fq37 := (fq33.other W36 ne_b1_b20)
    obtain ⟨cl38, Ar38, aq38, S38, M38, H38, G38⟩ := id fq37
    have hin38 : ¬ ((4 : Int32) < 0 ∨ cl38.slots.size ≤ ((4 : Int32)).toNatClampNeg) := inb_of S38 ⟨by decide, by decide⟩
    have hat38 : cl38.slots[((4 : Int32)).toNatClampNeg]? = some (.int c4) := Has.at H38 hin38 rfl
    obtain ⟨cl39, Ar39, aq39, S39, M39, H39, G39⟩ := id V36
    have hin39 : ¬ (c4 < 0 ∨ cl39.slots.size ≤ (c4).toNatClampNeg) := inb_of S39 (side_0_97_39 p1 p2 p3 p4 p5 p6 c0 c1 c2 c3 c4 hC)
    have hat39 : cl39.slots[(c4).toNatClampNeg]? = some (.int (own_at (own_L0_3 c0 c1 c2 c3 c4) c4)) := Has.at H39 hin39 (own_getD (own_L0_3 c0 c1 c2 c3 c4) (c4).toNatClampNeg)
    have sd40 : ¬ (c4 < 0) ∧ c4 < (5 : Int32) := (side_0_100_40 p1 p2 p3 p4 p5 p6 c0 c1 c2 c3 c4 hC)
    have Vo40 : Arv Z h36 b20 k20 .int (5 : Int32) ((own_L0_3 c0 c1 c2 c3 c4).map Value.int) (.int (0 : Int32)) := V36
    obtain ⟨cl40, Ar40, aq40, S40, M40, H40, G40⟩ := id V36
    obtain ⟨T40, h40, X40, e40, W40, st40⟩ := stI X36 hx hZ e36 Ar40 (j := c4) (inb_of S40 sd40) (g := (mkF m 100 #[.val (.int p1), .val (.int p2), .val (.int p3), .val (.int p4), .val (.int p5), .val (.int p6), .val (.ref b1), .val (.ref b20), .unset, .unset, .unset, .unset, .unset] [(.int ((own_at (own_L0_3 c0 c1 c2 c3 c4) c4) + (1 : Int32))), (.int c4), (.ref b20)])) rfl rfl (hb hby at_100)
    have hl40 : (own_L0_4 c0 c1 c2 c3 c4).length = 5 := (List.length_set ..).trans hl36
    have V40 : Arv Z h40 b20 k20 .int (5 : Int32) ((own_L0_4 c0 c1 c2 c3 c4).map Value.int) (.int (0 : Int32)) := own_setL Vo40 hl36 W40 sd40
    have N40 := Fr.snoc X40 N36 g_b20
    have pre41 : ∀ t, Steps p.tables e below (T40.setTop (mkF m 101 #[.val (.int p1), .val (.int p2), .val (.int p3), .val (.int p4), .val (.int p5), .val (.int p6), .val (.ref b1), .val (.ref b20), .unset, .unset, .unset, .unset, .unset] [])) t → Steps p.tables e below (s₁.setTop (entryFrame m #[(.int p1), (.int p2), (.int p3), (.int p4), (.int p5), (.int p6)] maxLocals)) t := fun t kt => by
      refine pre17 t ?_
      show Steps p.tables e below (T16.setTop (mkF m 41 #[.val (.int p1), .val (.int p2), .val (.int p3), .val (.int p4), .val (.int p5), .val (.int p6), .val (.ref b1), .unset, .unset, .unset, .unset, .unset, .unset] [])) _
      refine XS.iconst Xc19.here hx rfl (hb hby at_41) ?_
      show Steps p.tables e below (T16.setTop (mkF m 42 #[.val (.int p1), .val (.int p2), .val (.int p3), .val (.int p4), .val (.int p5), .val (.int p6), .val (.ref b1), .unset, .unset, .unset, .unset, .unset, .unset] [(.int (5 : Int32))])) _
      refine st20 _ ?_
      show Steps p.tables e below (T20.setTop (mkF m 44 #[.val (.int p1), .val (.int p2), .val (.int p3), .val (.int p4), .val (.int p5), .val (.int p6), .val (.ref b1), .unset, .unset, .unset, .unset, .unset, .unset] [(.ref b20)])) _
      refine XS.astore X20.here hx rfl (hb hby at_44) rfl rfl (l' := #[.val (.int p1), .val (.int p2), .val (.int p3), .val (.int p4), .val (.int p5), .val (.int p6), .val (.ref b1), .val (.ref b20), .unset, .unset, .unset, .unset, .unset]) rfl ?_
      show Steps p.tables e below (T20.setTop (mkF m 46 #[.val (.int p1), .val (.int p2), .val (.int p3), .val (.int p4), .val (.int p5), .val (.int p6), .val (.ref b1), .val (.ref b20), .unset, .unset, .unset, .unset, .unset] [])) _
      refine XS.aload X20.here hx rfl (hb hby at_46) rfl rfl ?_
      show Steps p.tables e below (T20.setTop (mkF m 48 #[.val (.int p1), .val (.int p2), .val (.int p3), .val (.int p4), .val (.int p5), .val (.int p6), .val (.ref b1), .val (.ref b20), .unset, .unset, .unset, .unset, .unset] [(.ref b20)])) _
      refine XS.aload X20.here hx rfl (hb hby at_48) rfl rfl ?_
      show Steps p.tables e below (T20.setTop (mkF m 50 #[.val (.int p1), .val (.int p2), .val (.int p3), .val (.int p4), .val (.int p5), .val (.int p6), .val (.ref b1), .val (.ref b20), .unset, .unset, .unset, .unset, .unset] [(.ref b1), (.ref b20)])) _
      refine XS.iconst X20.here hx rfl (hb hby at_50) ?_
      show Steps p.tables e below (T20.setTop (mkF m 51 #[.val (.int p1), .val (.int p2), .val (.int p3), .val (.int p4), .val (.int p5), .val (.int p6), .val (.ref b1), .val (.ref b20), .unset, .unset, .unset, .unset, .unset] [(.int (0 : Int32)), (.ref b1), (.ref b20)])) _
      refine X20.iaload hx (j := (0 : Int32)) (v := (.int c0)) (by rw [e20]; exact Ar22.1) (State.isArrayOf_alike hZ.alike Ar22.2.1) Ar22.2.2 hin22 hat22 (g := (mkF m 51 #[.val (.int p1), .val (.int p2), .val (.int p3), .val (.int p4), .val (.int p5), .val (.int p6), .val (.ref b1), .val (.ref b20), .unset, .unset, .unset, .unset, .unset] [(.int (0 : Int32)), (.ref b1), (.ref b20)])) rfl rfl (hb hby at_51) _ ?_
      show Steps p.tables e below (T20.setTop (mkF m 52 #[.val (.int p1), .val (.int p2), .val (.int p3), .val (.int p4), .val (.int p5), .val (.int p6), .val (.ref b1), .val (.ref b20), .unset, .unset, .unset, .unset, .unset] [(.int c0), (.ref b20)])) _
      refine XT.dup2 X20.here hx rfl (hb hby at_52) rfl rfl rfl ?_
      show Steps p.tables e below (T20.setTop (mkF m 53 #[.val (.int p1), .val (.int p2), .val (.int p3), .val (.int p4), .val (.int p5), .val (.int p6), .val (.ref b1), .val (.ref b20), .unset, .unset, .unset, .unset, .unset] [(.int c0), (.ref b20), (.int c0), (.ref b20)])) _
      refine X20.iaload hx (j := c0) (v := (.int (own_at own_tab_0_53 c0))) (by rw [e20]; exact Ar23.1) (State.isArrayOf_alike hZ.alike Ar23.2.1) Ar23.2.2 hin23 hat23 (g := (mkF m 53 #[.val (.int p1), .val (.int p2), .val (.int p3), .val (.int p4), .val (.int p5), .val (.int p6), .val (.ref b1), .val (.ref b20), .unset, .unset, .unset, .unset, .unset] [(.int c0), (.ref b20), (.int c0), (.ref b20)])) rfl rfl (hb hby at_53) _ ?_
      show Steps p.tables e below (T20.setTop (mkF m 54 #[.val (.int p1), .val (.int p2), .val (.int p3), .val (.int p4), .val (.int p5), .val (.int p6), .val (.ref b1), .val (.ref b20), .unset, .unset, .unset, .unset, .unset] [(.int (own_at own_tab_0_53 c0)), (.int c0), (.ref b20)])) _
      refine XS.iconst X20.here hx rfl (hb hby at_54) ?_
      show Steps p.tables e below (T20.setTop (mkF m 55 #[.val (.int p1), .val (.int p2), .val (.int p3), .val (.int p4), .val (.int p5), .val (.int p6), .val (.ref b1), .val (.ref b20), .unset, .unset, .unset, .unset, .unset] [(.int (1 : Int32)), (.int (own_at own_tab_0_53 c0)), (.int c0), (.ref b20)])) _
      refine XS.iadd X20.here hx rfl (hb hby at_55) rfl ?_
      show Steps p.tables e below (T20.setTop (mkF m 56 #[.val (.int p1), .val (.int p2), .val (.int p3), .val (.int p4), .val (.int p5), .val (.int p6), .val (.ref b1), .val (.ref b20), .unset, .unset, .unset, .unset, .unset] [(.int ((own_at own_tab_0_53 c0) + (1 : Int32))), (.int c0), (.ref b20)])) _
      refine st24 _ ?_
      show Steps p.tables e below (T24.setTop (mkF m 57 #[.val (.int p1), .val (.int p2), .val (.int p3), .val (.int p4), .val (.int p5), .val (.int p6), .val (.ref b1), .val (.ref b20), .unset, .unset, .unset, .unset, .unset] [])) _
      refine XS.aload X24.here hx rfl (hb hby at_57) rfl rfl ?_
      show Steps p.tables e below (T24.setTop (mkF m 59 #[.val (.int p1), .val (.int p2), .val (.int p3), .val (.int p4), .val (.int p5), .val (.int p6), .val (.ref b1), .val (.ref b20), .unset, .unset, .unset, .unset, .unset] [(.ref b20)])) _
      refine XS.aload X24.here hx rfl (hb hby at_59) rfl rfl ?_
      show Steps p.tables e below (T24.setTop (mkF m 61 #[.val (.int p1), .val (.int p2), .val (.int p3), .val (.int p4), .val (.int p5), .val (.int p6), .val (.ref b1), .val (.ref b20), .unset, .unset, .unset, .unset, .unset] [(.ref b1), (.ref b20)])) _
      refine XS.iconst X24.here hx rfl (hb hby at_61) ?_
      show Steps p.tables e below (T24.setTop (mkF m 62 #[.val (.int p1), .val (.int p2), .val (.int p3), .val (.int p4), .val (.int p5), .val (.int p6), .val (.ref b1), .val (.ref b20), .unset, .unset, .unset, .unset, .unset] [(.int (1 : Int32)), (.ref b1), (.ref b20)])) _
      refine X24.iaload hx (j := (1 : Int32)) (v := (.int c1)) (by rw [e24]; exact Ar26.1) (State.isArrayOf_alike hZ.alike Ar26.2.1) Ar26.2.2 hin26 hat26 (g := (mkF m 62 #[.val (.int p1), .val (.int p2), .val (.int p3), .val (.int p4), .val (.int p5), .val (.int p6), .val (.ref b1), .val (.ref b20), .unset, .unset, .unset, .unset, .unset] [(.int (1 : Int32)), (.ref b1), (.ref b20)])) rfl rfl (hb hby at_62) _ ?_
      show Steps p.tables e below (T24.setTop (mkF m 63 #[.val (.int p1), .val (.int p2), .val (.int p3), .val (.int p4), .val (.int p5), .val (.int p6), .val (.ref b1), .val (.ref b20), .unset, .unset, .unset, .unset, .unset] [(.int c1), (.ref b20)])) _
      refine XT.dup2 X24.here hx rfl (hb hby at_63) rfl rfl rfl ?_
      show Steps p.tables e below (T24.setTop (mkF m 64 #[.val (.int p1), .val (.int p2), .val (.int p3), .val (.int p4), .val (.int p5), .val (.int p6), .val (.ref b1), .val (.ref b20), .unset, .unset, .unset, .unset, .unset] [(.int c1), (.ref b20), (.int c1), (.ref b20)])) _
      refine X24.iaload hx (j := c1) (v := (.int (own_at (own_L0_0 c0 c1 c2 c3 c4) c1))) (by rw [e24]; exact Ar27.1) (State.isArrayOf_alike hZ.alike Ar27.2.1) Ar27.2.2 hin27 hat27 (g := (mkF m 64 #[.val (.int p1), .val (.int p2), .val (.int p3), .val (.int p4), .val (.int p5), .val (.int p6), .val (.ref b1), .val (.ref b20), .unset, .unset, .unset, .unset, .unset] [(.int c1), (.ref b20), (.int c1), (.ref b20)])) rfl rfl (hb hby at_64) _ ?_
      show Steps p.tables e below (T24.setTop (mkF m 65 #[.val (.int p1), .val (.int p2), .val (.int p3), .val (.int p4), .val (.int p5), .val (.int p6), .val (.ref b1), .val (.ref b20), .unset, .unset, .unset, .unset, .unset] [(.int (own_at (own_L0_0 c0 c1 c2 c3 c4) c1)), (.int c1), (.ref b20)])) _
      refine XS.iconst X24.here hx rfl (hb hby at_65) ?_
      show Steps p.tables e below (T24.setTop (mkF m 66 #[.val (.int p1), .val (.int p2), .val (.int p3), .val (.int p4), .val (.int p5), .val (.int p6), .val (.ref b1), .val (.ref b20), .unset, .unset, .unset, .unset, .unset] [(.int (1 : Int32)), (.int (own_at (own_L0_0 c0 c1 c2 c3 c4) c1)), (.int c1), (.ref b20)])) _
      refine XS.iadd X24.here hx rfl (hb hby at_66) rfl ?_
      show Steps p.tables e below (T24.setTop (mkF m 67 #[.val (.int p1), .val (.int p2), .val (.int p3), .val (.int p4), .val (.int p5), .val (.int p6), .val (.ref b1), .val (.ref b20), .unset, .unset, .unset, .unset, .unset] [(.int ((own_at (own_L0_0 c0 c1 c2 c3 c4) c1) + (1 : Int32))), (.int c1), (.ref b20)])) _
      refine st28 _ ?_
      show Steps p.tables e below (T28.setTop (mkF m 68 #[.val (.int p1), .val (.int p2), .val (.int p3), .val (.int p4), .val (.int p5), .val (.int p6), .val (.ref b1), .val (.ref b20), .unset, .unset, .unset, .unset, .unset] [])) _
      refine XS.aload X28.here hx rfl (hb hby at_68) rfl rfl ?_
      show Steps p.tables e below (T28.setTop (mkF m 70 #[.val (.int p1), .val (.int p2), .val (.int p3), .val (.int p4), .val (.int p5), .val (.int p6), .val (.ref b1), .val (.ref b20), .unset, .unset, .unset, .unset, .unset] [(.ref b20)])) _
      refine XS.aload X28.here hx rfl (hb hby at_70) rfl rfl ?_
      show Steps p.tables e below (T28.setTop (mkF m 72 #[.val (.int p1), .val (.int p2), .val (.int p3), .val (.int p4), .val (.int p5), .val (.int p6), .val (.ref b1), .val (.ref b20), .unset, .unset, .unset, .unset, .unset] [(.ref b1), (.ref b20)])) _
      refine XS.iconst X28.here hx rfl (hb hby at_72) ?_
      show Steps p.tables e below (T28.setTop (mkF m 73 #[.val (.int p1), .val (.int p2), .val (.int p3), .val (.int p4), .val (.int p5), .val (.int p6), .val (.ref b1), .val (.ref b20), .unset, .unset, .unset, .unset, .unset] [(.int (2 : Int32)), (.ref b1), (.ref b20)])) _
      refine X28.iaload hx (j := (2 : Int32)) (v := (.int c2)) (by rw [e28]; exact Ar30.1) (State.isArrayOf_alike hZ.alike Ar30.2.1) Ar30.2.2 hin30 hat30 (g := (mkF m 73 #[.val (.int p1), .val (.int p2), .val (.int p3), .val (.int p4), .val (.int p5), .val (.int p6), .val (.ref b1), .val (.ref b20), .unset, .unset, .unset, .unset, .unset] [(.int (2 : Int32)), (.ref b1), (.ref b20)])) rfl rfl (hb hby at_73) _ ?_
      show Steps p.tables e below (T28.setTop (mkF m 74 #[.val (.int p1), .val (.int p2), .val (.int p3), .val (.int p4), .val (.int p5), .val (.int p6), .val (.ref b1), .val (.ref b20), .unset, .unset, .unset, .unset, .unset] [(.int c2), (.ref b20)])) _
      refine XT.dup2 X28.here hx rfl (hb hby at_74) rfl rfl rfl ?_
      show Steps p.tables e below (T28.setTop (mkF m 75 #[.val (.int p1), .val (.int p2), .val (.int p3), .val (.int p4), .val (.int p5), .val (.int p6), .val (.ref b1), .val (.ref b20), .unset, .unset, .unset, .unset, .unset] [(.int c2), (.ref b20), (.int c2), (.ref b20)])) _
      refine X28.iaload hx (j := c2) (v := (.int (own_at (own_L0_1 c0 c1 c2 c3 c4) c2))) (by rw [e28]; exact Ar31.1) (State.isArrayOf_alike hZ.alike Ar31.2.1) Ar31.2.2 hin31 hat31 (g := (mkF m 75 #[.val (.int p1), .val (.int p2), .val (.int p3), .val (.int p4), .val (.int p5), .val (.int p6), .val (.ref b1), .val (.ref b20), .unset, .unset, .unset, .unset, .unset] [(.int c2), (.ref b20), (.int c2), (.ref b20)])) rfl rfl (hb hby at_75) _ ?_
      show Steps p.tables e below (T28.setTop (mkF m 76 #[.val (.int p1), .val (.int p2), .val (.int p3), .val (.int p4), .val (.int p5), .val (.int p6), .val (.ref b1), .val (.ref b20), .unset, .unset, .unset, .unset, .unset] [(.int (own_at (own_L0_1 c0 c1 c2 c3 c4) c2)), (.int c2), (.ref b20)])) _
      refine XS.iconst X28.here hx rfl (hb hby at_76) ?_
      show Steps p.tables e below (T28.setTop (mkF m 77 #[.val (.int p1), .val (.int p2), .val (.int p3), .val (.int p4), .val (.int p5), .val (.int p6), .val (.ref b1), .val (.ref b20), .unset, .unset, .unset, .unset, .unset] [(.int (1 : Int32)), (.int (own_at (own_L0_1 c0 c1 c2 c3 c4) c2)), (.int c2), (.ref b20)])) _
      refine XS.iadd X28.here hx rfl (hb hby at_77) rfl ?_
      show Steps p.tables e below (T28.setTop (mkF m 78 #[.val (.int p1), .val (.int p2), .val (.int p3), .val (.int p4), .val (.int p5), .val (.int p6), .val (.ref b1), .val (.ref b20), .unset, .unset, .unset, .unset, .unset] [(.int ((own_at (own_L0_1 c0 c1 c2 c3 c4) c2) + (1 : Int32))), (.int c2), (.ref b20)])) _
      refine st32 _ ?_
      show Steps p.tables e below (T32.setTop (mkF m 79 #[.val (.int p1), .val (.int p2), .val (.int p3), .val (.int p4), .val (.int p5), .val (.int p6), .val (.ref b1), .val (.ref b20), .unset, .unset, .unset, .unset, .unset] [])) _
      refine XS.aload X32.here hx rfl (hb hby at_79) rfl rfl ?_
      show Steps p.tables e below (T32.setTop (mkF m 81 #[.val (.int p1), .val (.int p2), .val (.int p3), .val (.int p4), .val (.int p5), .val (.int p6), .val (.ref b1), .val (.ref b20), .unset, .unset, .unset, .unset, .unset] [(.ref b20)])) _
      refine XS.aload X32.here hx rfl (hb hby at_81) rfl rfl ?_
      show Steps p.tables e below (T32.setTop (mkF m 83 #[.val (.int p1), .val (.int p2), .val (.int p3), .val (.int p4), .val (.int p5), .val (.int p6), .val (.ref b1), .val (.ref b20), .unset, .unset, .unset, .unset, .unset] [(.ref b1), (.ref b20)])) _
      refine XS.iconst X32.here hx rfl (hb hby at_83) ?_
      show Steps p.tables e below (T32.setTop (mkF m 84 #[.val (.int p1), .val (.int p2), .val (.int p3), .val (.int p4), .val (.int p5), .val (.int p6), .val (.ref b1), .val (.ref b20), .unset, .unset, .unset, .unset, .unset] [(.int (3 : Int32)), (.ref b1), (.ref b20)])) _
      refine X32.iaload hx (j := (3 : Int32)) (v := (.int c3)) (by rw [e32]; exact Ar34.1) (State.isArrayOf_alike hZ.alike Ar34.2.1) Ar34.2.2 hin34 hat34 (g := (mkF m 84 #[.val (.int p1), .val (.int p2), .val (.int p3), .val (.int p4), .val (.int p5), .val (.int p6), .val (.ref b1), .val (.ref b20), .unset, .unset, .unset, .unset, .unset] [(.int (3 : Int32)), (.ref b1), (.ref b20)])) rfl rfl (hb hby at_84) _ ?_
      show Steps p.tables e below (T32.setTop (mkF m 85 #[.val (.int p1), .val (.int p2), .val (.int p3), .val (.int p4), .val (.int p5), .val (.int p6), .val (.ref b1), .val (.ref b20), .unset, .unset, .unset, .unset, .unset] [(.int c3), (.ref b20)])) _
      refine XT.dup2 X32.here hx rfl (hb hby at_85) rfl rfl rfl ?_
      show Steps p.tables e below (T32.setTop (mkF m 86 #[.val (.int p1), .val (.int p2), .val (.int p3), .val (.int p4), .val (.int p5), .val (.int p6), .val (.ref b1), .val (.ref b20), .unset, .unset, .unset, .unset, .unset] [(.int c3), (.ref b20), (.int c3), (.ref b20)])) _
      refine X32.iaload hx (j := c3) (v := (.int (own_at (own_L0_2 c0 c1 c2 c3 c4) c3))) (by rw [e32]; exact Ar35.1) (State.isArrayOf_alike hZ.alike Ar35.2.1) Ar35.2.2 hin35 hat35 (g := (mkF m 86 #[.val (.int p1), .val (.int p2), .val (.int p3), .val (.int p4), .val (.int p5), .val (.int p6), .val (.ref b1), .val (.ref b20), .unset, .unset, .unset, .unset, .unset] [(.int c3), (.ref b20), (.int c3), (.ref b20)])) rfl rfl (hb hby at_86) _ ?_
      show Steps p.tables e below (T32.setTop (mkF m 87 #[.val (.int p1), .val (.int p2), .val (.int p3), .val (.int p4), .val (.int p5), .val (.int p6), .val (.ref b1), .val (.ref b20), .unset, .unset, .unset, .unset, .unset] [(.int (own_at (own_L0_2 c0 c1 c2 c3 c4) c3)), (.int c3), (.ref b20)])) _
      refine XS.iconst X32.here hx rfl (hb hby at_87) ?_
      show Steps p.tables e below (T32.setTop (mkF m 88 #[.val (.int p1), .val (.int p2), .val (.int p3), .val (.int p4), .val (.int p5), .val (.int p6), .val (.ref b1), .val (.ref b20), .unset, .unset, .unset, .unset, .unset] [(.int (1 : Int32)), (.int (own_at (own_L0_2 c0 c1 c2 c3 c4) c3)), (.int c3), (.ref b20)])) _
      refine XS.iadd X32.here hx rfl (hb hby at_88) rfl ?_
      show Steps p.tables e below (T32.setTop (mkF m 89 #[.val (.int p1), .val (.int p2), .val (.int p3), .val (.int p4), .val (.int p5), .val (.int p6), .val (.ref b1), .val (.ref b20), .unset, .unset, .unset, .unset, .unset] [(.int ((own_at (own_L0_2 c0 c1 c2 c3 c4) c3) + (1 : Int32))), (.int c3), (.ref b20)])) _
      refine st36 _ ?_
      show Steps p.tables e below (T36.setTop (mkF m 90 #[.val (.int p1), .val (.int p2), .val (.int p3), .val (.int p4), .val (.int p5), .val (.int p6), .val (.ref b1), .val (.ref b20), .unset, .unset, .unset, .unset, .unset] [])) _
      refine XS.aload X36.here hx rfl (hb hby at_90) rfl rfl ?_
      show Steps p.tables e below (T36.setTop (mkF m 92 #[.val (.int p1), .val (.int p2), .val (.int p3), .val (.int p4), .val (.int p5), .val (.int p6), .val (.ref b1), .val (.ref b20), .unset, .unset, .unset, .unset, .unset] [(.ref b20)])) _
      refine XS.aload X36.here hx rfl (hb hby at_92) rfl rfl ?_
      show Steps p.tables e below (T36.setTop (mkF m 94 #[.val (.int p1), .val (.int p2), .val (.int p3), .val (.int p4), .val (.int p5), .val (.int p6), .val (.ref b1), .val (.ref b20), .unset, .unset, .unset, .unset, .unset] [(.ref b1), (.ref b20)])) _
      refine XS.iconst X36.here hx rfl (hb hby at_94) ?_
      show Steps p.tables e below (T36.setTop (mkF m 95 #[.val (.int p1), .val (.int p2), .val (.int p3), .val (.int p4), .val (.int p5), .val (.int p6), .val (.ref b1), .val (.ref b20), .unset, .unset, .unset, .unset, .unset] [(.int (4 : Int32)), (.ref b1), (.ref b20)])) _
      refine X36.iaload hx (j := (4 : Int32)) (v := (.int c4)) (by rw [e36]; exact Ar38.1) (State.isArrayOf_alike hZ.alike Ar38.2.1) Ar38.2.2 hin38 hat38 (g := (mkF m 95 #[.val (.int p1), .val (.int p2), .val (.int p3), .val (.int p4), .val (.int p5), .val (.int p6), .val (.ref b1), .val (.ref b20), .unset, .unset, .unset, .unset, .unset] [(.int (4 : Int32)), (.ref b1), (.ref b20)])) rfl rfl (hb hby at_95) _ ?_
      show Steps p.tables e below (T36.setTop (mkF m 96 #[.val (.int p1), .val (.int p2), .val (.int p3), .val (.int p4), .val (.int p5), .val (.int p6), .val (.ref b1), .val (.ref b20), .unset, .unset, .unset, .unset, .unset] [(.int c4), (.ref b20)])) _
      refine XT.dup2 X36.here hx rfl (hb hby at_96) rfl rfl rfl ?_
      show Steps p.tables e below (T36.setTop (mkF m 97 #[.val (.int p1), .val (.int p2), .val (.int p3), .val (.int p4), .val (.int p5), .val (.int p6), .val (.ref b1), .val (.ref b20), .unset, .unset, .unset, .unset, .unset] [(.int c4), (.ref b20), (.int c4), (.ref b20)])) _
      refine X36.iaload hx (j := c4) (v := (.int (own_at (own_L0_3 c0 c1 c2 c3 c4) c4))) (by rw [e36]; exact Ar39.1) (State.isArrayOf_alike hZ.alike Ar39.2.1) Ar39.2.2 hin39 hat39 (g := (mkF m 97 #[.val (.int p1), .val (.int p2), .val (.int p3), .val (.int p4), .val (.int p5), .val (.int p6), .val (.ref b1), .val (.ref b20), .unset, .unset, .unset, .unset, .unset] [(.int c4), (.ref b20), (.int c4), (.ref b20)])) rfl rfl (hb hby at_97) _ ?_
      show Steps p.tables e below (T36.setTop (mkF m 98 #[.val (.int p1), .val (.int p2), .val (.int p3), .val (.int p4), .val (.int p5), .val (.int p6), .val (.ref b1), .val (.ref b20), .unset, .unset, .unset, .unset, .unset] [(.int (own_at (own_L0_3 c0 c1 c2 c3 c4) c4)), (.int c4), (.ref b20)])) _
      refine XS.iconst X36.here hx rfl (hb hby at_98) ?_
      show Steps p.tables e below (T36.setTop (mkF m 99 #[.val (.int p1), .val (.int p2), .val (.int p3), .val (.int p4), .val (.int p5), .val (.int p6), .val (.ref b1), .val (.ref b20), .unset, .unset, .unset, .unset, .unset] [(.int (1 : Int32)), (.int (own_at (own_L0_3 c0 c1 c2 c3 c4) c4)), (.int c4), (.ref b20)])) _
      refine XS.iadd X36.here hx rfl (hb hby at_99) rfl ?_
      show Steps p.tables e below (T36.setTop (mkF m 100 #[.val (.int p1), .val (.int p2), .val (.int p3), .val (.int p4), .val (.int p5), .val (.int p6), .val (.ref b1), .val (.ref b20), .unset, .unset, .unset, .unset, .unset] [(.int ((own_at (own_L0_3 c0 c1 c2 c3 c4) c4) + (1 : Int32))), (.int c4), (.ref b20)])) _
      refine st40 _ ?_
      exact kt
    obtain ⟨nn0, hnn0⟩ : ∃ z : Int32, z = own_at (own_L0_4 c0 c1 c2 c3 c4) (0 : Int32) := ⟨_, rfl⟩
    obtain ⟨nn1, hnn1⟩ : ∃ z : Int32, z = own_at (own_L0_4 c0 c1 c2 c3 c4) (1 : Int32) := ⟨_, rfl⟩
    obtain ⟨nn2, hnn2⟩ : ∃ z : Int32, z = own_at (own_L0_4 c0 c1 c2 c3 c4) (2 : Int32) := ⟨_, rfl⟩
    obtain ⟨nn3, hnn3⟩ : ∃ z : Int32, z = own_at (own_L0_4 c0 c1 c2 c3 c4) (3 : Int32) := ⟨_, rfl⟩
    obtain ⟨nn4, hnn4⟩ : ∃ z : Int32, z = own_at (own_L0_4 c0 c1 c2 c3 c4) (4 : Int32) := ⟨_, rfl⟩
    have Vn : Arv Z h40 b20 k20 .int (5 : Int32) [(.int nn0), (.int nn1), (.int nn2), (.int nn3), (.int nn4)] (.int (0 : Int32)) := by
      have z := V40
      rw [own_l5 hl40] at z
      rw [hnn0, hnn1, hnn2, hnn3, hnn4]
      exact z
    have fq42 := (fq37.other W40 ne_b1_b20)
    have z43 : n0 ≤ h40.size := (Nat.le_trans (Nat.le_trans (Nat.le_trans (Nat.le_trans (Nat.le_trans (Nat.le_trans z18 E20.1) (Keep.of_wr W24).1) (Keep.of_wr W28).1) (Keep.of_wr W32).1) (Keep.of_wr W36).1) (Keep.of_wr W40).1)
    obtain ⟨Lc44, Xc44, Nc44⟩ : ∃ L, Stand p l e room_1 s m #[(.int p1), (.int p2), (.int p3), (.int p4), (.int p5), (.int p6)] below meth c T40 L 2 10 ∧ Fr n0 L := ⟨_, X40, N40⟩
    clear e16 pre17 Vc z18 Xc19 Nc19 g20 X20 e20 E20 A20 st20 V20 fq21 Ar22 aq22 S22 M22 H22 G22 hin22 hat22 Ar23 aq23 S23 M23 H23 G23 hin23 hat23 sd24 Vo24 Ar24 aq24 S24 M24 H24 G24 X24 e24 W24 st24 hl24 V24 N24 fq25 Ar26 aq26 S26 M26 H26 G26 hin26 hat26 Ar27 aq27 S27 M27 H27 G27 hin27 hat27 sd28 Vo28 Ar28 aq28 S28 M28 H28 G28 X28 e28 W28 st28 hl28 V28 N28 fq29 Ar30 aq30 S30 M30 H30 G30 hin30 hat30 Ar31 aq31 S31 M31 H31 G31 hin31 hat31 sd32 Vo32 Ar32 aq32 S32 M32 H32 G32 X32 e32 W32 st32 hl32 V32 N32 fq33 Ar34 aq34 S34 M34 H34 G34 hin34 hat34 Ar35 aq35 S35 M35 H35 G35 hin35 hat35 sd36 Vo36 Ar36 aq36 S36 M36 H36 G36 X36 e36 W36 st36 hl36 V36 N36 fq37 Ar38 aq38 S38 M38 H38 G38 hin38 hat38 Ar39 aq39 S39 M39 H39 G39 hin39 hat39 sd40 Vo40 Ar40 aq40 S40 M40 H40 G40 X40 W40 st40 hl40 V40 N40
    try clear cl40
    try clear cl39
    try clear cl38
    try clear h36
    try clear T36
    try clear cl36
    try clear cl35
    try clear cl34
    try clear h32
    try clear T32
    try clear cl32
    try clear cl31
    try clear cl30
    try clear h28
    try clear T28
    try clear cl28
    try clear cl27
    try clear cl26
    try clear h24
    try clear T24
    try clear cl24
    try clear cl23
    try clear cl22
    try clear h20
    try clear T20
    try clear Lc19
    try clear h16
    try clear T16
    as_aux_lemma =>
      obtain ⟨b45, g45⟩ : ∃ z, z = h40.size := ⟨_, rfl⟩
      obtain ⟨T45, h45, k45, X45, e45, E45, A45, st45⟩ := newP Xc44 hx hZ (hw _ (List.mem_of_getElem? (i := 0) rfl)) e40 (g := (mkF m 103 #[.val (.int p1), .val (.int p2), .val (.int p3), .val (.int p4), .val (.int p5), .val (.int p6), .val (.ref b1), .val (.ref b20), .unset, .unset, .unset, .unset, .unset] [(.int (6 : Int32))])) rfl (hb hby at_103) rfl (by decide) (cap := 6) (by decide) (by decide) (by decide) (by decide)
      rw [← g45] at A45 st45
      have g_b45 : n0 ≤ b45 := Nat.le_trans z43 (Nat.le_of_eq g45.symm)
      have ne_b1_b45 : b1 ≠ b45 := Nat.ne_of_lt (Nat.lt_of_lt_of_le fq42.lt (Nat.le_of_eq g45.symm))
      have ne_b20_b45 : b20 ≠ b45 := Nat.ne_of_lt (Nat.lt_of_lt_of_le Vn.lt (Nat.le_of_eq g45.symm))
      have V45 : Arv Z h45 b45 k45 .int (6 : Int32) [(.int (0 : Int32)), (.int (0 : Int32)), (.int (0 : Int32)), (.int (0 : Int32)), (.int (0 : Int32)), (.int (0 : Int32))] (.int (0 : Int32)) := (Arv.new A45 (by decide)).pad (pad_rep [] (.int (0 : Int32)) 6)
      obtain ⟨cl46, Ar46, aq46, S46, M46, H46, G46⟩ := id V45
      have hin46 : ¬ ((0 : Int32) < 0 ∨ cl46.slots.size ≤ ((0 : Int32)).toNatClampNeg) := inb_of S46 ⟨by decide, by decide⟩
      have hat46 : cl46.slots[((0 : Int32)).toNatClampNeg]? = some (.int (0 : Int32)) := Has.at H46 hin46 rfl
      have fq47 := (Vn.ext E45)
      obtain ⟨cl48, Ar48, aq48, S48, M48, H48, G48⟩ := id fq47
      have hin48 : ¬ ((0 : Int32) < 0 ∨ cl48.slots.size ≤ ((0 : Int32)).toNatClampNeg) := inb_of S48 ⟨by decide, by decide⟩
      have hat48 : cl48.slots[((0 : Int32)).toNatClampNeg]? = some (.int nn0) := Has.at H48 hin48 rfl
      obtain ⟨cl49, Ar49, aq49, S49, M49, H49, G49⟩ := id V45
      have hin49 : ¬ ((1 : Int32) < 0 ∨ cl49.slots.size ≤ ((1 : Int32)).toNatClampNeg) := inb_of S49 ⟨by decide, by decide⟩
      obtain ⟨T49, h49, X49, e49, W49, st49⟩ := stI X45 hx hZ e45 Ar49 (j := (1 : Int32)) hin49 (g := (mkF m 119 #[.val (.int p1), .val (.int p2), .val (.int p3), .val (.int p4), .val (.int p5), .val (.int p6), .val (.ref b1), .val (.ref b20), .val (.ref b45), .unset, .unset, .unset, .unset] [(.int ((0 : Int32) + nn0)), (.int (1 : Int32)), (.ref b45)])) rfl rfl (hb hby at_119)
      have V49 : Arv Z h49 b45 k45 .int (6 : Int32) [(.int (0 : Int32)), (.int ((0 : Int32) + nn0)), (.int (0 : Int32)), (.int (0 : Int32)), (.int (0 : Int32)), (.int (0 : Int32))] (.int (0 : Int32)) := Arv.set Ar49 aq49 S49 M49 H49 G49 rfl W49 1 rfl (Nat.le_of_ble_eq_true rfl)
      have N49 := Fr.snoc X49 Nc44 g_b45
      obtain ⟨cl50, Ar50, aq50, S50, M50, H50, G50⟩ := id V49
      have hin50 : ¬ ((1 : Int32) < 0 ∨ cl50.slots.size ≤ ((1 : Int32)).toNatClampNeg) := inb_of S50 ⟨by decide, by decide⟩
      have hat50 : cl50.slots[((1 : Int32)).toNatClampNeg]? = some (.int ((0 : Int32) + nn0)) := Has.at H50 hin50 rfl
      have fq51 := (fq47.other W49 ne_b20_b45)
      obtain ⟨cl52, Ar52, aq52, S52, M52, H52, G52⟩ := id fq51
      have hin52 : ¬ ((1 : Int32) < 0 ∨ cl52.slots.size ≤ ((1 : Int32)).toNatClampNeg) := inb_of S52 ⟨by decide, by decide⟩
      have hat52 : cl52.slots[((1 : Int32)).toNatClampNeg]? = some (.int nn1) := Has.at H52 hin52 rfl
      obtain ⟨cl53, Ar53, aq53, S53, M53, H53, G53⟩ := id V49
      have hin53 : ¬ ((2 : Int32) < 0 ∨ cl53.slots.size ≤ ((2 : Int32)).toNatClampNeg) := inb_of S53 ⟨by decide, by decide⟩
      obtain ⟨T53, h53, X53, e53, W53, st53⟩ := stI X49 hx hZ e49 Ar53 (j := (2 : Int32)) hin53 (g := (mkF m 132 #[.val (.int p1), .val (.int p2), .val (.int p3), .val (.int p4), .val (.int p5), .val (.int p6), .val (.ref b1), .val (.ref b20), .val (.ref b45), .unset, .unset, .unset, .unset] [(.int (((0 : Int32) + nn0) + nn1)), (.int (2 : Int32)), (.ref b45)])) rfl rfl (hb hby at_132)
      have V53 : Arv Z h53 b45 k45 .int (6 : Int32) [(.int (0 : Int32)), (.int ((0 : Int32) + nn0)), (.int (((0 : Int32) + nn0) + nn1)), (.int (0 : Int32)), (.int (0 : Int32)), (.int (0 : Int32))] (.int (0 : Int32)) := Arv.set Ar53 aq53 S53 M53 H53 G53 rfl W53 2 rfl (Nat.le_of_ble_eq_true rfl)
      have N53 := Fr.snoc X53 N49 g_b45
      obtain ⟨cl54, Ar54, aq54, S54, M54, H54, G54⟩ := id V53
      have hin54 : ¬ ((2 : Int32) < 0 ∨ cl54.slots.size ≤ ((2 : Int32)).toNatClampNeg) := inb_of S54 ⟨by decide, by decide⟩
      have hat54 : cl54.slots[((2 : Int32)).toNatClampNeg]? = some (.int (((0 : Int32) + nn0) + nn1)) := Has.at H54 hin54 rfl
      have fq55 := (fq51.other W53 ne_b20_b45)
      obtain ⟨cl56, Ar56, aq56, S56, M56, H56, G56⟩ := id fq55
      have hin56 : ¬ ((2 : Int32) < 0 ∨ cl56.slots.size ≤ ((2 : Int32)).toNatClampNeg) := inb_of S56 ⟨by decide, by decide⟩
      have hat56 : cl56.slots[((2 : Int32)).toNatClampNeg]? = some (.int nn2) := Has.at H56 hin56 rfl
      obtain ⟨cl57, Ar57, aq57, S57, M57, H57, G57⟩ := id V53
      have hin57 : ¬ ((3 : Int32) < 0 ∨ cl57.slots.size ≤ ((3 : Int32)).toNatClampNeg) := inb_of S57 ⟨by decide, by decide⟩
      obtain ⟨T57, h57, X57, e57, W57, st57⟩ := stI X53 hx hZ e53 Ar57 (j := (3 : Int32)) hin57 (g := (mkF m 145 #[.val (.int p1), .val (.int p2), .val (.int p3), .val (.int p4), .val (.int p5), .val (.int p6), .val (.ref b1), .val (.ref b20), .val (.ref b45), .unset, .unset, .unset, .unset] [(.int ((((0 : Int32) + nn0) + nn1) + nn2)), (.int (3 : Int32)), (.ref b45)])) rfl rfl (hb hby at_145)
      have V57 : Arv Z h57 b45 k45 .int (6 : Int32) [(.int (0 : Int32)), (.int ((0 : Int32) + nn0)), (.int (((0 : Int32) + nn0) + nn1)), (.int ((((0 : Int32) + nn0) + nn1) + nn2)), (.int (0 : Int32)), (.int (0 : Int32))] (.int (0 : Int32)) := Arv.set Ar57 aq57 S57 M57 H57 G57 rfl W57 3 rfl (Nat.le_of_ble_eq_true rfl)
      have N57 := Fr.snoc X57 N53 g_b45
      obtain ⟨cl58, Ar58, aq58, S58, M58, H58, G58⟩ := id V57
      have hin58 : ¬ ((3 : Int32) < 0 ∨ cl58.slots.size ≤ ((3 : Int32)).toNatClampNeg) := inb_of S58 ⟨by decide, by decide⟩
      have hat58 : cl58.slots[((3 : Int32)).toNatClampNeg]? = some (.int ((((0 : Int32) + nn0) + nn1) + nn2)) := Has.at H58 hin58 rfl
      have fq59 := (fq55.other W57 ne_b20_b45)
      obtain ⟨cl60, Ar60, aq60, S60, M60, H60, G60⟩ := id fq59
      have hin60 : ¬ ((3 : Int32) < 0 ∨ cl60.slots.size ≤ ((3 : Int32)).toNatClampNeg) := inb_of S60 ⟨by decide, by decide⟩
      have hat60 : cl60.slots[((3 : Int32)).toNatClampNeg]? = some (.int nn3) := Has.at H60 hin60 rfl
      obtain ⟨cl61, Ar61, aq61, S61, M61, H61, G61⟩ := id V57
      have hin61 : ¬ ((4 : Int32) < 0 ∨ cl61.slots.size ≤ ((4 : Int32)).toNatClampNeg) := inb_of S61 ⟨by decide, by decide⟩
      obtain ⟨T61, h61, X61, e61, W61, st61⟩ := stI X57 hx hZ e57 Ar61 (j := (4 : Int32)) hin61 (g := (mkF m 158 #[.val (.int p1), .val (.int p2), .val (.int p3), .val (.int p4), .val (.int p5), .val (.int p6), .val (.ref b1), .val (.ref b20), .val (.ref b45), .unset, .unset, .unset, .unset] [(.int (((((0 : Int32) + nn0) + nn1) + nn2) + nn3)), (.int (4 : Int32)), (.ref b45)])) rfl rfl (hb hby at_158)
      have V61 : Arv Z h61 b45 k45 .int (6 : Int32) [(.int (0 : Int32)), (.int ((0 : Int32) + nn0)), (.int (((0 : Int32) + nn0) + nn1)), (.int ((((0 : Int32) + nn0) + nn1) + nn2)), (.int (((((0 : Int32) + nn0) + nn1) + nn2) + nn3)), (.int (0 : Int32))] (.int (0 : Int32)) := Arv.set Ar61 aq61 S61 M61 H61 G61 rfl W61 4 rfl (Nat.le_of_ble_eq_true rfl)
      have N61 := Fr.snoc X61 N57 g_b45
      obtain ⟨cl62, Ar62, aq62, S62, M62, H62, G62⟩ := id V61
      have hin62 : ¬ ((4 : Int32) < 0 ∨ cl62.slots.size ≤ ((4 : Int32)).toNatClampNeg) := inb_of S62 ⟨by decide, by decide⟩
      have hat62 : cl62.slots[((4 : Int32)).toNatClampNeg]? = some (.int (((((0 : Int32) + nn0) + nn1) + nn2) + nn3)) := Has.at H62 hin62 rfl
      have fq63 := (fq59.other W61 ne_b20_b45)
      obtain ⟨cl64, Ar64, aq64, S64, M64, H64, G64⟩ := id fq63
      have hin64 : ¬ ((4 : Int32) < 0 ∨ cl64.slots.size ≤ ((4 : Int32)).toNatClampNeg) := inb_of S64 ⟨by decide, by decide⟩
      have hat64 : cl64.slots[((4 : Int32)).toNatClampNeg]? = some (.int nn4) := Has.at H64 hin64 rfl
      obtain ⟨cl65, Ar65, aq65, S65, M65, H65, G65⟩ := id V61
      have hin65 : ¬ ((5 : Int32) < 0 ∨ cl65.slots.size ≤ ((5 : Int32)).toNatClampNeg) := inb_of S65 ⟨by decide, by decide⟩
      obtain ⟨T65, h65, X65, e65, W65, st65⟩ := stI X61 hx hZ e61 Ar65 (j := (5 : Int32)) hin65 (g := (mkF m 171 #[.val (.int p1), .val (.int p2), .val (.int p3), .val (.int p4), .val (.int p5), .val (.int p6), .val (.ref b1), .val (.ref b20), .val (.ref b45), .unset, .unset, .unset, .unset] [(.int ((((((0 : Int32) + nn0) + nn1) + nn2) + nn3) + nn4)), (.int (5 : Int32)), (.ref b45)])) rfl rfl (hb hby at_171)
      have V65 : Arv Z h65 b45 k45 .int (6 : Int32) [(.int (0 : Int32)), (.int ((0 : Int32) + nn0)), (.int (((0 : Int32) + nn0) + nn1)), (.int ((((0 : Int32) + nn0) + nn1) + nn2)), (.int (((((0 : Int32) + nn0) + nn1) + nn2) + nn3)), (.int ((((((0 : Int32) + nn0) + nn1) + nn2) + nn3) + nn4))] (.int (0 : Int32)) := Arv.set Ar65 aq65 S65 M65 H65 G65 rfl W65 5 rfl (Nat.le_of_ble_eq_true rfl)
      have N65 := Fr.snoc X65 N61 g_b45
      have pre66 : ∀ t, Steps p.tables e below (T65.setTop (mkF m 172 #[.val (.int p1), .val (.int p2), .val (.int p3), .val (.int p4), .val (.int p5), .val (.int p6), .val (.ref b1), .val (.ref b20), .val (.ref b45), .unset, .unset, .unset, .unset] [])) t → Steps p.tables e below (s₁.setTop (entryFrame m #[(.int p1), (.int p2), (.int p3), (.int p4), (.int p5), (.int p6)] maxLocals)) t := fun t kt => by
        refine pre41 t ?_
        show Steps p.tables e below (T40.setTop (mkF m 101 #[.val (.int p1), .val (.int p2), .val (.int p3), .val (.int p4), .val (.int p5), .val (.int p6), .val (.ref b1), .val (.ref b20), .unset, .unset, .unset, .unset, .unset] [])) _
        refine XS.bipush Xc44.here hx rfl (hb hby at_101) ?_
        show Steps p.tables e below (T40.setTop (mkF m 103 #[.val (.int p1), .val (.int p2), .val (.int p3), .val (.int p4), .val (.int p5), .val (.int p6), .val (.ref b1), .val (.ref b20), .unset, .unset, .unset, .unset, .unset] [(.int (6 : Int32))])) _
        refine st45 _ ?_
        show Steps p.tables e below (T45.setTop (mkF m 105 #[.val (.int p1), .val (.int p2), .val (.int p3), .val (.int p4), .val (.int p5), .val (.int p6), .val (.ref b1), .val (.ref b20), .unset, .unset, .unset, .unset, .unset] [(.ref b45)])) _
        refine XS.astore X45.here hx rfl (hb hby at_105) rfl rfl (l' := #[.val (.int p1), .val (.int p2), .val (.int p3), .val (.int p4), .val (.int p5), .val (.int p6), .val (.ref b1), .val (.ref b20), .val (.ref b45), .unset, .unset, .unset, .unset]) rfl ?_
        show Steps p.tables e below (T45.setTop (mkF m 107 #[.val (.int p1), .val (.int p2), .val (.int p3), .val (.int p4), .val (.int p5), .val (.int p6), .val (.ref b1), .val (.ref b20), .val (.ref b45), .unset, .unset, .unset, .unset] [])) _
        refine XS.aload X45.here hx rfl (hb hby at_107) rfl rfl ?_
        show Steps p.tables e below (T45.setTop (mkF m 109 #[.val (.int p1), .val (.int p2), .val (.int p3), .val (.int p4), .val (.int p5), .val (.int p6), .val (.ref b1), .val (.ref b20), .val (.ref b45), .unset, .unset, .unset, .unset] [(.ref b45)])) _
        refine XS.iconst X45.here hx rfl (hb hby at_109) ?_
        show Steps p.tables e below (T45.setTop (mkF m 110 #[.val (.int p1), .val (.int p2), .val (.int p3), .val (.int p4), .val (.int p5), .val (.int p6), .val (.ref b1), .val (.ref b20), .val (.ref b45), .unset, .unset, .unset, .unset] [(.int (1 : Int32)), (.ref b45)])) _
        refine XS.aload X45.here hx rfl (hb hby at_110) rfl rfl ?_
        show Steps p.tables e below (T45.setTop (mkF m 112 #[.val (.int p1), .val (.int p2), .val (.int p3), .val (.int p4), .val (.int p5), .val (.int p6), .val (.ref b1), .val (.ref b20), .val (.ref b45), .unset, .unset, .unset, .unset] [(.ref b45), (.int (1 : Int32)), (.ref b45)])) _
        refine XS.iconst X45.here hx rfl (hb hby at_112) ?_
        show Steps p.tables e below (T45.setTop (mkF m 113 #[.val (.int p1), .val (.int p2), .val (.int p3), .val (.int p4), .val (.int p5), .val (.int p6), .val (.ref b1), .val (.ref b20), .val (.ref b45), .unset, .unset, .unset, .unset] [(.int (0 : Int32)), (.ref b45), (.int (1 : Int32)), (.ref b45)])) _
        refine X45.iaload hx (j := (0 : Int32)) (v := (.int (0 : Int32))) (by rw [e45]; exact Ar46.1) (State.isArrayOf_alike hZ.alike Ar46.2.1) Ar46.2.2 hin46 hat46 (g := (mkF m 113 #[.val (.int p1), .val (.int p2), .val (.int p3), .val (.int p4), .val (.int p5), .val (.int p6), .val (.ref b1), .val (.ref b20), .val (.ref b45), .unset, .unset, .unset, .unset] [(.int (0 : Int32)), (.ref b45), (.int (1 : Int32)), (.ref b45)])) rfl rfl (hb hby at_113) _ ?_
        show Steps p.tables e below (T45.setTop (mkF m 114 #[.val (.int p1), .val (.int p2), .val (.int p3), .val (.int p4), .val (.int p5), .val (.int p6), .val (.ref b1), .val (.ref b20), .val (.ref b45), .unset, .unset, .unset, .unset] [(.int (0 : Int32)), (.int (1 : Int32)), (.ref b45)])) _
        refine XS.aload X45.here hx rfl (hb hby at_114) rfl rfl ?_
        show Steps p.tables e below (T45.setTop (mkF m 116 #[.val (.int p1), .val (.int p2), .val (.int p3), .val (.int p4), .val (.int p5), .val (.int p6), .val (.ref b1), .val (.ref b20), .val (.ref b45), .unset, .unset, .unset, .unset] [(.ref b20), (.int (0 : Int32)), (.int (1 : Int32)), (.ref b45)])) _
        refine XS.iconst X45.here hx rfl (hb hby at_116) ?_
        show Steps p.tables e below (T45.setTop (mkF m 117 #[.val (.int p1), .val (.int p2), .val (.int p3), .val (.int p4), .val (.int p5), .val (.int p6), .val (.ref b1), .val (.ref b20), .val (.ref b45), .unset, .unset, .unset, .unset] [(.int (0 : Int32)), (.ref b20), (.int (0 : Int32)), (.int (1 : Int32)), (.ref b45)])) _
        refine X45.iaload hx (j := (0 : Int32)) (v := (.int nn0)) (by rw [e45]; exact Ar48.1) (State.isArrayOf_alike hZ.alike Ar48.2.1) Ar48.2.2 hin48 hat48 (g := (mkF m 117 #[.val (.int p1), .val (.int p2), .val (.int p3), .val (.int p4), .val (.int p5), .val (.int p6), .val (.ref b1), .val (.ref b20), .val (.ref b45), .unset, .unset, .unset, .unset] [(.int (0 : Int32)), (.ref b20), (.int (0 : Int32)), (.int (1 : Int32)), (.ref b45)])) rfl rfl (hb hby at_117) _ ?_
        show Steps p.tables e below (T45.setTop (mkF m 118 #[.val (.int p1), .val (.int p2), .val (.int p3), .val (.int p4), .val (.int p5), .val (.int p6), .val (.ref b1), .val (.ref b20), .val (.ref b45), .unset, .unset, .unset, .unset] [(.int nn0), (.int (0 : Int32)), (.int (1 : Int32)), (.ref b45)])) _
        refine XS.iadd X45.here hx rfl (hb hby at_118) rfl ?_
        show Steps p.tables e below (T45.setTop (mkF m 119 #[.val (.int p1), .val (.int p2), .val (.int p3), .val (.int p4), .val (.int p5), .val (.int p6), .val (.ref b1), .val (.ref b20), .val (.ref b45), .unset, .unset, .unset, .unset] [(.int ((0 : Int32) + nn0)), (.int (1 : Int32)), (.ref b45)])) _
        refine st49 _ ?_
        show Steps p.tables e below (T49.setTop (mkF m 120 #[.val (.int p1), .val (.int p2), .val (.int p3), .val (.int p4), .val (.int p5), .val (.int p6), .val (.ref b1), .val (.ref b20), .val (.ref b45), .unset, .unset, .unset, .unset] [])) _
        refine XS.aload X49.here hx rfl (hb hby at_120) rfl rfl ?_
        show Steps p.tables e below (T49.setTop (mkF m 122 #[.val (.int p1), .val (.int p2), .val (.int p3), .val (.int p4), .val (.int p5), .val (.int p6), .val (.ref b1), .val (.ref b20), .val (.ref b45), .unset, .unset, .unset, .unset] [(.ref b45)])) _
        refine XS.iconst X49.here hx rfl (hb hby at_122) ?_
        show Steps p.tables e below (T49.setTop (mkF m 123 #[.val (.int p1), .val (.int p2), .val (.int p3), .val (.int p4), .val (.int p5), .val (.int p6), .val (.ref b1), .val (.ref b20), .val (.ref b45), .unset, .unset, .unset, .unset] [(.int (2 : Int32)), (.ref b45)])) _
        refine XS.aload X49.here hx rfl (hb hby at_123) rfl rfl ?_
        show Steps p.tables e below (T49.setTop (mkF m 125 #[.val (.int p1), .val (.int p2), .val (.int p3), .val (.int p4), .val (.int p5), .val (.int p6), .val (.ref b1), .val (.ref b20), .val (.ref b45), .unset, .unset, .unset, .unset] [(.ref b45), (.int (2 : Int32)), (.ref b45)])) _
        refine XS.iconst X49.here hx rfl (hb hby at_125) ?_
        show Steps p.tables e below (T49.setTop (mkF m 126 #[.val (.int p1), .val (.int p2), .val (.int p3), .val (.int p4), .val (.int p5), .val (.int p6), .val (.ref b1), .val (.ref b20), .val (.ref b45), .unset, .unset, .unset, .unset] [(.int (1 : Int32)), (.ref b45), (.int (2 : Int32)), (.ref b45)])) _
        refine X49.iaload hx (j := (1 : Int32)) (v := (.int ((0 : Int32) + nn0))) (by rw [e49]; exact Ar50.1) (State.isArrayOf_alike hZ.alike Ar50.2.1) Ar50.2.2 hin50 hat50 (g := (mkF m 126 #[.val (.int p1), .val (.int p2), .val (.int p3), .val (.int p4), .val (.int p5), .val (.int p6), .val (.ref b1), .val (.ref b20), .val (.ref b45), .unset, .unset, .unset, .unset] [(.int (1 : Int32)), (.ref b45), (.int (2 : Int32)), (.ref b45)])) rfl rfl (hb hby at_126) _ ?_
        show Steps p.tables e below (T49.setTop (mkF m 127 #[.val (.int p1), .val (.int p2), .val (.int p3), .val (.int p4), .val (.int p5), .val (.int p6), .val (.ref b1), .val (.ref b20), .val (.ref b45), .unset, .unset, .unset, .unset] [(.int ((0 : Int32) + nn0)), (.int (2 : Int32)), (.ref b45)])) _
        refine XS.aload X49.here hx rfl (hb hby at_127) rfl rfl ?_
        show Steps p.tables e below (T49.setTop (mkF m 129 #[.val (.int p1), .val (.int p2), .val (.int p3), .val (.int p4), .val (.int p5), .val (.int p6), .val (.ref b1), .val (.ref b20), .val (.ref b45), .unset, .unset, .unset, .unset] [(.ref b20), (.int ((0 : Int32) + nn0)), (.int (2 : Int32)), (.ref b45)])) _
        refine XS.iconst X49.here hx rfl (hb hby at_129) ?_
        show Steps p.tables e below (T49.setTop (mkF m 130 #[.val (.int p1), .val (.int p2), .val (.int p3), .val (.int p4), .val (.int p5), .val (.int p6), .val (.ref b1), .val (.ref b20), .val (.ref b45), .unset, .unset, .unset, .unset] [(.int (1 : Int32)), (.ref b20), (.int ((0 : Int32) + nn0)), (.int (2 : Int32)), (.ref b45)])) _
        refine X49.iaload hx (j := (1 : Int32)) (v := (.int nn1)) (by rw [e49]; exact Ar52.1) (State.isArrayOf_alike hZ.alike Ar52.2.1) Ar52.2.2 hin52 hat52 (g := (mkF m 130 #[.val (.int p1), .val (.int p2), .val (.int p3), .val (.int p4), .val (.int p5), .val (.int p6), .val (.ref b1), .val (.ref b20), .val (.ref b45), .unset, .unset, .unset, .unset] [(.int (1 : Int32)), (.ref b20), (.int ((0 : Int32) + nn0)), (.int (2 : Int32)), (.ref b45)])) rfl rfl (hb hby at_130) _ ?_
        show Steps p.tables e below (T49.setTop (mkF m 131 #[.val (.int p1), .val (.int p2), .val (.int p3), .val (.int p4), .val (.int p5), .val (.int p6), .val (.ref b1), .val (.ref b20), .val (.ref b45), .unset, .unset, .unset, .unset] [(.int nn1), (.int ((0 : Int32) + nn0)), (.int (2 : Int32)), (.ref b45)])) _
        refine XS.iadd X49.here hx rfl (hb hby at_131) rfl ?_
        show Steps p.tables e below (T49.setTop (mkF m 132 #[.val (.int p1), .val (.int p2), .val (.int p3), .val (.int p4), .val (.int p5), .val (.int p6), .val (.ref b1), .val (.ref b20), .val (.ref b45), .unset, .unset, .unset, .unset] [(.int (((0 : Int32) + nn0) + nn1)), (.int (2 : Int32)), (.ref b45)])) _
        refine st53 _ ?_
        show Steps p.tables e below (T53.setTop (mkF m 133 #[.val (.int p1), .val (.int p2), .val (.int p3), .val (.int p4), .val (.int p5), .val (.int p6), .val (.ref b1), .val (.ref b20), .val (.ref b45), .unset, .unset, .unset, .unset] [])) _
        refine XS.aload X53.here hx rfl (hb hby at_133) rfl rfl ?_
        show Steps p.tables e below (T53.setTop (mkF m 135 #[.val (.int p1), .val (.int p2), .val (.int p3), .val (.int p4), .val (.int p5), .val (.int p6), .val (.ref b1), .val (.ref b20), .val (.ref b45), .unset, .unset, .unset, .unset] [(.ref b45)])) _
        refine XS.iconst X53.here hx rfl (hb hby at_135) ?_
        show Steps p.tables e below (T53.setTop (mkF m 136 #[.val (.int p1), .val (.int p2), .val (.int p3), .val (.int p4), .val (.int p5), .val (.int p6), .val (.ref b1), .val (.ref b20), .val (.ref b45), .unset, .unset, .unset, .unset] [(.int (3 : Int32)), (.ref b45)])) _
        refine XS.aload X53.here hx rfl (hb hby at_136) rfl rfl ?_
        show Steps p.tables e below (T53.setTop (mkF m 138 #[.val (.int p1), .val (.int p2), .val (.int p3), .val (.int p4), .val (.int p5), .val (.int p6), .val (.ref b1), .val (.ref b20), .val (.ref b45), .unset, .unset, .unset, .unset] [(.ref b45), (.int (3 : Int32)), (.ref b45)])) _
        refine XS.iconst X53.here hx rfl (hb hby at_138) ?_
        show Steps p.tables e below (T53.setTop (mkF m 139 #[.val (.int p1), .val (.int p2), .val (.int p3), .val (.int p4), .val (.int p5), .val (.int p6), .val (.ref b1), .val (.ref b20), .val (.ref b45), .unset, .unset, .unset, .unset] [(.int (2 : Int32)), (.ref b45), (.int (3 : Int32)), (.ref b45)])) _
        refine X53.iaload hx (j := (2 : Int32)) (v := (.int (((0 : Int32) + nn0) + nn1))) (by rw [e53]; exact Ar54.1) (State.isArrayOf_alike hZ.alike Ar54.2.1) Ar54.2.2 hin54 hat54 (g := (mkF m 139 #[.val (.int p1), .val (.int p2), .val (.int p3), .val (.int p4), .val (.int p5), .val (.int p6), .val (.ref b1), .val (.ref b20), .val (.ref b45), .unset, .unset, .unset, .unset] [(.int (2 : Int32)), (.ref b45), (.int (3 : Int32)), (.ref b45)])) rfl rfl (hb hby at_139) _ ?_
        show Steps p.tables e below (T53.setTop (mkF m 140 #[.val (.int p1), .val (.int p2), .val (.int p3), .val (.int p4), .val (.int p5), .val (.int p6), .val (.ref b1), .val (.ref b20), .val (.ref b45), .unset, .unset, .unset, .unset] [(.int (((0 : Int32) + nn0) + nn1)), (.int (3 : Int32)), (.ref b45)])) _
        refine XS.aload X53.here hx rfl (hb hby at_140) rfl rfl ?_
        show Steps p.tables e below (T53.setTop (mkF m 142 #[.val (.int p1), .val (.int p2), .val (.int p3), .val (.int p4), .val (.int p5), .val (.int p6), .val (.ref b1), .val (.ref b20), .val (.ref b45), .unset, .unset, .unset, .unset] [(.ref b20), (.int (((0 : Int32) + nn0) + nn1)), (.int (3 : Int32)), (.ref b45)])) _
        refine XS.iconst X53.here hx rfl (hb hby at_142) ?_
        show Steps p.tables e below (T53.setTop (mkF m 143 #[.val (.int p1), .val (.int p2), .val (.int p3), .val (.int p4), .val (.int p5), .val (.int p6), .val (.ref b1), .val (.ref b20), .val (.ref b45), .unset, .unset, .unset, .unset] [(.int (2 : Int32)), (.ref b20), (.int (((0 : Int32) + nn0) + nn1)), (.int (3 : Int32)), (.ref b45)])) _
        refine X53.iaload hx (j := (2 : Int32)) (v := (.int nn2)) (by rw [e53]; exact Ar56.1) (State.isArrayOf_alike hZ.alike Ar56.2.1) Ar56.2.2 hin56 hat56 (g := (mkF m 143 #[.val (.int p1), .val (.int p2), .val (.int p3), .val (.int p4), .val (.int p5), .val (.int p6), .val (.ref b1), .val (.ref b20), .val (.ref b45), .unset, .unset, .unset, .unset] [(.int (2 : Int32)), (.ref b20), (.int (((0 : Int32) + nn0) + nn1)), (.int (3 : Int32)), (.ref b45)])) rfl rfl (hb hby at_143) _ ?_
        show Steps p.tables e below (T53.setTop (mkF m 144 #[.val (.int p1), .val (.int p2), .val (.int p3), .val (.int p4), .val (.int p5), .val (.int p6), .val (.ref b1), .val (.ref b20), .val (.ref b45), .unset, .unset, .unset, .unset] [(.int nn2), (.int (((0 : Int32) + nn0) + nn1)), (.int (3 : Int32)), (.ref b45)])) _
        refine XS.iadd X53.here hx rfl (hb hby at_144) rfl ?_
        show Steps p.tables e below (T53.setTop (mkF m 145 #[.val (.int p1), .val (.int p2), .val (.int p3), .val (.int p4), .val (.int p5), .val (.int p6), .val (.ref b1), .val (.ref b20), .val (.ref b45), .unset, .unset, .unset, .unset] [(.int ((((0 : Int32) + nn0) + nn1) + nn2)), (.int (3 : Int32)), (.ref b45)])) _
        refine st57 _ ?_
        show Steps p.tables e below (T57.setTop (mkF m 146 #[.val (.int p1), .val (.int p2), .val (.int p3), .val (.int p4), .val (.int p5), .val (.int p6), .val (.ref b1), .val (.ref b20), .val (.ref b45), .unset, .unset, .unset, .unset] [])) _
        refine XS.aload X57.here hx rfl (hb hby at_146) rfl rfl ?_
        show Steps p.tables e below (T57.setTop (mkF m 148 #[.val (.int p1), .val (.int p2), .val (.int p3), .val (.int p4), .val (.int p5), .val (.int p6), .val (.ref b1), .val (.ref b20), .val (.ref b45), .unset, .unset, .unset, .unset] [(.ref b45)])) _
        refine XS.iconst X57.here hx rfl (hb hby at_148) ?_
        show Steps p.tables e below (T57.setTop (mkF m 149 #[.val (.int p1), .val (.int p2), .val (.int p3), .val (.int p4), .val (.int p5), .val (.int p6), .val (.ref b1), .val (.ref b20), .val (.ref b45), .unset, .unset, .unset, .unset] [(.int (4 : Int32)), (.ref b45)])) _
        refine XS.aload X57.here hx rfl (hb hby at_149) rfl rfl ?_
        show Steps p.tables e below (T57.setTop (mkF m 151 #[.val (.int p1), .val (.int p2), .val (.int p3), .val (.int p4), .val (.int p5), .val (.int p6), .val (.ref b1), .val (.ref b20), .val (.ref b45), .unset, .unset, .unset, .unset] [(.ref b45), (.int (4 : Int32)), (.ref b45)])) _
        refine XS.iconst X57.here hx rfl (hb hby at_151) ?_
        show Steps p.tables e below (T57.setTop (mkF m 152 #[.val (.int p1), .val (.int p2), .val (.int p3), .val (.int p4), .val (.int p5), .val (.int p6), .val (.ref b1), .val (.ref b20), .val (.ref b45), .unset, .unset, .unset, .unset] [(.int (3 : Int32)), (.ref b45), (.int (4 : Int32)), (.ref b45)])) _
        refine X57.iaload hx (j := (3 : Int32)) (v := (.int ((((0 : Int32) + nn0) + nn1) + nn2))) (by rw [e57]; exact Ar58.1) (State.isArrayOf_alike hZ.alike Ar58.2.1) Ar58.2.2 hin58 hat58 (g := (mkF m 152 #[.val (.int p1), .val (.int p2), .val (.int p3), .val (.int p4), .val (.int p5), .val (.int p6), .val (.ref b1), .val (.ref b20), .val (.ref b45), .unset, .unset, .unset, .unset] [(.int (3 : Int32)), (.ref b45), (.int (4 : Int32)), (.ref b45)])) rfl rfl (hb hby at_152) _ ?_
        show Steps p.tables e below (T57.setTop (mkF m 153 #[.val (.int p1), .val (.int p2), .val (.int p3), .val (.int p4), .val (.int p5), .val (.int p6), .val (.ref b1), .val (.ref b20), .val (.ref b45), .unset, .unset, .unset, .unset] [(.int ((((0 : Int32) + nn0) + nn1) + nn2)), (.int (4 : Int32)), (.ref b45)])) _
        refine XS.aload X57.here hx rfl (hb hby at_153) rfl rfl ?_
        show Steps p.tables e below (T57.setTop (mkF m 155 #[.val (.int p1), .val (.int p2), .val (.int p3), .val (.int p4), .val (.int p5), .val (.int p6), .val (.ref b1), .val (.ref b20), .val (.ref b45), .unset, .unset, .unset, .unset] [(.ref b20), (.int ((((0 : Int32) + nn0) + nn1) + nn2)), (.int (4 : Int32)), (.ref b45)])) _
        refine XS.iconst X57.here hx rfl (hb hby at_155) ?_
        show Steps p.tables e below (T57.setTop (mkF m 156 #[.val (.int p1), .val (.int p2), .val (.int p3), .val (.int p4), .val (.int p5), .val (.int p6), .val (.ref b1), .val (.ref b20), .val (.ref b45), .unset, .unset, .unset, .unset] [(.int (3 : Int32)), (.ref b20), (.int ((((0 : Int32) + nn0) + nn1) + nn2)), (.int (4 : Int32)), (.ref b45)])) _
        refine X57.iaload hx (j := (3 : Int32)) (v := (.int nn3)) (by rw [e57]; exact Ar60.1) (State.isArrayOf_alike hZ.alike Ar60.2.1) Ar60.2.2 hin60 hat60 (g := (mkF m 156 #[.val (.int p1), .val (.int p2), .val (.int p3), .val (.int p4), .val (.int p5), .val (.int p6), .val (.ref b1), .val (.ref b20), .val (.ref b45), .unset, .unset, .unset, .unset] [(.int (3 : Int32)), (.ref b20), (.int ((((0 : Int32) + nn0) + nn1) + nn2)), (.int (4 : Int32)), (.ref b45)])) rfl rfl (hb hby at_156) _ ?_
        show Steps p.tables e below (T57.setTop (mkF m 157 #[.val (.int p1), .val (.int p2), .val (.int p3), .val (.int p4), .val (.int p5), .val (.int p6), .val (.ref b1), .val (.ref b20), .val (.ref b45), .unset, .unset, .unset, .unset] [(.int nn3), (.int ((((0 : Int32) + nn0) + nn1) + nn2)), (.int (4 : Int32)), (.ref b45)])) _
        refine XS.iadd X57.here hx rfl (hb hby at_157) rfl ?_
        show Steps p.tables e below (T57.setTop (mkF m 158 #[.val (.int p1), .val (.int p2), .val (.int p3), .val (.int p4), .val (.int p5), .val (.int p6), .val (.ref b1), .val (.ref b20), .val (.ref b45), .unset, .unset, .unset, .unset] [(.int (((((0 : Int32) + nn0) + nn1) + nn2) + nn3)), (.int (4 : Int32)), (.ref b45)])) _
        refine st61 _ ?_
        show Steps p.tables e below (T61.setTop (mkF m 159 #[.val (.int p1), .val (.int p2), .val (.int p3), .val (.int p4), .val (.int p5), .val (.int p6), .val (.ref b1), .val (.ref b20), .val (.ref b45), .unset, .unset, .unset, .unset] [])) _
        refine XS.aload X61.here hx rfl (hb hby at_159) rfl rfl ?_
        show Steps p.tables e below (T61.setTop (mkF m 161 #[.val (.int p1), .val (.int p2), .val (.int p3), .val (.int p4), .val (.int p5), .val (.int p6), .val (.ref b1), .val (.ref b20), .val (.ref b45), .unset, .unset, .unset, .unset] [(.ref b45)])) _
        refine XS.iconst X61.here hx rfl (hb hby at_161) ?_
        show Steps p.tables e below (T61.setTop (mkF m 162 #[.val (.int p1), .val (.int p2), .val (.int p3), .val (.int p4), .val (.int p5), .val (.int p6), .val (.ref b1), .val (.ref b20), .val (.ref b45), .unset, .unset, .unset, .unset] [(.int (5 : Int32)), (.ref b45)])) _
        refine XS.aload X61.here hx rfl (hb hby at_162) rfl rfl ?_
        show Steps p.tables e below (T61.setTop (mkF m 164 #[.val (.int p1), .val (.int p2), .val (.int p3), .val (.int p4), .val (.int p5), .val (.int p6), .val (.ref b1), .val (.ref b20), .val (.ref b45), .unset, .unset, .unset, .unset] [(.ref b45), (.int (5 : Int32)), (.ref b45)])) _
        refine XS.iconst X61.here hx rfl (hb hby at_164) ?_
        show Steps p.tables e below (T61.setTop (mkF m 165 #[.val (.int p1), .val (.int p2), .val (.int p3), .val (.int p4), .val (.int p5), .val (.int p6), .val (.ref b1), .val (.ref b20), .val (.ref b45), .unset, .unset, .unset, .unset] [(.int (4 : Int32)), (.ref b45), (.int (5 : Int32)), (.ref b45)])) _
        refine X61.iaload hx (j := (4 : Int32)) (v := (.int (((((0 : Int32) + nn0) + nn1) + nn2) + nn3))) (by rw [e61]; exact Ar62.1) (State.isArrayOf_alike hZ.alike Ar62.2.1) Ar62.2.2 hin62 hat62 (g := (mkF m 165 #[.val (.int p1), .val (.int p2), .val (.int p3), .val (.int p4), .val (.int p5), .val (.int p6), .val (.ref b1), .val (.ref b20), .val (.ref b45), .unset, .unset, .unset, .unset] [(.int (4 : Int32)), (.ref b45), (.int (5 : Int32)), (.ref b45)])) rfl rfl (hb hby at_165) _ ?_
        show Steps p.tables e below (T61.setTop (mkF m 166 #[.val (.int p1), .val (.int p2), .val (.int p3), .val (.int p4), .val (.int p5), .val (.int p6), .val (.ref b1), .val (.ref b20), .val (.ref b45), .unset, .unset, .unset, .unset] [(.int (((((0 : Int32) + nn0) + nn1) + nn2) + nn3)), (.int (5 : Int32)), (.ref b45)])) _
        refine XS.aload X61.here hx rfl (hb hby at_166) rfl rfl ?_
        show Steps p.tables e below (T61.setTop (mkF m 168 #[.val (.int p1), .val (.int p2), .val (.int p3), .val (.int p4), .val (.int p5), .val (.int p6), .val (.ref b1), .val (.ref b20), .val (.ref b45), .unset, .unset, .unset, .unset] [(.ref b20), (.int (((((0 : Int32) + nn0) + nn1) + nn2) + nn3)), (.int (5 : Int32)), (.ref b45)])) _
        refine XS.iconst X61.here hx rfl (hb hby at_168) ?_
        show Steps p.tables e below (T61.setTop (mkF m 169 #[.val (.int p1), .val (.int p2), .val (.int p3), .val (.int p4), .val (.int p5), .val (.int p6), .val (.ref b1), .val (.ref b20), .val (.ref b45), .unset, .unset, .unset, .unset] [(.int (4 : Int32)), (.ref b20), (.int (((((0 : Int32) + nn0) + nn1) + nn2) + nn3)), (.int (5 : Int32)), (.ref b45)])) _
        refine X61.iaload hx (j := (4 : Int32)) (v := (.int nn4)) (by rw [e61]; exact Ar64.1) (State.isArrayOf_alike hZ.alike Ar64.2.1) Ar64.2.2 hin64 hat64 (g := (mkF m 169 #[.val (.int p1), .val (.int p2), .val (.int p3), .val (.int p4), .val (.int p5), .val (.int p6), .val (.ref b1), .val (.ref b20), .val (.ref b45), .unset, .unset, .unset, .unset] [(.int (4 : Int32)), (.ref b20), (.int (((((0 : Int32) + nn0) + nn1) + nn2) + nn3)), (.int (5 : Int32)), (.ref b45)])) rfl rfl (hb hby at_169) _ ?_
        show Steps p.tables e below (T61.setTop (mkF m 170 #[.val (.int p1), .val (.int p2), .val (.int p3), .val (.int p4), .val (.int p5), .val (.int p6), .val (.ref b1), .val (.ref b20), .val (.ref b45), .unset, .unset, .unset, .unset] [(.int nn4), (.int (((((0 : Int32) + nn0) + nn1) + nn2) + nn3)), (.int (5 : Int32)), (.ref b45)])) _
        refine XS.iadd X61.here hx rfl (hb hby at_170) rfl ?_
        show Steps p.tables e below (T61.setTop (mkF m 171 #[.val (.int p1), .val (.int p2), .val (.int p3), .val (.int p4), .val (.int p5), .val (.int p6), .val (.ref b1), .val (.ref b20), .val (.ref b45), .unset, .unset, .unset, .unset] [(.int ((((((0 : Int32) + nn0) + nn1) + nn2) + nn3) + nn4)), (.int (5 : Int32)), (.ref b45)])) _
        refine st65 _ ?_
        exact kt
      have fq67 := ((((((fq42.ext E45).other W49 ne_b1_b45).other W53 ne_b1_b45).other W57 ne_b1_b45).other W61 ne_b1_b45).other W65 ne_b1_b45)
      have fq68 := (fq63.other W65 ne_b20_b45)
      have z69 : n0 ≤ h65.size := (Nat.le_trans (Nat.le_trans (Nat.le_trans (Nat.le_trans (Nat.le_trans (Nat.le_trans z43 E45.1) (Keep.of_wr W49).1) (Keep.of_wr W53).1) (Keep.of_wr W57).1) (Keep.of_wr W61).1) (Keep.of_wr W65).1)
      obtain ⟨Lc70, Xc70, Nc70⟩ : ∃ L, Stand p l e room_1 s m #[(.int p1), (.int p2), (.int p3), (.int p4), (.int p5), (.int p6)] below meth c T65 L 3 16 ∧ Fr n0 L := ⟨_, X65, N65⟩
      clear e40 pre41 Vn fq42 z43 Xc44 Nc44 g45 X45 e45 E45 A45 st45 V45 Ar46 aq46 S46 M46 H46 G46 hin46 hat46 fq47 Ar48 aq48 S48 M48 H48 G48 hin48 hat48 Ar49 aq49 S49 M49 H49 G49 hin49 X49 e49 W49 st49 V49 N49 Ar50 aq50 S50 M50 H50 G50 hin50 hat50 fq51 Ar52 aq52 S52 M52 H52 G52 hin52 hat52 Ar53 aq53 S53 M53 H53 G53 hin53 X53 e53 W53 st53 V53 N53 Ar54 aq54 S54 M54 H54 G54 hin54 hat54 fq55 Ar56 aq56 S56 M56 H56 G56 hin56 hat56 Ar57 aq57 S57 M57 H57 G57 hin57 X57 e57 W57 st57 V57 N57 Ar58 aq58 S58 M58 H58 G58 hin58 hat58 fq59 Ar60 aq60 S60 M60 H60 G60 hin60 hat60 Ar61 aq61 S61 M61 H61 G61 hin61 X61 e61 W61 st61 V61 N61 Ar62 aq62 S62 M62 H62 G62 hin62 hat62 fq63 Ar64 aq64 S64 M64 H64 G64 hin64 hat64 Ar65 aq65 S65 M65 H65 G65 hin65 X65 W65 st65 N65
      try clear cl65
      try clear cl64
      try clear cl62
      try clear h61
      try clear T61
      try clear cl61
      try clear cl60
      try clear cl58
      try clear h57
      try clear T57
      try clear cl57
      try clear cl56
      try clear cl54
      try clear h53
      try clear T53
      try clear cl53
      try clear cl52
      try clear cl50
      try clear h49
      try clear T49
      try clear cl49
      try clear cl48
      try clear cl46
      try clear h45
      try clear T45
      try clear Lc44
      try clear h40
      try clear T40
      as_aux_lemma =>
        have pre71 : ∀ t, Steps p.tables e below (T65.setTop (mkF m 182 #[.val (.int p1), .val (.int p2), .val (.int p3), .val (.int p4), .val (.int p5), .val (.int p6), .val (.ref b1), .val (.ref b20), .val (.ref b45), .val (.int ((p6 &&& (2147483647 : Int32)) % (6 : Int32))), .unset, .unset, .unset] [])) t → Steps p.tables e below (s₁.setTop (entryFrame m #[(.int p1), (.int p2), (.int p3), (.int p4), (.int p5), (.int p6)] maxLocals)) t := fun t kt => by
          refine pre66 t ?_
          show Steps p.tables e below (T65.setTop (mkF m 172 #[.val (.int p1), .val (.int p2), .val (.int p3), .val (.int p4), .val (.int p5), .val (.int p6), .val (.ref b1), .val (.ref b20), .val (.ref b45), .unset, .unset, .unset, .unset] [])) _
          refine XS.iload Xc70.here hx rfl (hb hby at_172) rfl ?_
          show Steps p.tables e below (T65.setTop (mkF m 174 #[.val (.int p1), .val (.int p2), .val (.int p3), .val (.int p4), .val (.int p5), .val (.int p6), .val (.ref b1), .val (.ref b20), .val (.ref b45), .unset, .unset, .unset, .unset] [(.int p6)])) _
          refine Xc70.ldcInt hx hown (mvT hZ hw5) (g := (mkF m 174 #[.val (.int p1), .val (.int p2), .val (.int p3), .val (.int p4), .val (.int p5), .val (.int p6), .val (.ref b1), .val (.ref b20), .val (.ref b45), .unset, .unset, .unset, .unset] [(.int p6)])) rfl (hb hby at_174) _ ?_
          show Steps p.tables e below (T65.setTop (mkF m 176 #[.val (.int p1), .val (.int p2), .val (.int p3), .val (.int p4), .val (.int p5), .val (.int p6), .val (.ref b1), .val (.ref b20), .val (.ref b45), .unset, .unset, .unset, .unset] [(.int (2147483647 : Int32)), (.int p6)])) _
          refine XS.iand Xc70.here hx rfl (hb hby at_176) rfl ?_
          show Steps p.tables e below (T65.setTop (mkF m 177 #[.val (.int p1), .val (.int p2), .val (.int p3), .val (.int p4), .val (.int p5), .val (.int p6), .val (.ref b1), .val (.ref b20), .val (.ref b45), .unset, .unset, .unset, .unset] [(.int (p6 &&& (2147483647 : Int32)))])) _
          refine XS.bipush Xc70.here hx rfl (hb hby at_177) ?_
          show Steps p.tables e below (T65.setTop (mkF m 179 #[.val (.int p1), .val (.int p2), .val (.int p3), .val (.int p4), .val (.int p5), .val (.int p6), .val (.ref b1), .val (.ref b20), .val (.ref b45), .unset, .unset, .unset, .unset] [(.int (6 : Int32)), (.int (p6 &&& (2147483647 : Int32)))])) _
          refine iremM Xc70 hx rfl (hb hby at_179) rfl (by decide) ?_
          show Steps p.tables e below (T65.setTop (mkF m 180 #[.val (.int p1), .val (.int p2), .val (.int p3), .val (.int p4), .val (.int p5), .val (.int p6), .val (.ref b1), .val (.ref b20), .val (.ref b45), .unset, .unset, .unset, .unset] [(.int ((p6 &&& (2147483647 : Int32)) % (6 : Int32)))])) _
          refine XS.istore Xc70.here hx rfl (hb hby at_180) rfl (l' := #[.val (.int p1), .val (.int p2), .val (.int p3), .val (.int p4), .val (.int p5), .val (.int p6), .val (.ref b1), .val (.ref b20), .val (.ref b45), .val (.int ((p6 &&& (2147483647 : Int32)) % (6 : Int32))), .unset, .unset, .unset]) rfl ?_
          exact kt
        obtain ⟨x9, hx9⟩ : ∃ z : Int32, z = ((p6 &&& (2147483647 : Int32)) % (6 : Int32)) := ⟨_, rfl⟩
        rw [← hx9] at pre71
        obtain ⟨cl72, Ar72, aq72, S72, M72, H72, G72⟩ := id V65
        have hin72 : ¬ (x9 < 0 ∨ cl72.slots.size ≤ (x9).toNatClampNeg) := inb_of S72 (side_0_186 p1 p2 p3 p4 p5 p6 c0 c1 c2 c3 c4 hC nn0 hnn0 nn1 hnn1 nn2 hnn2 nn3 hnn3 nn4 hnn4 x9 hx9)
        have hat72 : cl72.slots[(x9).toNatClampNeg]? = some (.int (own_at ([(0 : Int32), ((0 : Int32) + nn0), (((0 : Int32) + nn0) + nn1), ((((0 : Int32) + nn0) + nn1) + nn2), (((((0 : Int32) + nn0) + nn1) + nn2) + nn3), ((((((0 : Int32) + nn0) + nn1) + nn2) + nn3) + nn4)] : List Int32) x9)) := Has.at H72 hin72 (own_getD [(0 : Int32), ((0 : Int32) + nn0), (((0 : Int32) + nn0) + nn1), ((((0 : Int32) + nn0) + nn1) + nn2), (((((0 : Int32) + nn0) + nn1) + nn2) + nn3), ((((((0 : Int32) + nn0) + nn1) + nn2) + nn3) + nn4)] (x9).toNatClampNeg)
        have pre73 : ∀ t, Steps p.tables e below (T65.setTop (mkF m 189 #[.val (.int p1), .val (.int p2), .val (.int p3), .val (.int p4), .val (.int p5), .val (.int p6), .val (.ref b1), .val (.ref b20), .val (.ref b45), .val (.int x9), .val (.int (own_at ([(0 : Int32), ((0 : Int32) + nn0), (((0 : Int32) + nn0) + nn1), ((((0 : Int32) + nn0) + nn1) + nn2), (((((0 : Int32) + nn0) + nn1) + nn2) + nn3), ((((((0 : Int32) + nn0) + nn1) + nn2) + nn3) + nn4)] : List Int32) x9)), .unset, .unset] [])) t → Steps p.tables e below (s₁.setTop (entryFrame m #[(.int p1), (.int p2), (.int p3), (.int p4), (.int p5), (.int p6)] maxLocals)) t := fun t kt => by
          refine pre71 t ?_
          show Steps p.tables e below (T65.setTop (mkF m 182 #[.val (.int p1), .val (.int p2), .val (.int p3), .val (.int p4), .val (.int p5), .val (.int p6), .val (.ref b1), .val (.ref b20), .val (.ref b45), .val (.int x9), .unset, .unset, .unset] [])) _
          refine XS.aload Xc70.here hx rfl (hb hby at_182) rfl rfl ?_
          show Steps p.tables e below (T65.setTop (mkF m 184 #[.val (.int p1), .val (.int p2), .val (.int p3), .val (.int p4), .val (.int p5), .val (.int p6), .val (.ref b1), .val (.ref b20), .val (.ref b45), .val (.int x9), .unset, .unset, .unset] [(.ref b45)])) _
          refine XS.iload Xc70.here hx rfl (hb hby at_184) rfl ?_
          show Steps p.tables e below (T65.setTop (mkF m 186 #[.val (.int p1), .val (.int p2), .val (.int p3), .val (.int p4), .val (.int p5), .val (.int p6), .val (.ref b1), .val (.ref b20), .val (.ref b45), .val (.int x9), .unset, .unset, .unset] [(.int x9), (.ref b45)])) _
          refine Xc70.iaload hx (j := x9) (v := (.int (own_at ([(0 : Int32), ((0 : Int32) + nn0), (((0 : Int32) + nn0) + nn1), ((((0 : Int32) + nn0) + nn1) + nn2), (((((0 : Int32) + nn0) + nn1) + nn2) + nn3), ((((((0 : Int32) + nn0) + nn1) + nn2) + nn3) + nn4)] : List Int32) x9))) (by rw [e65]; exact Ar72.1) (State.isArrayOf_alike hZ.alike Ar72.2.1) Ar72.2.2 hin72 hat72 (g := (mkF m 186 #[.val (.int p1), .val (.int p2), .val (.int p3), .val (.int p4), .val (.int p5), .val (.int p6), .val (.ref b1), .val (.ref b20), .val (.ref b45), .val (.int x9), .unset, .unset, .unset] [(.int x9), (.ref b45)])) rfl rfl (hb hby at_186) _ ?_
          show Steps p.tables e below (T65.setTop (mkF m 187 #[.val (.int p1), .val (.int p2), .val (.int p3), .val (.int p4), .val (.int p5), .val (.int p6), .val (.ref b1), .val (.ref b20), .val (.ref b45), .val (.int x9), .unset, .unset, .unset] [(.int (own_at ([(0 : Int32), ((0 : Int32) + nn0), (((0 : Int32) + nn0) + nn1), ((((0 : Int32) + nn0) + nn1) + nn2), (((((0 : Int32) + nn0) + nn1) + nn2) + nn3), ((((((0 : Int32) + nn0) + nn1) + nn2) + nn3) + nn4)] : List Int32) x9))])) _
          refine XS.istore Xc70.here hx rfl (hb hby at_187) rfl (l' := #[.val (.int p1), .val (.int p2), .val (.int p3), .val (.int p4), .val (.int p5), .val (.int p6), .val (.ref b1), .val (.ref b20), .val (.ref b45), .val (.int x9), .val (.int (own_at ([(0 : Int32), ((0 : Int32) + nn0), (((0 : Int32) + nn0) + nn1), ((((0 : Int32) + nn0) + nn1) + nn2), (((((0 : Int32) + nn0) + nn1) + nn2) + nn3), ((((((0 : Int32) + nn0) + nn1) + nn2) + nn3) + nn4)] : List Int32) x9)), .unset, .unset]) rfl ?_
          exact kt
        obtain ⟨x10, hx10⟩ : ∃ z : Int32, z = (own_at ([(0 : Int32), ((0 : Int32) + nn0), (((0 : Int32) + nn0) + nn1), ((((0 : Int32) + nn0) + nn1) + nn2), (((((0 : Int32) + nn0) + nn1) + nn2) + nn3), ((((((0 : Int32) + nn0) + nn1) + nn2) + nn3) + nn4)] : List Int32) x9) := ⟨_, rfl⟩
        rw [← hx10] at pre73
        have pre74 : ∀ t, Steps p.tables e below (T65.setTop (mkF m 195 #[.val (.int p1), .val (.int p2), .val (.int p3), .val (.int p4), .val (.int p5), .val (.int p6), .val (.ref b1), .val (.ref b20), .val (.ref b45), .val (.int x9), .val (.int x10), .val (.int (-1 : Int32)), .unset] [(.int (4 : Int32)), (.int x9)])) t → Steps p.tables e below (s₁.setTop (entryFrame m #[(.int p1), (.int p2), (.int p3), (.int p4), (.int p5), (.int p6)] maxLocals)) t := fun t kt => by
          refine pre73 t ?_
          show Steps p.tables e below (T65.setTop (mkF m 189 #[.val (.int p1), .val (.int p2), .val (.int p3), .val (.int p4), .val (.int p5), .val (.int p6), .val (.ref b1), .val (.ref b20), .val (.ref b45), .val (.int x9), .val (.int x10), .unset, .unset] [])) _
          refine XS.iconst Xc70.here hx rfl (hb hby at_189) ?_
          show Steps p.tables e below (T65.setTop (mkF m 190 #[.val (.int p1), .val (.int p2), .val (.int p3), .val (.int p4), .val (.int p5), .val (.int p6), .val (.ref b1), .val (.ref b20), .val (.ref b45), .val (.int x9), .val (.int x10), .unset, .unset] [(.int (-1 : Int32))])) _
          refine XS.istore Xc70.here hx rfl (hb hby at_190) rfl (l' := #[.val (.int p1), .val (.int p2), .val (.int p3), .val (.int p4), .val (.int p5), .val (.int p6), .val (.ref b1), .val (.ref b20), .val (.ref b45), .val (.int x9), .val (.int x10), .val (.int (-1 : Int32)), .unset]) rfl ?_
          show Steps p.tables e below (T65.setTop (mkF m 192 #[.val (.int p1), .val (.int p2), .val (.int p3), .val (.int p4), .val (.int p5), .val (.int p6), .val (.ref b1), .val (.ref b20), .val (.ref b45), .val (.int x9), .val (.int x10), .val (.int (-1 : Int32)), .unset] [])) _
          refine XS.iload Xc70.here hx rfl (hb hby at_192) rfl ?_
          show Steps p.tables e below (T65.setTop (mkF m 194 #[.val (.int p1), .val (.int p2), .val (.int p3), .val (.int p4), .val (.int p5), .val (.int p6), .val (.ref b1), .val (.ref b20), .val (.ref b45), .val (.int x9), .val (.int x10), .val (.int (-1 : Int32)), .unset] [(.int x9)])) _
          refine XS.iconst Xc70.here hx rfl (hb hby at_194) ?_
          exact kt
        have pre80 : ∀ t, Steps p.tables e below (T65.setTop (mkF m 212 #[.val (.int p1), .val (.int p2), .val (.int p3), .val (.int p4), .val (.int p5), .val (.int p6), .val (.ref b1), .val (.ref b20), .val (.ref b45), .val (.int x9), .val (.int x10), .val (.int (if (4 : Int32) < x9 then (-1 : Int32) else (if nn4 < (2 : Int32) then (-1 : Int32) else (((((0 : Int32) + nn0) + nn1) + nn2) + nn3)))), .unset] [])) t → Steps p.tables e below (s₁.setTop (entryFrame m #[(.int p1), (.int p2), (.int p3), (.int p4), (.int p5), (.int p6)] maxLocals)) t := by
          by_cases hc75 : (4 : Int32) < x9
          · refine fun t kt => pre74 t ?_
            repeat rw [if_pos hc75] at kt
            show Steps p.tables e below (T65.setTop (mkF m 195 #[.val (.int p1), .val (.int p2), .val (.int p3), .val (.int p4), .val (.int p5), .val (.int p6), .val (.ref b1), .val (.ref b20), .val (.ref b45), .val (.int x9), .val (.int x10), .val (.int (-1 : Int32)), .unset] [(.int (4 : Int32)), (.int x9)])) _
            refine XS.icmpYes Xc70.here hx rfl (pc0 := 195) (pc' := 212) rfl (hb hby at_195) rfl (tlt hc75).2.2.1 (by decide) (by decide) ?_
            exact kt
          · obtain ⟨cl76, Ar76, aq76, S76, M76, H76, G76⟩ := id fq68
            have hin76 : ¬ ((4 : Int32) < 0 ∨ cl76.slots.size ≤ ((4 : Int32)).toNatClampNeg) := inb_of S76 ⟨by decide, by decide⟩
            have hat76 : cl76.slots[((4 : Int32)).toNatClampNeg]? = some (.int nn4) := Has.at H76 hin76 rfl
            have pre77 : ∀ t, Steps p.tables e below (T65.setTop (mkF m 203 #[.val (.int p1), .val (.int p2), .val (.int p3), .val (.int p4), .val (.int p5), .val (.int p6), .val (.ref b1), .val (.ref b20), .val (.ref b45), .val (.int x9), .val (.int x10), .val (.int (-1 : Int32)), .unset] [(.int (2 : Int32)), (.int nn4)])) t → Steps p.tables e below (s₁.setTop (entryFrame m #[(.int p1), (.int p2), (.int p3), (.int p4), (.int p5), (.int p6)] maxLocals)) t := fun t kt => by
              refine pre74 t ?_
              show Steps p.tables e below (T65.setTop (mkF m 195 #[.val (.int p1), .val (.int p2), .val (.int p3), .val (.int p4), .val (.int p5), .val (.int p6), .val (.ref b1), .val (.ref b20), .val (.ref b45), .val (.int x9), .val (.int x10), .val (.int (-1 : Int32)), .unset] [(.int (4 : Int32)), (.int x9)])) _
              refine XS.icmpNo Xc70.here hx rfl (hb hby at_195) rfl (flt hc75).2.2.1 ?_
              show Steps p.tables e below (T65.setTop (mkF m 198 #[.val (.int p1), .val (.int p2), .val (.int p3), .val (.int p4), .val (.int p5), .val (.int p6), .val (.ref b1), .val (.ref b20), .val (.ref b45), .val (.int x9), .val (.int x10), .val (.int (-1 : Int32)), .unset] [])) _
              refine XS.aload Xc70.here hx rfl (hb hby at_198) rfl rfl ?_
              show Steps p.tables e below (T65.setTop (mkF m 200 #[.val (.int p1), .val (.int p2), .val (.int p3), .val (.int p4), .val (.int p5), .val (.int p6), .val (.ref b1), .val (.ref b20), .val (.ref b45), .val (.int x9), .val (.int x10), .val (.int (-1 : Int32)), .unset] [(.ref b20)])) _
              refine XS.iconst Xc70.here hx rfl (hb hby at_200) ?_
              show Steps p.tables e below (T65.setTop (mkF m 201 #[.val (.int p1), .val (.int p2), .val (.int p3), .val (.int p4), .val (.int p5), .val (.int p6), .val (.ref b1), .val (.ref b20), .val (.ref b45), .val (.int x9), .val (.int x10), .val (.int (-1 : Int32)), .unset] [(.int (4 : Int32)), (.ref b20)])) _
              refine Xc70.iaload hx (j := (4 : Int32)) (v := (.int nn4)) (by rw [e65]; exact Ar76.1) (State.isArrayOf_alike hZ.alike Ar76.2.1) Ar76.2.2 hin76 hat76 (g := (mkF m 201 #[.val (.int p1), .val (.int p2), .val (.int p3), .val (.int p4), .val (.int p5), .val (.int p6), .val (.ref b1), .val (.ref b20), .val (.ref b45), .val (.int x9), .val (.int x10), .val (.int (-1 : Int32)), .unset] [(.int (4 : Int32)), (.ref b20)])) rfl rfl (hb hby at_201) _ ?_
              show Steps p.tables e below (T65.setTop (mkF m 202 #[.val (.int p1), .val (.int p2), .val (.int p3), .val (.int p4), .val (.int p5), .val (.int p6), .val (.ref b1), .val (.ref b20), .val (.ref b45), .val (.int x9), .val (.int x10), .val (.int (-1 : Int32)), .unset] [(.int nn4)])) _
              refine XS.iconst Xc70.here hx rfl (hb hby at_202) ?_
              exact kt
            by_cases hc78 : nn4 < (2 : Int32)
            · refine fun t kt => pre77 t ?_
              repeat rw [if_neg hc75] at kt
              repeat rw [if_pos hc78] at kt
              show Steps p.tables e below (T65.setTop (mkF m 203 #[.val (.int p1), .val (.int p2), .val (.int p3), .val (.int p4), .val (.int p5), .val (.int p6), .val (.ref b1), .val (.ref b20), .val (.ref b45), .val (.int x9), .val (.int x10), .val (.int (-1 : Int32)), .unset] [(.int (2 : Int32)), (.int nn4)])) _
              refine XS.icmpYes Xc70.here hx rfl (pc0 := 203) (pc' := 212) rfl (hb hby at_203) rfl (tlt hc78).1 (by decide) (by decide) ?_
              exact kt
            · obtain ⟨cl79, Ar79, aq79, S79, M79, H79, G79⟩ := id V65
              have hin79 : ¬ ((4 : Int32) < 0 ∨ cl79.slots.size ≤ ((4 : Int32)).toNatClampNeg) := inb_of S79 ⟨by decide, by decide⟩
              have hat79 : cl79.slots[((4 : Int32)).toNatClampNeg]? = some (.int (((((0 : Int32) + nn0) + nn1) + nn2) + nn3)) := Has.at H79 hin79 rfl
              refine fun t kt => pre77 t ?_
              repeat rw [if_neg hc75] at kt
              repeat rw [if_neg hc78] at kt
              show Steps p.tables e below (T65.setTop (mkF m 203 #[.val (.int p1), .val (.int p2), .val (.int p3), .val (.int p4), .val (.int p5), .val (.int p6), .val (.ref b1), .val (.ref b20), .val (.ref b45), .val (.int x9), .val (.int x10), .val (.int (-1 : Int32)), .unset] [(.int (2 : Int32)), (.int nn4)])) _
              refine XS.icmpNo Xc70.here hx rfl (hb hby at_203) rfl (flt hc78).1 ?_
              show Steps p.tables e below (T65.setTop (mkF m 206 #[.val (.int p1), .val (.int p2), .val (.int p3), .val (.int p4), .val (.int p5), .val (.int p6), .val (.ref b1), .val (.ref b20), .val (.ref b45), .val (.int x9), .val (.int x10), .val (.int (-1 : Int32)), .unset] [])) _
              refine XS.aload Xc70.here hx rfl (hb hby at_206) rfl rfl ?_
              show Steps p.tables e below (T65.setTop (mkF m 208 #[.val (.int p1), .val (.int p2), .val (.int p3), .val (.int p4), .val (.int p5), .val (.int p6), .val (.ref b1), .val (.ref b20), .val (.ref b45), .val (.int x9), .val (.int x10), .val (.int (-1 : Int32)), .unset] [(.ref b45)])) _
              refine XS.iconst Xc70.here hx rfl (hb hby at_208) ?_
              show Steps p.tables e below (T65.setTop (mkF m 209 #[.val (.int p1), .val (.int p2), .val (.int p3), .val (.int p4), .val (.int p5), .val (.int p6), .val (.ref b1), .val (.ref b20), .val (.ref b45), .val (.int x9), .val (.int x10), .val (.int (-1 : Int32)), .unset] [(.int (4 : Int32)), (.ref b45)])) _
              refine Xc70.iaload hx (j := (4 : Int32)) (v := (.int (((((0 : Int32) + nn0) + nn1) + nn2) + nn3))) (by rw [e65]; exact Ar79.1) (State.isArrayOf_alike hZ.alike Ar79.2.1) Ar79.2.2 hin79 hat79 (g := (mkF m 209 #[.val (.int p1), .val (.int p2), .val (.int p3), .val (.int p4), .val (.int p5), .val (.int p6), .val (.ref b1), .val (.ref b20), .val (.ref b45), .val (.int x9), .val (.int x10), .val (.int (-1 : Int32)), .unset] [(.int (4 : Int32)), (.ref b45)])) rfl rfl (hb hby at_209) _ ?_
              show Steps p.tables e below (T65.setTop (mkF m 210 #[.val (.int p1), .val (.int p2), .val (.int p3), .val (.int p4), .val (.int p5), .val (.int p6), .val (.ref b1), .val (.ref b20), .val (.ref b45), .val (.int x9), .val (.int x10), .val (.int (-1 : Int32)), .unset] [(.int (((((0 : Int32) + nn0) + nn1) + nn2) + nn3))])) _
              refine XS.istore Xc70.here hx rfl (hb hby at_210) rfl (l' := #[.val (.int p1), .val (.int p2), .val (.int p3), .val (.int p4), .val (.int p5), .val (.int p6), .val (.ref b1), .val (.ref b20), .val (.ref b45), .val (.int x9), .val (.int x10), .val (.int (((((0 : Int32) + nn0) + nn1) + nn2) + nn3)), .unset]) rfl ?_
              exact kt
        obtain ⟨v81, hv81⟩ : ∃ z : Int32, z = (if (4 : Int32) < x9 then (-1 : Int32) else (if nn4 < (2 : Int32) then (-1 : Int32) else (((((0 : Int32) + nn0) + nn1) + nn2) + nn3))) := ⟨_, rfl⟩
        rw [← hv81] at pre80
        have pre82 : ∀ t, Steps p.tables e below (T65.setTop (mkF m 215 #[.val (.int p1), .val (.int p2), .val (.int p3), .val (.int p4), .val (.int p5), .val (.int p6), .val (.ref b1), .val (.ref b20), .val (.ref b45), .val (.int x9), .val (.int x10), .val (.int v81), .unset] [(.int (3 : Int32)), (.int x9)])) t → Steps p.tables e below (s₁.setTop (entryFrame m #[(.int p1), (.int p2), (.int p3), (.int p4), (.int p5), (.int p6)] maxLocals)) t := fun t kt => by
          refine pre80 t ?_
          show Steps p.tables e below (T65.setTop (mkF m 212 #[.val (.int p1), .val (.int p2), .val (.int p3), .val (.int p4), .val (.int p5), .val (.int p6), .val (.ref b1), .val (.ref b20), .val (.ref b45), .val (.int x9), .val (.int x10), .val (.int v81), .unset] [])) _
          refine XS.iload Xc70.here hx rfl (hb hby at_212) rfl ?_
          show Steps p.tables e below (T65.setTop (mkF m 214 #[.val (.int p1), .val (.int p2), .val (.int p3), .val (.int p4), .val (.int p5), .val (.int p6), .val (.ref b1), .val (.ref b20), .val (.ref b45), .val (.int x9), .val (.int x10), .val (.int v81), .unset] [(.int x9)])) _
          refine XS.iconst Xc70.here hx rfl (hb hby at_214) ?_
          exact kt
        have pre88 : ∀ t, Steps p.tables e below (T65.setTop (mkF m 232 #[.val (.int p1), .val (.int p2), .val (.int p3), .val (.int p4), .val (.int p5), .val (.int p6), .val (.ref b1), .val (.ref b20), .val (.ref b45), .val (.int x9), .val (.int x10), .val (.int (if (3 : Int32) < x9 then v81 else (if nn3 < (2 : Int32) then v81 else ((((0 : Int32) + nn0) + nn1) + nn2)))), .unset] [])) t → Steps p.tables e below (s₁.setTop (entryFrame m #[(.int p1), (.int p2), (.int p3), (.int p4), (.int p5), (.int p6)] maxLocals)) t := by
          by_cases hc83 : (3 : Int32) < x9
          · refine fun t kt => pre82 t ?_
            repeat rw [if_pos hc83] at kt
            show Steps p.tables e below (T65.setTop (mkF m 215 #[.val (.int p1), .val (.int p2), .val (.int p3), .val (.int p4), .val (.int p5), .val (.int p6), .val (.ref b1), .val (.ref b20), .val (.ref b45), .val (.int x9), .val (.int x10), .val (.int v81), .unset] [(.int (3 : Int32)), (.int x9)])) _
            refine XS.icmpYes Xc70.here hx rfl (pc0 := 215) (pc' := 232) rfl (hb hby at_215) rfl (tlt hc83).2.2.1 (by decide) (by decide) ?_
            exact kt
          · obtain ⟨cl84, Ar84, aq84, S84, M84, H84, G84⟩ := id fq68
            have hin84 : ¬ ((3 : Int32) < 0 ∨ cl84.slots.size ≤ ((3 : Int32)).toNatClampNeg) := inb_of S84 ⟨by decide, by decide⟩
            have hat84 : cl84.slots[((3 : Int32)).toNatClampNeg]? = some (.int nn3) := Has.at H84 hin84 rfl
            have pre85 : ∀ t, Steps p.tables e below (T65.setTop (mkF m 223 #[.val (.int p1), .val (.int p2), .val (.int p3), .val (.int p4), .val (.int p5), .val (.int p6), .val (.ref b1), .val (.ref b20), .val (.ref b45), .val (.int x9), .val (.int x10), .val (.int v81), .unset] [(.int (2 : Int32)), (.int nn3)])) t → Steps p.tables e below (s₁.setTop (entryFrame m #[(.int p1), (.int p2), (.int p3), (.int p4), (.int p5), (.int p6)] maxLocals)) t := fun t kt => by
              refine pre82 t ?_
              show Steps p.tables e below (T65.setTop (mkF m 215 #[.val (.int p1), .val (.int p2), .val (.int p3), .val (.int p4), .val (.int p5), .val (.int p6), .val (.ref b1), .val (.ref b20), .val (.ref b45), .val (.int x9), .val (.int x10), .val (.int v81), .unset] [(.int (3 : Int32)), (.int x9)])) _
              refine XS.icmpNo Xc70.here hx rfl (hb hby at_215) rfl (flt hc83).2.2.1 ?_
              show Steps p.tables e below (T65.setTop (mkF m 218 #[.val (.int p1), .val (.int p2), .val (.int p3), .val (.int p4), .val (.int p5), .val (.int p6), .val (.ref b1), .val (.ref b20), .val (.ref b45), .val (.int x9), .val (.int x10), .val (.int v81), .unset] [])) _
              refine XS.aload Xc70.here hx rfl (hb hby at_218) rfl rfl ?_
              show Steps p.tables e below (T65.setTop (mkF m 220 #[.val (.int p1), .val (.int p2), .val (.int p3), .val (.int p4), .val (.int p5), .val (.int p6), .val (.ref b1), .val (.ref b20), .val (.ref b45), .val (.int x9), .val (.int x10), .val (.int v81), .unset] [(.ref b20)])) _
              refine XS.iconst Xc70.here hx rfl (hb hby at_220) ?_
              show Steps p.tables e below (T65.setTop (mkF m 221 #[.val (.int p1), .val (.int p2), .val (.int p3), .val (.int p4), .val (.int p5), .val (.int p6), .val (.ref b1), .val (.ref b20), .val (.ref b45), .val (.int x9), .val (.int x10), .val (.int v81), .unset] [(.int (3 : Int32)), (.ref b20)])) _
              refine Xc70.iaload hx (j := (3 : Int32)) (v := (.int nn3)) (by rw [e65]; exact Ar84.1) (State.isArrayOf_alike hZ.alike Ar84.2.1) Ar84.2.2 hin84 hat84 (g := (mkF m 221 #[.val (.int p1), .val (.int p2), .val (.int p3), .val (.int p4), .val (.int p5), .val (.int p6), .val (.ref b1), .val (.ref b20), .val (.ref b45), .val (.int x9), .val (.int x10), .val (.int v81), .unset] [(.int (3 : Int32)), (.ref b20)])) rfl rfl (hb hby at_221) _ ?_
              show Steps p.tables e below (T65.setTop (mkF m 222 #[.val (.int p1), .val (.int p2), .val (.int p3), .val (.int p4), .val (.int p5), .val (.int p6), .val (.ref b1), .val (.ref b20), .val (.ref b45), .val (.int x9), .val (.int x10), .val (.int v81), .unset] [(.int nn3)])) _
              refine XS.iconst Xc70.here hx rfl (hb hby at_222) ?_
              exact kt
            by_cases hc86 : nn3 < (2 : Int32)
            · refine fun t kt => pre85 t ?_
              repeat rw [if_neg hc83] at kt
              repeat rw [if_pos hc86] at kt
              show Steps p.tables e below (T65.setTop (mkF m 223 #[.val (.int p1), .val (.int p2), .val (.int p3), .val (.int p4), .val (.int p5), .val (.int p6), .val (.ref b1), .val (.ref b20), .val (.ref b45), .val (.int x9), .val (.int x10), .val (.int v81), .unset] [(.int (2 : Int32)), (.int nn3)])) _
              refine XS.icmpYes Xc70.here hx rfl (pc0 := 223) (pc' := 232) rfl (hb hby at_223) rfl (tlt hc86).1 (by decide) (by decide) ?_
              exact kt
            · obtain ⟨cl87, Ar87, aq87, S87, M87, H87, G87⟩ := id V65
              have hin87 : ¬ ((3 : Int32) < 0 ∨ cl87.slots.size ≤ ((3 : Int32)).toNatClampNeg) := inb_of S87 ⟨by decide, by decide⟩
              have hat87 : cl87.slots[((3 : Int32)).toNatClampNeg]? = some (.int ((((0 : Int32) + nn0) + nn1) + nn2)) := Has.at H87 hin87 rfl
              refine fun t kt => pre85 t ?_
              repeat rw [if_neg hc83] at kt
              repeat rw [if_neg hc86] at kt
              show Steps p.tables e below (T65.setTop (mkF m 223 #[.val (.int p1), .val (.int p2), .val (.int p3), .val (.int p4), .val (.int p5), .val (.int p6), .val (.ref b1), .val (.ref b20), .val (.ref b45), .val (.int x9), .val (.int x10), .val (.int v81), .unset] [(.int (2 : Int32)), (.int nn3)])) _
              refine XS.icmpNo Xc70.here hx rfl (hb hby at_223) rfl (flt hc86).1 ?_
              show Steps p.tables e below (T65.setTop (mkF m 226 #[.val (.int p1), .val (.int p2), .val (.int p3), .val (.int p4), .val (.int p5), .val (.int p6), .val (.ref b1), .val (.ref b20), .val (.ref b45), .val (.int x9), .val (.int x10), .val (.int v81), .unset] [])) _
              refine XS.aload Xc70.here hx rfl (hb hby at_226) rfl rfl ?_
              show Steps p.tables e below (T65.setTop (mkF m 228 #[.val (.int p1), .val (.int p2), .val (.int p3), .val (.int p4), .val (.int p5), .val (.int p6), .val (.ref b1), .val (.ref b20), .val (.ref b45), .val (.int x9), .val (.int x10), .val (.int v81), .unset] [(.ref b45)])) _
              refine XS.iconst Xc70.here hx rfl (hb hby at_228) ?_
              show Steps p.tables e below (T65.setTop (mkF m 229 #[.val (.int p1), .val (.int p2), .val (.int p3), .val (.int p4), .val (.int p5), .val (.int p6), .val (.ref b1), .val (.ref b20), .val (.ref b45), .val (.int x9), .val (.int x10), .val (.int v81), .unset] [(.int (3 : Int32)), (.ref b45)])) _
              refine Xc70.iaload hx (j := (3 : Int32)) (v := (.int ((((0 : Int32) + nn0) + nn1) + nn2))) (by rw [e65]; exact Ar87.1) (State.isArrayOf_alike hZ.alike Ar87.2.1) Ar87.2.2 hin87 hat87 (g := (mkF m 229 #[.val (.int p1), .val (.int p2), .val (.int p3), .val (.int p4), .val (.int p5), .val (.int p6), .val (.ref b1), .val (.ref b20), .val (.ref b45), .val (.int x9), .val (.int x10), .val (.int v81), .unset] [(.int (3 : Int32)), (.ref b45)])) rfl rfl (hb hby at_229) _ ?_
              show Steps p.tables e below (T65.setTop (mkF m 230 #[.val (.int p1), .val (.int p2), .val (.int p3), .val (.int p4), .val (.int p5), .val (.int p6), .val (.ref b1), .val (.ref b20), .val (.ref b45), .val (.int x9), .val (.int x10), .val (.int v81), .unset] [(.int ((((0 : Int32) + nn0) + nn1) + nn2))])) _
              refine XS.istore Xc70.here hx rfl (hb hby at_230) rfl (l' := #[.val (.int p1), .val (.int p2), .val (.int p3), .val (.int p4), .val (.int p5), .val (.int p6), .val (.ref b1), .val (.ref b20), .val (.ref b45), .val (.int x9), .val (.int x10), .val (.int ((((0 : Int32) + nn0) + nn1) + nn2)), .unset]) rfl ?_
              exact kt
        obtain ⟨v89, hv89⟩ : ∃ z : Int32, z = (if (3 : Int32) < x9 then v81 else (if nn3 < (2 : Int32) then v81 else ((((0 : Int32) + nn0) + nn1) + nn2))) := ⟨_, rfl⟩
        rw [← hv89] at pre88
        have pre90 : ∀ t, Steps p.tables e below (T65.setTop (mkF m 235 #[.val (.int p1), .val (.int p2), .val (.int p3), .val (.int p4), .val (.int p5), .val (.int p6), .val (.ref b1), .val (.ref b20), .val (.ref b45), .val (.int x9), .val (.int x10), .val (.int v89), .unset] [(.int (2 : Int32)), (.int x9)])) t → Steps p.tables e below (s₁.setTop (entryFrame m #[(.int p1), (.int p2), (.int p3), (.int p4), (.int p5), (.int p6)] maxLocals)) t := fun t kt => by
          refine pre88 t ?_
          show Steps p.tables e below (T65.setTop (mkF m 232 #[.val (.int p1), .val (.int p2), .val (.int p3), .val (.int p4), .val (.int p5), .val (.int p6), .val (.ref b1), .val (.ref b20), .val (.ref b45), .val (.int x9), .val (.int x10), .val (.int v89), .unset] [])) _
          refine XS.iload Xc70.here hx rfl (hb hby at_232) rfl ?_
          show Steps p.tables e below (T65.setTop (mkF m 234 #[.val (.int p1), .val (.int p2), .val (.int p3), .val (.int p4), .val (.int p5), .val (.int p6), .val (.ref b1), .val (.ref b20), .val (.ref b45), .val (.int x9), .val (.int x10), .val (.int v89), .unset] [(.int x9)])) _
          refine XS.iconst Xc70.here hx rfl (hb hby at_234) ?_
          exact kt
        have pre96 : ∀ t, Steps p.tables e below (T65.setTop (mkF m 252 #[.val (.int p1), .val (.int p2), .val (.int p3), .val (.int p4), .val (.int p5), .val (.int p6), .val (.ref b1), .val (.ref b20), .val (.ref b45), .val (.int x9), .val (.int x10), .val (.int (if (2 : Int32) < x9 then v89 else (if nn2 < (2 : Int32) then v89 else (((0 : Int32) + nn0) + nn1)))), .unset] [])) t → Steps p.tables e below (s₁.setTop (entryFrame m #[(.int p1), (.int p2), (.int p3), (.int p4), (.int p5), (.int p6)] maxLocals)) t := by
          by_cases hc91 : (2 : Int32) < x9
          · refine fun t kt => pre90 t ?_
            repeat rw [if_pos hc91] at kt
            show Steps p.tables e below (T65.setTop (mkF m 235 #[.val (.int p1), .val (.int p2), .val (.int p3), .val (.int p4), .val (.int p5), .val (.int p6), .val (.ref b1), .val (.ref b20), .val (.ref b45), .val (.int x9), .val (.int x10), .val (.int v89), .unset] [(.int (2 : Int32)), (.int x9)])) _
            refine XS.icmpYes Xc70.here hx rfl (pc0 := 235) (pc' := 252) rfl (hb hby at_235) rfl (tlt hc91).2.2.1 (by decide) (by decide) ?_
            exact kt
          · obtain ⟨cl92, Ar92, aq92, S92, M92, H92, G92⟩ := id fq68
            have hin92 : ¬ ((2 : Int32) < 0 ∨ cl92.slots.size ≤ ((2 : Int32)).toNatClampNeg) := inb_of S92 ⟨by decide, by decide⟩
            have hat92 : cl92.slots[((2 : Int32)).toNatClampNeg]? = some (.int nn2) := Has.at H92 hin92 rfl
            have pre93 : ∀ t, Steps p.tables e below (T65.setTop (mkF m 243 #[.val (.int p1), .val (.int p2), .val (.int p3), .val (.int p4), .val (.int p5), .val (.int p6), .val (.ref b1), .val (.ref b20), .val (.ref b45), .val (.int x9), .val (.int x10), .val (.int v89), .unset] [(.int (2 : Int32)), (.int nn2)])) t → Steps p.tables e below (s₁.setTop (entryFrame m #[(.int p1), (.int p2), (.int p3), (.int p4), (.int p5), (.int p6)] maxLocals)) t := fun t kt => by
              refine pre90 t ?_
              show Steps p.tables e below (T65.setTop (mkF m 235 #[.val (.int p1), .val (.int p2), .val (.int p3), .val (.int p4), .val (.int p5), .val (.int p6), .val (.ref b1), .val (.ref b20), .val (.ref b45), .val (.int x9), .val (.int x10), .val (.int v89), .unset] [(.int (2 : Int32)), (.int x9)])) _
              refine XS.icmpNo Xc70.here hx rfl (hb hby at_235) rfl (flt hc91).2.2.1 ?_
              show Steps p.tables e below (T65.setTop (mkF m 238 #[.val (.int p1), .val (.int p2), .val (.int p3), .val (.int p4), .val (.int p5), .val (.int p6), .val (.ref b1), .val (.ref b20), .val (.ref b45), .val (.int x9), .val (.int x10), .val (.int v89), .unset] [])) _
              refine XS.aload Xc70.here hx rfl (hb hby at_238) rfl rfl ?_
              show Steps p.tables e below (T65.setTop (mkF m 240 #[.val (.int p1), .val (.int p2), .val (.int p3), .val (.int p4), .val (.int p5), .val (.int p6), .val (.ref b1), .val (.ref b20), .val (.ref b45), .val (.int x9), .val (.int x10), .val (.int v89), .unset] [(.ref b20)])) _
              refine XS.iconst Xc70.here hx rfl (hb hby at_240) ?_
              show Steps p.tables e below (T65.setTop (mkF m 241 #[.val (.int p1), .val (.int p2), .val (.int p3), .val (.int p4), .val (.int p5), .val (.int p6), .val (.ref b1), .val (.ref b20), .val (.ref b45), .val (.int x9), .val (.int x10), .val (.int v89), .unset] [(.int (2 : Int32)), (.ref b20)])) _
              refine Xc70.iaload hx (j := (2 : Int32)) (v := (.int nn2)) (by rw [e65]; exact Ar92.1) (State.isArrayOf_alike hZ.alike Ar92.2.1) Ar92.2.2 hin92 hat92 (g := (mkF m 241 #[.val (.int p1), .val (.int p2), .val (.int p3), .val (.int p4), .val (.int p5), .val (.int p6), .val (.ref b1), .val (.ref b20), .val (.ref b45), .val (.int x9), .val (.int x10), .val (.int v89), .unset] [(.int (2 : Int32)), (.ref b20)])) rfl rfl (hb hby at_241) _ ?_
              show Steps p.tables e below (T65.setTop (mkF m 242 #[.val (.int p1), .val (.int p2), .val (.int p3), .val (.int p4), .val (.int p5), .val (.int p6), .val (.ref b1), .val (.ref b20), .val (.ref b45), .val (.int x9), .val (.int x10), .val (.int v89), .unset] [(.int nn2)])) _
              refine XS.iconst Xc70.here hx rfl (hb hby at_242) ?_
              exact kt
            by_cases hc94 : nn2 < (2 : Int32)
            · refine fun t kt => pre93 t ?_
              repeat rw [if_neg hc91] at kt
              repeat rw [if_pos hc94] at kt
              show Steps p.tables e below (T65.setTop (mkF m 243 #[.val (.int p1), .val (.int p2), .val (.int p3), .val (.int p4), .val (.int p5), .val (.int p6), .val (.ref b1), .val (.ref b20), .val (.ref b45), .val (.int x9), .val (.int x10), .val (.int v89), .unset] [(.int (2 : Int32)), (.int nn2)])) _
              refine XS.icmpYes Xc70.here hx rfl (pc0 := 243) (pc' := 252) rfl (hb hby at_243) rfl (tlt hc94).1 (by decide) (by decide) ?_
              exact kt
            · obtain ⟨cl95, Ar95, aq95, S95, M95, H95, G95⟩ := id V65
              have hin95 : ¬ ((2 : Int32) < 0 ∨ cl95.slots.size ≤ ((2 : Int32)).toNatClampNeg) := inb_of S95 ⟨by decide, by decide⟩
              have hat95 : cl95.slots[((2 : Int32)).toNatClampNeg]? = some (.int (((0 : Int32) + nn0) + nn1)) := Has.at H95 hin95 rfl
              refine fun t kt => pre93 t ?_
              repeat rw [if_neg hc91] at kt
              repeat rw [if_neg hc94] at kt
              show Steps p.tables e below (T65.setTop (mkF m 243 #[.val (.int p1), .val (.int p2), .val (.int p3), .val (.int p4), .val (.int p5), .val (.int p6), .val (.ref b1), .val (.ref b20), .val (.ref b45), .val (.int x9), .val (.int x10), .val (.int v89), .unset] [(.int (2 : Int32)), (.int nn2)])) _
              refine XS.icmpNo Xc70.here hx rfl (hb hby at_243) rfl (flt hc94).1 ?_
              show Steps p.tables e below (T65.setTop (mkF m 246 #[.val (.int p1), .val (.int p2), .val (.int p3), .val (.int p4), .val (.int p5), .val (.int p6), .val (.ref b1), .val (.ref b20), .val (.ref b45), .val (.int x9), .val (.int x10), .val (.int v89), .unset] [])) _
              refine XS.aload Xc70.here hx rfl (hb hby at_246) rfl rfl ?_
              show Steps p.tables e below (T65.setTop (mkF m 248 #[.val (.int p1), .val (.int p2), .val (.int p3), .val (.int p4), .val (.int p5), .val (.int p6), .val (.ref b1), .val (.ref b20), .val (.ref b45), .val (.int x9), .val (.int x10), .val (.int v89), .unset] [(.ref b45)])) _
              refine XS.iconst Xc70.here hx rfl (hb hby at_248) ?_
              show Steps p.tables e below (T65.setTop (mkF m 249 #[.val (.int p1), .val (.int p2), .val (.int p3), .val (.int p4), .val (.int p5), .val (.int p6), .val (.ref b1), .val (.ref b20), .val (.ref b45), .val (.int x9), .val (.int x10), .val (.int v89), .unset] [(.int (2 : Int32)), (.ref b45)])) _
              refine Xc70.iaload hx (j := (2 : Int32)) (v := (.int (((0 : Int32) + nn0) + nn1))) (by rw [e65]; exact Ar95.1) (State.isArrayOf_alike hZ.alike Ar95.2.1) Ar95.2.2 hin95 hat95 (g := (mkF m 249 #[.val (.int p1), .val (.int p2), .val (.int p3), .val (.int p4), .val (.int p5), .val (.int p6), .val (.ref b1), .val (.ref b20), .val (.ref b45), .val (.int x9), .val (.int x10), .val (.int v89), .unset] [(.int (2 : Int32)), (.ref b45)])) rfl rfl (hb hby at_249) _ ?_
              show Steps p.tables e below (T65.setTop (mkF m 250 #[.val (.int p1), .val (.int p2), .val (.int p3), .val (.int p4), .val (.int p5), .val (.int p6), .val (.ref b1), .val (.ref b20), .val (.ref b45), .val (.int x9), .val (.int x10), .val (.int v89), .unset] [(.int (((0 : Int32) + nn0) + nn1))])) _
              refine XS.istore Xc70.here hx rfl (hb hby at_250) rfl (l' := #[.val (.int p1), .val (.int p2), .val (.int p3), .val (.int p4), .val (.int p5), .val (.int p6), .val (.ref b1), .val (.ref b20), .val (.ref b45), .val (.int x9), .val (.int x10), .val (.int (((0 : Int32) + nn0) + nn1)), .unset]) rfl ?_
              exact kt
        obtain ⟨v97, hv97⟩ : ∃ z : Int32, z = (if (2 : Int32) < x9 then v89 else (if nn2 < (2 : Int32) then v89 else (((0 : Int32) + nn0) + nn1))) := ⟨_, rfl⟩
        rw [← hv97] at pre96
        have pre98 : ∀ t, Steps p.tables e below (T65.setTop (mkF m 255 #[.val (.int p1), .val (.int p2), .val (.int p3), .val (.int p4), .val (.int p5), .val (.int p6), .val (.ref b1), .val (.ref b20), .val (.ref b45), .val (.int x9), .val (.int x10), .val (.int v97), .unset] [(.int (1 : Int32)), (.int x9)])) t → Steps p.tables e below (s₁.setTop (entryFrame m #[(.int p1), (.int p2), (.int p3), (.int p4), (.int p5), (.int p6)] maxLocals)) t := fun t kt => by
          refine pre96 t ?_
          show Steps p.tables e below (T65.setTop (mkF m 252 #[.val (.int p1), .val (.int p2), .val (.int p3), .val (.int p4), .val (.int p5), .val (.int p6), .val (.ref b1), .val (.ref b20), .val (.ref b45), .val (.int x9), .val (.int x10), .val (.int v97), .unset] [])) _
          refine XS.iload Xc70.here hx rfl (hb hby at_252) rfl ?_
          show Steps p.tables e below (T65.setTop (mkF m 254 #[.val (.int p1), .val (.int p2), .val (.int p3), .val (.int p4), .val (.int p5), .val (.int p6), .val (.ref b1), .val (.ref b20), .val (.ref b45), .val (.int x9), .val (.int x10), .val (.int v97), .unset] [(.int x9)])) _
          refine XS.iconst Xc70.here hx rfl (hb hby at_254) ?_
          exact kt
        have pre104 : ∀ t, Steps p.tables e below (T65.setTop (mkF m 272 #[.val (.int p1), .val (.int p2), .val (.int p3), .val (.int p4), .val (.int p5), .val (.int p6), .val (.ref b1), .val (.ref b20), .val (.ref b45), .val (.int x9), .val (.int x10), .val (.int (if (1 : Int32) < x9 then v97 else (if nn1 < (2 : Int32) then v97 else ((0 : Int32) + nn0)))), .unset] [])) t → Steps p.tables e below (s₁.setTop (entryFrame m #[(.int p1), (.int p2), (.int p3), (.int p4), (.int p5), (.int p6)] maxLocals)) t := by
          by_cases hc99 : (1 : Int32) < x9
          · refine fun t kt => pre98 t ?_
            repeat rw [if_pos hc99] at kt
            show Steps p.tables e below (T65.setTop (mkF m 255 #[.val (.int p1), .val (.int p2), .val (.int p3), .val (.int p4), .val (.int p5), .val (.int p6), .val (.ref b1), .val (.ref b20), .val (.ref b45), .val (.int x9), .val (.int x10), .val (.int v97), .unset] [(.int (1 : Int32)), (.int x9)])) _
            refine XS.icmpYes Xc70.here hx rfl (pc0 := 255) (pc' := 272) rfl (hb hby at_255) rfl (tlt hc99).2.2.1 (by decide) (by decide) ?_
            exact kt
          · obtain ⟨cl100, Ar100, aq100, S100, M100, H100, G100⟩ := id fq68
            have hin100 : ¬ ((1 : Int32) < 0 ∨ cl100.slots.size ≤ ((1 : Int32)).toNatClampNeg) := inb_of S100 ⟨by decide, by decide⟩
            have hat100 : cl100.slots[((1 : Int32)).toNatClampNeg]? = some (.int nn1) := Has.at H100 hin100 rfl
            have pre101 : ∀ t, Steps p.tables e below (T65.setTop (mkF m 263 #[.val (.int p1), .val (.int p2), .val (.int p3), .val (.int p4), .val (.int p5), .val (.int p6), .val (.ref b1), .val (.ref b20), .val (.ref b45), .val (.int x9), .val (.int x10), .val (.int v97), .unset] [(.int (2 : Int32)), (.int nn1)])) t → Steps p.tables e below (s₁.setTop (entryFrame m #[(.int p1), (.int p2), (.int p3), (.int p4), (.int p5), (.int p6)] maxLocals)) t := fun t kt => by
              refine pre98 t ?_
              show Steps p.tables e below (T65.setTop (mkF m 255 #[.val (.int p1), .val (.int p2), .val (.int p3), .val (.int p4), .val (.int p5), .val (.int p6), .val (.ref b1), .val (.ref b20), .val (.ref b45), .val (.int x9), .val (.int x10), .val (.int v97), .unset] [(.int (1 : Int32)), (.int x9)])) _
              refine XS.icmpNo Xc70.here hx rfl (hb hby at_255) rfl (flt hc99).2.2.1 ?_
              show Steps p.tables e below (T65.setTop (mkF m 258 #[.val (.int p1), .val (.int p2), .val (.int p3), .val (.int p4), .val (.int p5), .val (.int p6), .val (.ref b1), .val (.ref b20), .val (.ref b45), .val (.int x9), .val (.int x10), .val (.int v97), .unset] [])) _
              refine XS.aload Xc70.here hx rfl (hb hby at_258) rfl rfl ?_
              show Steps p.tables e below (T65.setTop (mkF m 260 #[.val (.int p1), .val (.int p2), .val (.int p3), .val (.int p4), .val (.int p5), .val (.int p6), .val (.ref b1), .val (.ref b20), .val (.ref b45), .val (.int x9), .val (.int x10), .val (.int v97), .unset] [(.ref b20)])) _
              refine XS.iconst Xc70.here hx rfl (hb hby at_260) ?_
              show Steps p.tables e below (T65.setTop (mkF m 261 #[.val (.int p1), .val (.int p2), .val (.int p3), .val (.int p4), .val (.int p5), .val (.int p6), .val (.ref b1), .val (.ref b20), .val (.ref b45), .val (.int x9), .val (.int x10), .val (.int v97), .unset] [(.int (1 : Int32)), (.ref b20)])) _
              refine Xc70.iaload hx (j := (1 : Int32)) (v := (.int nn1)) (by rw [e65]; exact Ar100.1) (State.isArrayOf_alike hZ.alike Ar100.2.1) Ar100.2.2 hin100 hat100 (g := (mkF m 261 #[.val (.int p1), .val (.int p2), .val (.int p3), .val (.int p4), .val (.int p5), .val (.int p6), .val (.ref b1), .val (.ref b20), .val (.ref b45), .val (.int x9), .val (.int x10), .val (.int v97), .unset] [(.int (1 : Int32)), (.ref b20)])) rfl rfl (hb hby at_261) _ ?_
              show Steps p.tables e below (T65.setTop (mkF m 262 #[.val (.int p1), .val (.int p2), .val (.int p3), .val (.int p4), .val (.int p5), .val (.int p6), .val (.ref b1), .val (.ref b20), .val (.ref b45), .val (.int x9), .val (.int x10), .val (.int v97), .unset] [(.int nn1)])) _
              refine XS.iconst Xc70.here hx rfl (hb hby at_262) ?_
              exact kt
            by_cases hc102 : nn1 < (2 : Int32)
            · refine fun t kt => pre101 t ?_
              repeat rw [if_neg hc99] at kt
              repeat rw [if_pos hc102] at kt
              show Steps p.tables e below (T65.setTop (mkF m 263 #[.val (.int p1), .val (.int p2), .val (.int p3), .val (.int p4), .val (.int p5), .val (.int p6), .val (.ref b1), .val (.ref b20), .val (.ref b45), .val (.int x9), .val (.int x10), .val (.int v97), .unset] [(.int (2 : Int32)), (.int nn1)])) _
              refine XS.icmpYes Xc70.here hx rfl (pc0 := 263) (pc' := 272) rfl (hb hby at_263) rfl (tlt hc102).1 (by decide) (by decide) ?_
              exact kt
            · obtain ⟨cl103, Ar103, aq103, S103, M103, H103, G103⟩ := id V65
              have hin103 : ¬ ((1 : Int32) < 0 ∨ cl103.slots.size ≤ ((1 : Int32)).toNatClampNeg) := inb_of S103 ⟨by decide, by decide⟩
              have hat103 : cl103.slots[((1 : Int32)).toNatClampNeg]? = some (.int ((0 : Int32) + nn0)) := Has.at H103 hin103 rfl
              refine fun t kt => pre101 t ?_
              repeat rw [if_neg hc99] at kt
              repeat rw [if_neg hc102] at kt
              show Steps p.tables e below (T65.setTop (mkF m 263 #[.val (.int p1), .val (.int p2), .val (.int p3), .val (.int p4), .val (.int p5), .val (.int p6), .val (.ref b1), .val (.ref b20), .val (.ref b45), .val (.int x9), .val (.int x10), .val (.int v97), .unset] [(.int (2 : Int32)), (.int nn1)])) _
              refine XS.icmpNo Xc70.here hx rfl (hb hby at_263) rfl (flt hc102).1 ?_
              show Steps p.tables e below (T65.setTop (mkF m 266 #[.val (.int p1), .val (.int p2), .val (.int p3), .val (.int p4), .val (.int p5), .val (.int p6), .val (.ref b1), .val (.ref b20), .val (.ref b45), .val (.int x9), .val (.int x10), .val (.int v97), .unset] [])) _
              refine XS.aload Xc70.here hx rfl (hb hby at_266) rfl rfl ?_
              show Steps p.tables e below (T65.setTop (mkF m 268 #[.val (.int p1), .val (.int p2), .val (.int p3), .val (.int p4), .val (.int p5), .val (.int p6), .val (.ref b1), .val (.ref b20), .val (.ref b45), .val (.int x9), .val (.int x10), .val (.int v97), .unset] [(.ref b45)])) _
              refine XS.iconst Xc70.here hx rfl (hb hby at_268) ?_
              show Steps p.tables e below (T65.setTop (mkF m 269 #[.val (.int p1), .val (.int p2), .val (.int p3), .val (.int p4), .val (.int p5), .val (.int p6), .val (.ref b1), .val (.ref b20), .val (.ref b45), .val (.int x9), .val (.int x10), .val (.int v97), .unset] [(.int (1 : Int32)), (.ref b45)])) _
              refine Xc70.iaload hx (j := (1 : Int32)) (v := (.int ((0 : Int32) + nn0))) (by rw [e65]; exact Ar103.1) (State.isArrayOf_alike hZ.alike Ar103.2.1) Ar103.2.2 hin103 hat103 (g := (mkF m 269 #[.val (.int p1), .val (.int p2), .val (.int p3), .val (.int p4), .val (.int p5), .val (.int p6), .val (.ref b1), .val (.ref b20), .val (.ref b45), .val (.int x9), .val (.int x10), .val (.int v97), .unset] [(.int (1 : Int32)), (.ref b45)])) rfl rfl (hb hby at_269) _ ?_
              show Steps p.tables e below (T65.setTop (mkF m 270 #[.val (.int p1), .val (.int p2), .val (.int p3), .val (.int p4), .val (.int p5), .val (.int p6), .val (.ref b1), .val (.ref b20), .val (.ref b45), .val (.int x9), .val (.int x10), .val (.int v97), .unset] [(.int ((0 : Int32) + nn0))])) _
              refine XS.istore Xc70.here hx rfl (hb hby at_270) rfl (l' := #[.val (.int p1), .val (.int p2), .val (.int p3), .val (.int p4), .val (.int p5), .val (.int p6), .val (.ref b1), .val (.ref b20), .val (.ref b45), .val (.int x9), .val (.int x10), .val (.int ((0 : Int32) + nn0)), .unset]) rfl ?_
              exact kt
        obtain ⟨v105, hv105⟩ : ∃ z : Int32, z = (if (1 : Int32) < x9 then v97 else (if nn1 < (2 : Int32) then v97 else ((0 : Int32) + nn0))) := ⟨_, rfl⟩
        rw [← hv105] at pre104
        have pre106 : ∀ t, Steps p.tables e below (T65.setTop (mkF m 274 #[.val (.int p1), .val (.int p2), .val (.int p3), .val (.int p4), .val (.int p5), .val (.int p6), .val (.ref b1), .val (.ref b20), .val (.ref b45), .val (.int x9), .val (.int x10), .val (.int v105), .unset] [(.int x9)])) t → Steps p.tables e below (s₁.setTop (entryFrame m #[(.int p1), (.int p2), (.int p3), (.int p4), (.int p5), (.int p6)] maxLocals)) t := fun t kt => by
          refine pre104 t ?_
          show Steps p.tables e below (T65.setTop (mkF m 272 #[.val (.int p1), .val (.int p2), .val (.int p3), .val (.int p4), .val (.int p5), .val (.int p6), .val (.ref b1), .val (.ref b20), .val (.ref b45), .val (.int x9), .val (.int x10), .val (.int v105), .unset] [])) _
          refine XS.iload Xc70.here hx rfl (hb hby at_272) rfl ?_
          exact kt
        have pre112 : ∀ t, Steps p.tables e below (T65.setTop (mkF m 291 #[.val (.int p1), .val (.int p2), .val (.int p3), .val (.int p4), .val (.int p5), .val (.int p6), .val (.ref b1), .val (.ref b20), .val (.ref b45), .val (.int x9), .val (.int x10), .val (.int (if (0 : Int32) < x9 then v105 else (if nn0 < (2 : Int32) then v105 else (0 : Int32)))), .unset] [])) t → Steps p.tables e below (s₁.setTop (entryFrame m #[(.int p1), (.int p2), (.int p3), (.int p4), (.int p5), (.int p6)] maxLocals)) t := by
          by_cases hc107 : (0 : Int32) < x9
          · refine fun t kt => pre106 t ?_
            repeat rw [if_pos hc107] at kt
            show Steps p.tables e below (T65.setTop (mkF m 274 #[.val (.int p1), .val (.int p2), .val (.int p3), .val (.int p4), .val (.int p5), .val (.int p6), .val (.ref b1), .val (.ref b20), .val (.ref b45), .val (.int x9), .val (.int x10), .val (.int v105), .unset] [(.int x9)])) _
            refine XS.ifYes Xc70.here hx rfl (pc0 := 274) (pc' := 291) rfl (hb hby at_274) rfl ((if0 _ _).trans (tlt hc107).2.2.1) (by decide) (by decide) ?_
            exact kt
          · obtain ⟨cl108, Ar108, aq108, S108, M108, H108, G108⟩ := id fq68
            have hin108 : ¬ ((0 : Int32) < 0 ∨ cl108.slots.size ≤ ((0 : Int32)).toNatClampNeg) := inb_of S108 ⟨by decide, by decide⟩
            have hat108 : cl108.slots[((0 : Int32)).toNatClampNeg]? = some (.int nn0) := Has.at H108 hin108 rfl
            have pre109 : ∀ t, Steps p.tables e below (T65.setTop (mkF m 282 #[.val (.int p1), .val (.int p2), .val (.int p3), .val (.int p4), .val (.int p5), .val (.int p6), .val (.ref b1), .val (.ref b20), .val (.ref b45), .val (.int x9), .val (.int x10), .val (.int v105), .unset] [(.int (2 : Int32)), (.int nn0)])) t → Steps p.tables e below (s₁.setTop (entryFrame m #[(.int p1), (.int p2), (.int p3), (.int p4), (.int p5), (.int p6)] maxLocals)) t := fun t kt => by
              refine pre106 t ?_
              show Steps p.tables e below (T65.setTop (mkF m 274 #[.val (.int p1), .val (.int p2), .val (.int p3), .val (.int p4), .val (.int p5), .val (.int p6), .val (.ref b1), .val (.ref b20), .val (.ref b45), .val (.int x9), .val (.int x10), .val (.int v105), .unset] [(.int x9)])) _
              refine XS.ifNo Xc70.here hx rfl (hb hby at_274) rfl ((if0 _ _).trans (flt hc107).2.2.1) ?_
              show Steps p.tables e below (T65.setTop (mkF m 277 #[.val (.int p1), .val (.int p2), .val (.int p3), .val (.int p4), .val (.int p5), .val (.int p6), .val (.ref b1), .val (.ref b20), .val (.ref b45), .val (.int x9), .val (.int x10), .val (.int v105), .unset] [])) _
              refine XS.aload Xc70.here hx rfl (hb hby at_277) rfl rfl ?_
              show Steps p.tables e below (T65.setTop (mkF m 279 #[.val (.int p1), .val (.int p2), .val (.int p3), .val (.int p4), .val (.int p5), .val (.int p6), .val (.ref b1), .val (.ref b20), .val (.ref b45), .val (.int x9), .val (.int x10), .val (.int v105), .unset] [(.ref b20)])) _
              refine XS.iconst Xc70.here hx rfl (hb hby at_279) ?_
              show Steps p.tables e below (T65.setTop (mkF m 280 #[.val (.int p1), .val (.int p2), .val (.int p3), .val (.int p4), .val (.int p5), .val (.int p6), .val (.ref b1), .val (.ref b20), .val (.ref b45), .val (.int x9), .val (.int x10), .val (.int v105), .unset] [(.int (0 : Int32)), (.ref b20)])) _
              refine Xc70.iaload hx (j := (0 : Int32)) (v := (.int nn0)) (by rw [e65]; exact Ar108.1) (State.isArrayOf_alike hZ.alike Ar108.2.1) Ar108.2.2 hin108 hat108 (g := (mkF m 280 #[.val (.int p1), .val (.int p2), .val (.int p3), .val (.int p4), .val (.int p5), .val (.int p6), .val (.ref b1), .val (.ref b20), .val (.ref b45), .val (.int x9), .val (.int x10), .val (.int v105), .unset] [(.int (0 : Int32)), (.ref b20)])) rfl rfl (hb hby at_280) _ ?_
              show Steps p.tables e below (T65.setTop (mkF m 281 #[.val (.int p1), .val (.int p2), .val (.int p3), .val (.int p4), .val (.int p5), .val (.int p6), .val (.ref b1), .val (.ref b20), .val (.ref b45), .val (.int x9), .val (.int x10), .val (.int v105), .unset] [(.int nn0)])) _
              refine XS.iconst Xc70.here hx rfl (hb hby at_281) ?_
              exact kt
            by_cases hc110 : nn0 < (2 : Int32)
            · refine fun t kt => pre109 t ?_
              repeat rw [if_neg hc107] at kt
              repeat rw [if_pos hc110] at kt
              show Steps p.tables e below (T65.setTop (mkF m 282 #[.val (.int p1), .val (.int p2), .val (.int p3), .val (.int p4), .val (.int p5), .val (.int p6), .val (.ref b1), .val (.ref b20), .val (.ref b45), .val (.int x9), .val (.int x10), .val (.int v105), .unset] [(.int (2 : Int32)), (.int nn0)])) _
              refine XS.icmpYes Xc70.here hx rfl (pc0 := 282) (pc' := 291) rfl (hb hby at_282) rfl (tlt hc110).1 (by decide) (by decide) ?_
              exact kt
            · obtain ⟨cl111, Ar111, aq111, S111, M111, H111, G111⟩ := id V65
              have hin111 : ¬ ((0 : Int32) < 0 ∨ cl111.slots.size ≤ ((0 : Int32)).toNatClampNeg) := inb_of S111 ⟨by decide, by decide⟩
              have hat111 : cl111.slots[((0 : Int32)).toNatClampNeg]? = some (.int (0 : Int32)) := Has.at H111 hin111 rfl
              refine fun t kt => pre109 t ?_
              repeat rw [if_neg hc107] at kt
              repeat rw [if_neg hc110] at kt
              show Steps p.tables e below (T65.setTop (mkF m 282 #[.val (.int p1), .val (.int p2), .val (.int p3), .val (.int p4), .val (.int p5), .val (.int p6), .val (.ref b1), .val (.ref b20), .val (.ref b45), .val (.int x9), .val (.int x10), .val (.int v105), .unset] [(.int (2 : Int32)), (.int nn0)])) _
              refine XS.icmpNo Xc70.here hx rfl (hb hby at_282) rfl (flt hc110).1 ?_
              show Steps p.tables e below (T65.setTop (mkF m 285 #[.val (.int p1), .val (.int p2), .val (.int p3), .val (.int p4), .val (.int p5), .val (.int p6), .val (.ref b1), .val (.ref b20), .val (.ref b45), .val (.int x9), .val (.int x10), .val (.int v105), .unset] [])) _
              refine XS.aload Xc70.here hx rfl (hb hby at_285) rfl rfl ?_
              show Steps p.tables e below (T65.setTop (mkF m 287 #[.val (.int p1), .val (.int p2), .val (.int p3), .val (.int p4), .val (.int p5), .val (.int p6), .val (.ref b1), .val (.ref b20), .val (.ref b45), .val (.int x9), .val (.int x10), .val (.int v105), .unset] [(.ref b45)])) _
              refine XS.iconst Xc70.here hx rfl (hb hby at_287) ?_
              show Steps p.tables e below (T65.setTop (mkF m 288 #[.val (.int p1), .val (.int p2), .val (.int p3), .val (.int p4), .val (.int p5), .val (.int p6), .val (.ref b1), .val (.ref b20), .val (.ref b45), .val (.int x9), .val (.int x10), .val (.int v105), .unset] [(.int (0 : Int32)), (.ref b45)])) _
              refine Xc70.iaload hx (j := (0 : Int32)) (v := (.int (0 : Int32))) (by rw [e65]; exact Ar111.1) (State.isArrayOf_alike hZ.alike Ar111.2.1) Ar111.2.2 hin111 hat111 (g := (mkF m 288 #[.val (.int p1), .val (.int p2), .val (.int p3), .val (.int p4), .val (.int p5), .val (.int p6), .val (.ref b1), .val (.ref b20), .val (.ref b45), .val (.int x9), .val (.int x10), .val (.int v105), .unset] [(.int (0 : Int32)), (.ref b45)])) rfl rfl (hb hby at_288) _ ?_
              show Steps p.tables e below (T65.setTop (mkF m 289 #[.val (.int p1), .val (.int p2), .val (.int p3), .val (.int p4), .val (.int p5), .val (.int p6), .val (.ref b1), .val (.ref b20), .val (.ref b45), .val (.int x9), .val (.int x10), .val (.int v105), .unset] [(.int (0 : Int32))])) _
              refine XS.istore Xc70.here hx rfl (hb hby at_289) rfl (l' := #[.val (.int p1), .val (.int p2), .val (.int p3), .val (.int p4), .val (.int p5), .val (.int p6), .val (.ref b1), .val (.ref b20), .val (.ref b45), .val (.int x9), .val (.int x10), .val (.int (0 : Int32)), .unset]) rfl ?_
              exact kt
        obtain ⟨v113, hv113⟩ : ∃ z : Int32, z = (if (0 : Int32) < x9 then v105 else (if nn0 < (2 : Int32) then v105 else (0 : Int32))) := ⟨_, rfl⟩
        rw [← hv113] at pre112
        obtain ⟨Lc114, Xc114, Nc114⟩ : ∃ L, Stand p l e room_1 s m #[(.int p1), (.int p2), (.int p3), (.int p4), (.int p5), (.int p6)] below meth c T65 L 3 16 ∧ Fr n0 L := ⟨_, Xc70, Nc70⟩
        clear pre66 Xc70 Nc70 pre71 Ar72 aq72 S72 M72 H72 G72 hin72 hat72 pre73 pre74 pre80 pre82 pre88 pre90 pre96 pre98 pre104 pre106
        try clear cl72
        try clear Lc70
        as_aux_lemma =>
          obtain ⟨b115, g115⟩ : ∃ z, z = h65.size := ⟨_, rfl⟩
          obtain ⟨T115, h115, X115, e115, E115, A115, D115, -, st115⟩ := newO Xc114 hx hZ hown hw6 hw7 hw8 e65 (g := (mkF m 291 #[.val (.int p1), .val (.int p2), .val (.int p3), .val (.int p4), .val (.int p5), .val (.int p6), .val (.ref b1), .val (.ref b20), .val (.ref b45), .val (.int x9), .val (.int x10), .val (.int v113), .unset] [])) rfl (hb hby at_291) (by decide) (by decide)
          rw [← g115] at A115 D115 st115
          have g_b115 : n0 ≤ b115 := Nat.le_trans z69 (Nat.le_of_eq g115.symm)
          have ne_b1_b115 : b1 ≠ b115 := Nat.ne_of_lt (Nat.lt_of_lt_of_le fq67.lt (Nat.le_of_eq g115.symm))
          have ne_b20_b115 : b20 ≠ b115 := Nat.ne_of_lt (Nat.lt_of_lt_of_le fq68.lt (Nat.le_of_eq g115.symm))
          have ne_b45_b115 : b45 ≠ b115 := Nat.ne_of_lt (Nat.lt_of_lt_of_le V65.lt (Nat.le_of_eq g115.symm))
          have F_size_b115 : Fld Z h115 b115 "com/example/tercet/tercet/Partition" "size" "I" (.int (0 : Int32)) := D115 (Or.inr hw16) (ty := .int) (by decide)
          have F_arcStart_b115 : Fld Z h115 b115 "com/example/tercet/tercet/Partition" "arcStart" "[I" .null := D115 (Or.inr hw18) (ty := (.array .int)) (by decide)
          have F_arcKeys_b115 : Fld Z h115 b115 "com/example/tercet/tercet/Partition" "arcKeys" "[I" .null := D115 (Or.inr hw20) (ty := (.array .int)) (by decide)
          have F_arcNodes_b115 : Fld Z h115 b115 "com/example/tercet/tercet/Partition" "arcNodes" "[I" .null := D115 (Or.inr hw22) (ty := (.array .int)) (by decide)
          have F_order_b115 : Fld Z h115 b115 "com/example/tercet/tercet/Partition" "order" "[I" .null := D115 (Or.inr hw24) (ty := (.array .int)) (by decide)
          have F_position_b115 : Fld Z h115 b115 "com/example/tercet/tercet/Partition" "position" "[I" .null := D115 (Or.inr hw26) (ty := (.array .int)) (by decide)
          have F_cellOf_b115 : Fld Z h115 b115 "com/example/tercet/tercet/Partition" "cellOf" "[I" .null := D115 (Or.inr hw28) (ty := (.array .int)) (by decide)
          have F_cellEnd_b115 : Fld Z h115 b115 "com/example/tercet/tercet/Partition" "cellEnd" "[I" .null := D115 (Or.inr hw30) (ty := (.array .int)) (by decide)
          have F_queue_b115 : Fld Z h115 b115 "com/example/tercet/tercet/Partition" "queue" "[I" .null := D115 (Or.inr hw32) (ty := (.array .int)) (by decide)
          have F_queued_b115 : Fld Z h115 b115 "com/example/tercet/tercet/Partition" "queued" "[Z" .null := D115 (Or.inr hw35) (ty := (.array .boolean)) (by decide)
          have F_trail_b115 : Fld Z h115 b115 "com/example/tercet/tercet/Partition" "trail" "[I" .null := D115 (Or.inr hw37) (ty := (.array .int)) (by decide)
          have F_trailParent_b115 : Fld Z h115 b115 "com/example/tercet/tercet/Partition" "trailParent" "[I" .null := D115 (Or.inr hw39) (ty := (.array .int)) (by decide)
          have F_reached_b115 : Fld Z h115 b115 "com/example/tercet/tercet/Partition" "reached" "[I" .null := D115 (Or.inr hw41) (ty := (.array .int)) (by decide)
          have F_hitKeys_b115 : Fld Z h115 b115 "com/example/tercet/tercet/Partition" "hitKeys" "[I" .null := D115 (Or.inr hw43) (ty := (.array .int)) (by decide)
          have F_keysStart_b115 : Fld Z h115 b115 "com/example/tercet/tercet/Partition" "keysStart" "[I" .null := D115 (Or.inr hw45) (ty := (.array .int)) (by decide)
          have F_keysEnd_b115 : Fld Z h115 b115 "com/example/tercet/tercet/Partition" "keysEnd" "[I" .null := D115 (Or.inr hw47) (ty := (.array .int)) (by decide)
          have F_cellsReached_b115 : Fld Z h115 b115 "com/example/tercet/tercet/Partition" "cellsReached" "[I" .null := D115 (Or.inr hw49) (ty := (.array .int)) (by decide)
          have F_reachedInCell_b115 : Fld Z h115 b115 "com/example/tercet/tercet/Partition" "reachedInCell" "[I" .null := D115 (Or.inr hw51) (ty := (.array .int)) (by decide)
          have F_byCell_b115 : Fld Z h115 b115 "com/example/tercet/tercet/Partition" "byCell" "[I" .null := D115 (Or.inr hw53) (ty := (.array .int)) (by decide)
          have F_mergeBuffer_b115 : Fld Z h115 b115 "com/example/tercet/tercet/Partition" "mergeBuffer" "[I" .null := D115 (Or.inr hw55) (ty := (.array .int)) (by decide)
          have F_groupStarts_b115 : Fld Z h115 b115 "com/example/tercet/tercet/Partition" "groupStarts" "[I" .null := D115 (Or.inr hw57) (ty := (.array .int)) (by decide)
          have F_cells_b115 : Fld Z h115 b115 "com/example/tercet/tercet/Partition" "cells" "I" (.int (0 : Int32)) := D115 (Or.inl hw59) (ty := .int) (by decide)
          have F_queueHead_b115 : Fld Z h115 b115 "com/example/tercet/tercet/Partition" "queueHead" "I" (.int (0 : Int32)) := D115 (Or.inl hw65) (ty := .int) (by decide)
          have F_queueSize_b115 : Fld Z h115 b115 "com/example/tercet/tercet/Partition" "queueSize" "I" (.int (0 : Int32)) := D115 (Or.inl hw67) (ty := .int) (by decide)
          have fq117 := (fq67.ext E115)
          have fq118 := (fq68.ext E115)
          have fq119 := (V65.ext E115)
          have z120 : n0 ≤ h115.size := (Nat.le_trans z69 E115.1)
          obtain ⟨b116, g116⟩ : ∃ z, z = h115.size := ⟨_, rfl⟩
          obtain ⟨T116, h116, k116, X116, e116, E116, A116, st116⟩ := newP X115 hx hZ (hw _ (List.mem_of_getElem? (i := 0) rfl)) e115 (g := (mkF m 299 #[.val (.int p1), .val (.int p2), .val (.int p3), .val (.int p4), .val (.int p5), .val (.int p6), .val (.ref b1), .val (.ref b20), .val (.ref b45), .val (.int x9), .val (.int x10), .val (.int v113), .unset] [(.int (6 : Int32)), (.ref b1), (.ref b115), (.ref b115)])) rfl (hb hby at_299) rfl (by decide) (cap := 6) (by decide) (by decide) (by decide) (by decide)
          rw [← g116] at A116 st116
          have g_b116 : n0 ≤ b116 := Nat.le_trans z120 (Nat.le_of_eq g116.symm)
          have ne_b1_b116 : b1 ≠ b116 := Nat.ne_of_lt (Nat.lt_of_lt_of_le fq117.lt (Nat.le_of_eq g116.symm))
          have ne_b115_b116 : b115 ≠ b116 := Nat.ne_of_lt (Nat.lt_of_lt_of_le A115.lt (Nat.le_of_eq g116.symm))
          have ne_b20_b116 : b20 ≠ b116 := Nat.ne_of_lt (Nat.lt_of_lt_of_le fq118.lt (Nat.le_of_eq g116.symm))
          have ne_b45_b116 : b45 ≠ b116 := Nat.ne_of_lt (Nat.lt_of_lt_of_le fq119.lt (Nat.le_of_eq g116.symm))
          have V116 : Arv Z h116 b116 k116 .int (6 : Int32) [(.int (0 : Int32)), (.int (0 : Int32)), (.int (0 : Int32)), (.int (0 : Int32)), (.int (0 : Int32)), (.int (0 : Int32))] (.int (0 : Int32)) := (Arv.new A116 (by decide)).pad (pad_rep [] (.int (0 : Int32)) 6)
          have fq122 := (fq117.ext E116)
          have fq123 := (Exa.ext E116 A115)
          have fq124 := (fq118.ext E116)
          have fq125 := (fq119.ext E116)
          have z126 : n0 ≤ h116.size := (Nat.le_trans z120 E116.1)
          obtain ⟨b121, g121⟩ : ∃ z, z = h116.size := ⟨_, rfl⟩
          obtain ⟨T121, h121, k121, X121, e121, E121, A121, st121⟩ := newP X116 hx hZ (hw _ (List.mem_of_getElem? (i := 0) rfl)) e116 (g := (mkF m 302 #[.val (.int p1), .val (.int p2), .val (.int p3), .val (.int p4), .val (.int p5), .val (.int p6), .val (.ref b1), .val (.ref b20), .val (.ref b45), .val (.int x9), .val (.int x10), .val (.int v113), .unset] [(.int (0 : Int32)), (.ref b116), (.ref b1), (.ref b115), (.ref b115)])) rfl (hb hby at_302) rfl (by decide) (cap := 0) (by decide) (by decide) (by decide) (by decide)
          rw [← g121] at A121 st121
          have g_b121 : n0 ≤ b121 := Nat.le_trans z126 (Nat.le_of_eq g121.symm)
          have ne_b1_b121 : b1 ≠ b121 := Nat.ne_of_lt (Nat.lt_of_lt_of_le fq122.lt (Nat.le_of_eq g121.symm))
          have ne_b115_b121 : b115 ≠ b121 := Nat.ne_of_lt (Nat.lt_of_lt_of_le fq123.lt (Nat.le_of_eq g121.symm))
          have ne_b116_b121 : b116 ≠ b121 := Nat.ne_of_lt (Nat.lt_of_lt_of_le V116.lt (Nat.le_of_eq g121.symm))
          have ne_b20_b121 : b20 ≠ b121 := Nat.ne_of_lt (Nat.lt_of_lt_of_le fq124.lt (Nat.le_of_eq g121.symm))
          have ne_b45_b121 : b45 ≠ b121 := Nat.ne_of_lt (Nat.lt_of_lt_of_le fq125.lt (Nat.le_of_eq g121.symm))
          have V121 : Arv Z h121 b121 k121 .int (0 : Int32) [] (.int (0 : Int32)) := (Arv.new A121 (by decide)).pad (pad_rep [] (.int (0 : Int32)) 0)
          have fq128 := (fq122.ext E121)
          have fq129 := (Exa.ext E121 fq123)
          have fq130 := (V116.ext E121)
          have fq131 := (fq124.ext E121)
          have fq132 := (fq125.ext E121)
          have z133 : n0 ≤ h121.size := (Nat.le_trans z126 E121.1)
          obtain ⟨b127, g127⟩ : ∃ z, z = h121.size := ⟨_, rfl⟩
          obtain ⟨T127, h127, k127, X127, e127, E127, A127, st127⟩ := newP X121 hx hZ (hw _ (List.mem_of_getElem? (i := 0) rfl)) e121 (g := (mkF m 305 #[.val (.int p1), .val (.int p2), .val (.int p3), .val (.int p4), .val (.int p5), .val (.int p6), .val (.ref b1), .val (.ref b20), .val (.ref b45), .val (.int x9), .val (.int x10), .val (.int v113), .unset] [(.int (0 : Int32)), (.ref b121), (.ref b116), (.ref b1), (.ref b115), (.ref b115)])) rfl (hb hby at_305) rfl (by decide) (cap := 0) (by decide) (by decide) (by decide) (by decide)
          rw [← g127] at A127 st127
          have g_b127 : n0 ≤ b127 := Nat.le_trans z133 (Nat.le_of_eq g127.symm)
          have ne_b1_b127 : b1 ≠ b127 := Nat.ne_of_lt (Nat.lt_of_lt_of_le fq128.lt (Nat.le_of_eq g127.symm))
          have ne_b115_b127 : b115 ≠ b127 := Nat.ne_of_lt (Nat.lt_of_lt_of_le fq129.lt (Nat.le_of_eq g127.symm))
          have ne_b116_b127 : b116 ≠ b127 := Nat.ne_of_lt (Nat.lt_of_lt_of_le fq130.lt (Nat.le_of_eq g127.symm))
          have ne_b121_b127 : b121 ≠ b127 := Nat.ne_of_lt (Nat.lt_of_lt_of_le V121.lt (Nat.le_of_eq g127.symm))
          have ne_b20_b127 : b20 ≠ b127 := Nat.ne_of_lt (Nat.lt_of_lt_of_le fq131.lt (Nat.le_of_eq g127.symm))
          have ne_b45_b127 : b45 ≠ b127 := Nat.ne_of_lt (Nat.lt_of_lt_of_le fq132.lt (Nat.le_of_eq g127.symm))
          have V127 : Arv Z h127 b127 k127 .int (0 : Int32) [] (.int (0 : Int32)) := (Arv.new A127 (by decide)).pad (pad_rep [] (.int (0 : Int32)) 0)
          have fq135 := (Fld.ext E127 (Fld.ext E121 (Fld.ext E116 F_queueHead_b115)))
          have fq136 := (Fld.ext E127 (Fld.ext E121 (Fld.ext E116 F_queueSize_b115)))
          have fq137 := (Fld.ext E127 (Fld.ext E121 (Fld.ext E116 F_cells_b115)))
          have fq138 := (Fld.ext E127 (Fld.ext E121 (Fld.ext E116 F_size_b115)))
          have fq139 := (Fld.ext E127 (Fld.ext E121 (Fld.ext E116 F_arcStart_b115)))
          have fq140 := (Fld.ext E127 (Fld.ext E121 (Fld.ext E116 F_arcKeys_b115)))
          have fq141 := (Fld.ext E127 (Fld.ext E121 (Fld.ext E116 F_arcNodes_b115)))
          have fq142 := (Fld.ext E127 (Fld.ext E121 (Fld.ext E116 F_order_b115)))
          have fq143 := (Fld.ext E127 (Fld.ext E121 (Fld.ext E116 F_position_b115)))
          have fq144 := (Fld.ext E127 (Fld.ext E121 (Fld.ext E116 F_cellOf_b115)))
          have fq145 := (Fld.ext E127 (Fld.ext E121 (Fld.ext E116 F_cellEnd_b115)))
          have fq146 := (Fld.ext E127 (Fld.ext E121 (Fld.ext E116 F_queue_b115)))
          have fq147 := (Fld.ext E127 (Fld.ext E121 (Fld.ext E116 F_queued_b115)))
          have fq148 := (Fld.ext E127 (Fld.ext E121 (Fld.ext E116 F_trail_b115)))
          have fq149 := (Fld.ext E127 (Fld.ext E121 (Fld.ext E116 F_trailParent_b115)))
          have fq150 := (Fld.ext E127 (Fld.ext E121 (Fld.ext E116 F_reached_b115)))
          have fq151 := (Fld.ext E127 (Fld.ext E121 (Fld.ext E116 F_hitKeys_b115)))
          have fq152 := (Fld.ext E127 (Fld.ext E121 (Fld.ext E116 F_keysStart_b115)))
          have fq153 := (Fld.ext E127 (Fld.ext E121 (Fld.ext E116 F_keysEnd_b115)))
          have fq154 := (Fld.ext E127 (Fld.ext E121 (Fld.ext E116 F_cellsReached_b115)))
          have fq155 := (Fld.ext E127 (Fld.ext E121 (Fld.ext E116 F_reachedInCell_b115)))
          have fq156 := (Fld.ext E127 (Fld.ext E121 (Fld.ext E116 F_byCell_b115)))
          have fq157 := (Fld.ext E127 (Fld.ext E121 (Fld.ext E116 F_mergeBuffer_b115)))
          have fq158 := (Fld.ext E127 (Fld.ext E121 (Fld.ext E116 F_groupStarts_b115)))
          have fq159 := (Exa.ext E127 fq129)
          have fq160 := (fq128.ext E127)
          have fq161 := (fq130.ext E127)
          have fq162 := (V121.ext E127)
          have z163 : n0 ≤ h127.size := (Nat.le_trans z133 E127.1)
          obtain ⟨_, _, ⟨T134, L134, k134, n134⟩, -, X134, ⟨Lc134, hQ134, l134, y134, z134⟩, st134⟩ := X127.specialBack hx (y := (⟨"com/example/tercet/tercet/Partition", "<init>", "([I[I[I[I)V"⟩ : MethodName)) rfl hown (mvT hZ hw9) (mvT hZ hw10) (mvT hZ hw11) (by decide) (backOf (W := 1) (rm2 l Z a0 hw [] b115 b1 b116 b121 b127 (.int (0 : Int32)) .null .null .null .null .null .null .null .null .null .null .null .null .null .null .null .null .null .null .null .null k1 c0 c1 c2 c3 c4 k116 k121 k127 h127 n0 z163 fq159 fq135 fq136 fq137 fq138 fq139 fq140 fq141 fq142 fq143 fq144 fq145 fq146 fq147 fq148 fq149 fq150 fq151 fq152 fq153 fq154 fq155 fq156 fq157 fq158 fq160 fq161 fq162 V127 (side_0_307 p1 p2 p3 p4 p5 p6 c0 c1 c2 c3 c4 hC nn0 hnn0 nn1 hnn1 nn2 hnn2 nn3 hnn3 nn4 hnn4 x9 hx9 x10 hx10 v81 hv81 v89 hv89 v97 hv97 v105 hv105 v113 hv113) g_b115 ne_b1_b115 (Ne.symm ne_b115_b121)) hZ hw11 hw8 (by decide) (by decide)) (g := (mkF m 307 #[.val (.int p1), .val (.int p2), .val (.int p3), .val (.int p4), .val (.int p5), .val (.int p6), .val (.ref b1), .val (.ref b20), .val (.ref b45), .val (.int x9), .val (.int x10), .val (.int v113), .unset] [(.ref b127), (.ref b121), (.ref b116), (.ref b1), (.ref b115), (.ref b115)])) rfl (by rw [hml]; rfl) (Steps.refl _) (a := b115) (argsL := [(.ref b1), (.ref b116), (.ref b121), (.ref b127)]) (rest := [(.ref b115)]) (lenOf pd_0_1 rfl) rfl (by show 2 * 0 + _ ≤ _; exact Nat.le_of_eq rfl) (hb hby at_307) (fun _ _ => ⟨rfl, e127, (by decide : 7 + 18 ≤ _), (by decide : 48 + 86 ≤ _)⟩)
          dsimp only [Pt.U, Pt.locs, Pt.cells, Pt.slots] at X134 l134 y134 z134 st134 hQ134
          subst l134 y134 z134
          obtain ⟨rfl, N134q, zs134, ce134, kc134, E134, F1134, F2134, V134⟩ := hQ134
          have N134 := Fr.app Nc114 N134q
          have pre164 : ∀ t, Steps p.tables e below (T134.setTop (mkF m 310 #[.val (.int p1), .val (.int p2), .val (.int p3), .val (.int p4), .val (.int p5), .val (.int p6), .val (.ref b1), .val (.ref b20), .val (.ref b45), .val (.int x9), .val (.int x10), .val (.int v113), .unset] [(.ref b115)])) t → Steps p.tables e below (s₁.setTop (entryFrame m #[(.int p1), (.int p2), (.int p3), (.int p4), (.int p5), (.int p6)] maxLocals)) t := fun t kt => by
            refine pre112 t ?_
            show Steps p.tables e below (T65.setTop (mkF m 291 #[.val (.int p1), .val (.int p2), .val (.int p3), .val (.int p4), .val (.int p5), .val (.int p6), .val (.ref b1), .val (.ref b20), .val (.ref b45), .val (.int x9), .val (.int x10), .val (.int v113), .unset] [])) _
            refine st115 _ ?_
            show Steps p.tables e below (T115.setTop (mkF m 294 #[.val (.int p1), .val (.int p2), .val (.int p3), .val (.int p4), .val (.int p5), .val (.int p6), .val (.ref b1), .val (.ref b20), .val (.ref b45), .val (.int x9), .val (.int x10), .val (.int v113), .unset] [(.ref b115)])) _
            refine XS.dup X115.here hx rfl (hb hby at_294) rfl rfl ?_
            show Steps p.tables e below (T115.setTop (mkF m 295 #[.val (.int p1), .val (.int p2), .val (.int p3), .val (.int p4), .val (.int p5), .val (.int p6), .val (.ref b1), .val (.ref b20), .val (.ref b45), .val (.int x9), .val (.int x10), .val (.int v113), .unset] [(.ref b115), (.ref b115)])) _
            refine XS.aload X115.here hx rfl (hb hby at_295) rfl rfl ?_
            show Steps p.tables e below (T115.setTop (mkF m 297 #[.val (.int p1), .val (.int p2), .val (.int p3), .val (.int p4), .val (.int p5), .val (.int p6), .val (.ref b1), .val (.ref b20), .val (.ref b45), .val (.int x9), .val (.int x10), .val (.int v113), .unset] [(.ref b1), (.ref b115), (.ref b115)])) _
            refine XS.bipush X115.here hx rfl (hb hby at_297) ?_
            show Steps p.tables e below (T115.setTop (mkF m 299 #[.val (.int p1), .val (.int p2), .val (.int p3), .val (.int p4), .val (.int p5), .val (.int p6), .val (.ref b1), .val (.ref b20), .val (.ref b45), .val (.int x9), .val (.int x10), .val (.int v113), .unset] [(.int (6 : Int32)), (.ref b1), (.ref b115), (.ref b115)])) _
            refine st116 _ ?_
            show Steps p.tables e below (T116.setTop (mkF m 301 #[.val (.int p1), .val (.int p2), .val (.int p3), .val (.int p4), .val (.int p5), .val (.int p6), .val (.ref b1), .val (.ref b20), .val (.ref b45), .val (.int x9), .val (.int x10), .val (.int v113), .unset] [(.ref b116), (.ref b1), (.ref b115), (.ref b115)])) _
            refine XS.iconst X116.here hx rfl (hb hby at_301) ?_
            show Steps p.tables e below (T116.setTop (mkF m 302 #[.val (.int p1), .val (.int p2), .val (.int p3), .val (.int p4), .val (.int p5), .val (.int p6), .val (.ref b1), .val (.ref b20), .val (.ref b45), .val (.int x9), .val (.int x10), .val (.int v113), .unset] [(.int (0 : Int32)), (.ref b116), (.ref b1), (.ref b115), (.ref b115)])) _
            refine st121 _ ?_
            show Steps p.tables e below (T121.setTop (mkF m 304 #[.val (.int p1), .val (.int p2), .val (.int p3), .val (.int p4), .val (.int p5), .val (.int p6), .val (.ref b1), .val (.ref b20), .val (.ref b45), .val (.int x9), .val (.int x10), .val (.int v113), .unset] [(.ref b121), (.ref b116), (.ref b1), (.ref b115), (.ref b115)])) _
            refine XS.iconst X121.here hx rfl (hb hby at_304) ?_
            show Steps p.tables e below (T121.setTop (mkF m 305 #[.val (.int p1), .val (.int p2), .val (.int p3), .val (.int p4), .val (.int p5), .val (.int p6), .val (.ref b1), .val (.ref b20), .val (.ref b45), .val (.int x9), .val (.int x10), .val (.int v113), .unset] [(.int (0 : Int32)), (.ref b121), (.ref b116), (.ref b1), (.ref b115), (.ref b115)])) _
            refine st127 _ ?_
            show Steps p.tables e below (T127.setTop (mkF m 307 #[.val (.int p1), .val (.int p2), .val (.int p3), .val (.int p4), .val (.int p5), .val (.int p6), .val (.ref b1), .val (.ref b20), .val (.ref b45), .val (.int x9), .val (.int x10), .val (.int v113), .unset] [(.ref b127), (.ref b121), (.ref b116), (.ref b1), (.ref b115), (.ref b115)])) _
            refine st134.trans ?_
            exact kt
          obtain ⟨Lc165, Xc165, Nc165⟩ : ∃ L, Stand p l e room_1 s m #[(.int p1), (.int p2), (.int p3), (.int p4), (.int p5), (.int p6)] below meth c T134 L 25 134 ∧ Fr n0 L := ⟨_, X134, N134⟩
          clear g_b1 g_b20 ne_b1_b20 g_b45 ne_b1_b45 ne_b20_b45 e65 V65 fq67 fq68 z69 pre112 Xc114 Nc114 g115 X115 e115 E115 A115 D115 st115 ne_b1_b115 ne_b20_b115 ne_b45_b115 F_size_b115 F_arcStart_b115 F_arcKeys_b115 F_arcNodes_b115 F_order_b115 F_position_b115 F_cellOf_b115 F_cellEnd_b115 F_queue_b115 F_queued_b115 F_trail_b115 F_trailParent_b115 F_reached_b115 F_hitKeys_b115 F_keysStart_b115 F_keysEnd_b115 F_cellsReached_b115 F_reachedInCell_b115 F_byCell_b115 F_mergeBuffer_b115 F_groupStarts_b115 F_cells_b115 F_queueHead_b115 F_queueSize_b115 fq117 fq118 fq119 z120 g116 X116 e116 E116 A116 st116 g_b116 ne_b1_b116 ne_b115_b116 ne_b20_b116 ne_b45_b116 V116 fq122 fq123 fq124 fq125 z126 g121 X121 e121 E121 A121 st121 g_b121 ne_b1_b121 ne_b115_b121 ne_b116_b121 ne_b20_b121 ne_b45_b121 V121 fq128 fq129 fq130 fq131 fq132 z133 g127 X127 e127 E127 A127 st127 g_b127 ne_b1_b127 ne_b115_b127 ne_b116_b127 ne_b121_b127 ne_b20_b127 ne_b45_b127 V127 fq135 fq136 fq137 fq138 fq139 fq140 fq141 fq142 fq143 fq144 fq145 fq146 fq147 fq148 fq149 fq150 fq151 fq152 fq153 fq154 fq155 fq156 fq157 fq158 fq159 fq160 fq161 fq162 z163 X134 st134 N134q N134
          try clear Lc134
          try clear L134
          try clear k127
          try clear h127
          try clear T127
          try clear b127
          try clear k121
          try clear h121
          try clear T121
          try clear b121
          try clear k116
          try clear h116
          try clear T116
          try clear b116
          try clear h115
          try clear T115
          try clear Lc114
          try clear h65
          try clear T65
          try clear k45
          try clear b45
          try clear k20
          try clear b20
          try clear k1
          try clear b1
          as_aux_lemma =>
            obtain ⟨cq166, kq166, iq166a, iq166b, iq166c⟩ := isOf hZ rfl E134
            obtain ⟨_, _, ⟨T166, L166, k166, n166⟩, -, X166, ⟨Lc166, hQ166, l166, y166, z166⟩, st166⟩ := Xc165.virtualBack hx (y := (⟨"com/example/tercet/tercet/Partition", "firstNonSingletonCell", "(I)I"⟩ : MethodName)) (z := (⟨"com/example/tercet/tercet/Partition", "firstNonSingletonCell", "(I)I"⟩ : MethodName)) hown (mvT hZ hw68) (mvT hZ hw69) (notFace_of_selects (args := #[]) (mvT hZ hw71)) (mvT hZ hw71) (mvT hZ hw70) (by decide) (backOf (W := 0) (rm5 l Z a0 hw [] b115 x10 ce134 kc134 (own_CE c0 c1 c2 c3 c4) T134.heap n0 zs134 E134 F1134 F2134 V134 (own_CEl c0 c1 c2 c3 c4) (side_0_316 p1 p2 p3 p4 p5 p6 c0 c1 c2 c3 c4 hC nn0 hnn0 nn1 hnn1 nn2 hnn2 nn3 hnn3 nn4 hnn4 x9 hx9 x10 hx10 v81 hv81 v89 hv89 v97 hv97 v105 hv105 v113 hv113)) hZ hw72 hw8 (by decide) (by decide)) iq166a iq166c (g := (mkF m 316 #[.val (.int p1), .val (.int p2), .val (.int p3), .val (.int p4), .val (.int p5), .val (.int p6), .val (.ref b1), .val (.ref b20), .val (.ref b45), .val (.int x9), .val (.int x10), .val (.int v113), .val (.ref b115)] [(.int x10), (.ref b115)])) rfl (by rw [hml]; rfl) (Steps.refl _) (argsL := [(.int x10)]) (rest := []) (lenOf pd_0_0 rfl) rfl (by show 2 * 0 + _ ≤ _; exact Nat.le_of_eq rfl) (hb hby at_316) (fun _ _ => ⟨rfl, rfl, (by decide : 25 + 0 ≤ _), (by decide : 134 + 0 ≤ _)⟩)
            dsimp only [Pt.U, Pt.locs, Pt.cells, Pt.slots] at X166 l166 y166 z166 st166 hQ166
            subst l166 y166 z166
            obtain ⟨rfl, N166q, e166⟩ := hQ166
            have N166 := Fr.app Nc165 N166q
            have pre167 : ∀ t, Steps p.tables e below (T166.setTop (mkF m 321 #[.val (.int p1), .val (.int p2), .val (.int p3), .val (.int p4), .val (.int p5), .val (.int p6), .val (.ref b1), .val (.ref b20), .val (.ref b45), .val (.int x9), .val (.int x10), .val (.int v113), .val (.ref b115)] [(.int v113), (.int (own_fn (own_CE c0 c1 c2 c3 c4) 6 (x10).toNatClampNeg))])) t → Steps p.tables e below (s₁.setTop (entryFrame m #[(.int p1), (.int p2), (.int p3), (.int p4), (.int p5), (.int p6)] maxLocals)) t := fun t kt => by
              refine pre164 t ?_
              show Steps p.tables e below (T134.setTop (mkF m 310 #[.val (.int p1), .val (.int p2), .val (.int p3), .val (.int p4), .val (.int p5), .val (.int p6), .val (.ref b1), .val (.ref b20), .val (.ref b45), .val (.int x9), .val (.int x10), .val (.int v113), .unset] [(.ref b115)])) _
              refine XS.astore Xc165.here hx rfl (hb hby at_310) rfl rfl (l' := #[.val (.int p1), .val (.int p2), .val (.int p3), .val (.int p4), .val (.int p5), .val (.int p6), .val (.ref b1), .val (.ref b20), .val (.ref b45), .val (.int x9), .val (.int x10), .val (.int v113), .val (.ref b115)]) rfl ?_
              show Steps p.tables e below (T134.setTop (mkF m 312 #[.val (.int p1), .val (.int p2), .val (.int p3), .val (.int p4), .val (.int p5), .val (.int p6), .val (.ref b1), .val (.ref b20), .val (.ref b45), .val (.int x9), .val (.int x10), .val (.int v113), .val (.ref b115)] [])) _
              refine XS.aload Xc165.here hx rfl (hb hby at_312) rfl rfl ?_
              show Steps p.tables e below (T134.setTop (mkF m 314 #[.val (.int p1), .val (.int p2), .val (.int p3), .val (.int p4), .val (.int p5), .val (.int p6), .val (.ref b1), .val (.ref b20), .val (.ref b45), .val (.int x9), .val (.int x10), .val (.int v113), .val (.ref b115)] [(.ref b115)])) _
              refine XS.iload Xc165.here hx rfl (hb hby at_314) rfl ?_
              show Steps p.tables e below (T134.setTop (mkF m 316 #[.val (.int p1), .val (.int p2), .val (.int p3), .val (.int p4), .val (.int p5), .val (.int p6), .val (.ref b1), .val (.ref b20), .val (.ref b45), .val (.int x9), .val (.int x10), .val (.int v113), .val (.ref b115)] [(.int x10), (.ref b115)])) _
              refine st166.trans ?_
              show Steps p.tables e below (T166.setTop (mkF m 319 #[.val (.int p1), .val (.int p2), .val (.int p3), .val (.int p4), .val (.int p5), .val (.int p6), .val (.ref b1), .val (.ref b20), .val (.ref b45), .val (.int x9), .val (.int x10), .val (.int v113), .val (.ref b115)] [(.int (own_fn (own_CE c0 c1 c2 c3 c4) 6 (x10).toNatClampNeg))])) _
              refine XS.iload X166.here hx rfl (hb hby at_319) rfl ?_
              exact kt
            by_cases hc168 : (own_fn (own_CE c0 c1 c2 c3 c4) 6 (x10).toNatClampNeg) = v113
            · obtain ⟨fs, hr, hrun, hended, hW, hsame⟩ := X166.leave (v := some (.int (1 : Int32))) (fun h => by rw [Bd.returns] at h; cases h) hlk
              refine ⟨_, _, pre167 _ ?_, hrun, hended, _, _, rfl, ?_, ⟨_, rfl⟩, hW, hsame.mono (by decide) (by decide)⟩
              · show Steps p.tables e below (T166.setTop (mkF m 321 #[.val (.int p1), .val (.int p2), .val (.int p3), .val (.int p4), .val (.int p5), .val (.int p6), .val (.ref b1), .val (.ref b20), .val (.ref b45), .val (.int x9), .val (.int x10), .val (.int v113), .val (.ref b115)] [(.int v113), (.int (own_fn (own_CE c0 c1 c2 c3 c4) 6 (x10).toNatClampNeg))])) _
                refine XS.icmpNo X166.here hx rfl (hb hby at_321) rfl (teq hc168).2 ?_
                show Steps p.tables e below (T166.setTop (mkF m 324 #[.val (.int p1), .val (.int p2), .val (.int p3), .val (.int p4), .val (.int p5), .val (.int p6), .val (.ref b1), .val (.ref b20), .val (.ref b45), .val (.int x9), .val (.int x10), .val (.int v113), .val (.ref b115)] [])) _
                refine XS.iconst X166.here hx rfl (hb hby at_324) ?_
                show Steps p.tables e below (T166.setTop (mkF m 325 #[.val (.int p1), .val (.int p2), .val (.int p3), .val (.int p4), .val (.int p5), .val (.int p6), .val (.ref b1), .val (.ref b20), .val (.ref b45), .val (.int x9), .val (.int x10), .val (.int v113), .val (.ref b115)] [(.int (1 : Int32))])) _
                refine XS.goto X166.here hx rfl (pc0 := 325) (pc' := 329) rfl (hb hby at_325) (by decide) (by decide) ?_
                show Steps p.tables e below (T166.setTop (mkF m 329 #[.val (.int p1), .val (.int p2), .val (.int p3), .val (.int p4), .val (.int p5), .val (.int p6), .val (.ref b1), .val (.ref b20), .val (.ref b45), .val (.int x9), .val (.int x10), .val (.int v113), .val (.ref b115)] [(.int (1 : Int32))])) _
                exact retN X166 hx (t := .boolean) Bd.returns (by simp) (hb hby at_329) hr
              · show Q0 Z p1 p2 p3 p4 p5 p6 h0 n0 _ T166.heap _
                rw [e166]
                exact ⟨rfl, N166⟩
            · exact (leaf_0_2 p1 p2 p3 p4 p5 p6 c0 c1 c2 c3 c4 hC nn0 hnn0 nn1 hnn1 nn2 hnn2 nn3 hnn3 nn4 hnn4 x9 hx9 x10 hx10 v81 hv81 v89 hv89 v97 hv97 v105 hv105 v113 hv113 hc168).elim
set_option maxRecDepth 65536 in
set_option maxHeartbeats 40000000 in
theorem comes_1 {Post : Tables → Env → Array Value → State → Outcome → State → Prop} (hpost : ∀ tb e args s v u, (limb_1_1.after args s (.returned v) u = true ∧ limb_1_2.after args s (.returned v) u = true ∧ True) → FrameEnd s (.returned v) u (Jvm.fieldLocs frame_1_writes args s ++ Jvm.arrayLocs frame_1_arrays args s ++ Jvm.staticLocs frame_1_statics s) 64 384 → Post tb e args s (.returned v) u) :
    ArmFor flags0 classFile x code maxLocals ret World_1 tables_1 room_1 Calls_1 rest_1 Pre_1 Post := by
  intro l hfl _ _ p e ha hc hk s m args below hf hA hF happ hP
  obtain ⟨hcalls, hrest, hpre⟩ := hP
  obtain ⟨-, -, -, hnamed, -, -, -, hat⟩ := (Spec.applies_iff hf).mp happ
  obtain ⟨hg, hn⟩ := and_e (Cond.before_iff.mp (show (Jvm.Cond.and given_1 narrow_1).before args s = true from hpre))
  obtain ⟨g1, g2⟩ := and_e hg
  obtain ⟨g3, g4⟩ := and_e g2
  obtain ⟨g5, g6⟩ := and_e g4
  obtain ⟨g7, g8⟩ := and_e g6
  obtain ⟨g9, g10⟩ := and_e g8
  obtain ⟨g11, g12⟩ := and_e g10
  obtain ⟨w0, w1, w2, w3, w4, w5, rfl⟩ : ∃ w0 w1 w2 w3 w4 w5 : Value, args = #[w0, w1, w2, w3, w4, w5] := by
    have hs : args.size = 6 := by simpa [Cond.value, given_1] using g1
    obtain ⟨L⟩ := args
    match L, hs with
    | [w0, w1, w2, w3, w4, w5], _ => exact ⟨w0, w1, w2, w3, w4, w5, rfl⟩
  have hw := fun d (hd : d ∈ tables_1) => atoms_spec (ws := Jvm.Cond.code x code maxLocals ret :: tables_1) hat d (List.mem_cons_of_mem _ hd)
  have hfit : Fit s := fun {y c} hc i hi => by
    obtain ⟨ha, rfl⟩ := Array.getElem?_eq_some_iff.mp hc
    have q := List.all_eq_true.mp ((Array.all_eq_true_iff_forall_mem.mp hF) _ (Array.getElem_mem ha)) i (List.mem_range.mpr hi)
    simpa [Array.getElem?_eq_getElem hi] using q
  obtain ⟨i0, ei0⟩ := is_v g3
  obtain rfl : w0 = (.int i0) := Option.some.inj ei0
  obtain ⟨i1, ei1⟩ := is_v g5
  obtain rfl : w1 = (.int i1) := Option.some.inj ei1
  obtain ⟨i2, ei2⟩ := is_v g7
  obtain rfl : w2 = (.int i2) := Option.some.inj ei2
  obtain ⟨i3, ei3⟩ := is_v g9
  obtain rfl : w3 = (.int i3) := Option.some.inj ei3
  obtain ⟨i4, ei4⟩ := is_v g11
  obtain rfl : w4 = (.int i4) := Option.some.inj ei4
  obtain ⟨i5, ei5⟩ := is_v g12
  obtain rfl : w5 = (.int i5) := Option.some.inj ei5
  obtain ⟨n, o, h1, h2, h3, _, L, rfl, ⟨rfl, N⟩, hq⟩ := rm0 l s _ hw tables_1 i0 i1 i2 i3 i4 i5 s.heap s.heap.size (Nat.le_refl _) p e ha hc hk s m _ below hf ((Spec.applies_iff_loose hf).mp happ).1 ⟨rfl, State.Warmed39.refl s, rfl⟩ trivial
  refine ⟨n, _, h1, h2, h3, hpost _ _ _ _ _ _ ⟨Cond.after_iff.mpr rfl, Cond.after_iff.mpr (eq_i res_at (Term.int_eval (1)) rfl), trivial⟩ ⟨hq.1, hq.2.1, (hq.2.2.sift fun y hy => Or.inr (N y hy)).mono (by decide) (by decide)⟩⟩
theorem main_1_1 : Claimed_1_1 := comes_1 fun _ _ _ _ _ _ h hF => ⟨h.1, hF⟩
theorem main_1_2 : Claimed_1_2 := comes_1 fun _ _ _ _ _ _ h hF => ⟨h.2.1, hF⟩
end Jvm.Pilot.@@N@@
namespace Jvm.Pilot.@@N@@
open Jvm Jvm.ClassFile Sem Op Lib Jvm.Free Jvm.Stand Jvm.Pilot.@@N@@.Jvm.D
/-! MADE BY PROGRAM (witnessworld.py) out of the Statement's table words and the real class files: 11 classes; the members and pool entries that the words name. The judged class is class 1, her method 1. -/
namespace start1
open Jvm.ClassFile
def u (s : String) : CpInfo := .utf8 (stringToUtf16 s)
/-- a pool by its gaps: so many unusable entries, then the entry; so many at the end -/
def gap : Nat → List CpInfo → List CpInfo
  | 0, r => r
  | n + 1, r => .unusable :: gap n r
def poolList (es : List (Nat × CpInfo)) (last : Nat) : List CpInfo := es.foldr (fun e r => gap e.1 (e.2 :: r)) (gap last [])
def pool (es : List (Nat × CpInfo)) (last : Nat) : Array CpInfo := ⟨poolList es last⟩
def fileOf (pool : Array CpInfo) (this : Nat) (attrs : Array Attribute := #[]) (ms : Array MethodInfo := #[]) (fl : Nat := 33) (sup : Nat := 0) (ifs : Array Nat := #[]) (fds : Array FieldInfo := #[]) : ClassFile where
  minorVersion := 0
  majorVersion := 65
  constantPool := pool
  accessFlags := fl
  thisClass := this
  superClass := sup
  interfaces := ifs
  fields := fds
  methods := ms
  attributes := attrs
def plain (name : String) (sup : Option ClassId) : Class where
  name := name
  kind := .ordinary
  loader := none
  accessFlags := 33
  super := sup
  interfaces := #[]
  cf := none
  fields := #[]
  methods := #[]
  instanceTypes := #[]
  staticTypes := #[]
  resolved := #[]
  callSites := []
  init := .initialized
  statics := none
  mirror := none

def pool0 : Array CpInfo := pool [(5, u "<init>"), (0, u "()V"), (1, .class_ 10), (1, u "java/lang/Object")] 113

def k0c0 : Code := { maxStack := 0, maxLocals := 1, code := object_method_1_code, exceptionTable := #[], attributes := #[] }
def k0m0 : Method := { name := "<init>", desc := "()V", sig := { parameters := [], returnType := none }, accessFlags := 1, code := some k0c0 }
/-- java/lang/Object -/
def k0 : Class := { plain "java/lang/Object" none with
  accessFlags := 33
  interfaces := #[]
  cf := some (fileOf pool0 8 #[] #[{ accessFlags := 1, nameIndex := 5, descriptorIndex := 6, attributes := #[] }] 33 0 #[] #[])
  fields := #[]
  methods := #[k0m0]
  instanceTypes := #[]
  staticTypes := #[]
  resolved := Array.replicate 124 none
  statics := none }

def pool1 : Array CpInfo := pool [(2, .class_ 4), (1, u "java/lang/Object"), (0, u "<init>"), (0, u "()V"), (0, .methodref 8 9), (0, .class_ 10), (0, .nameAndType 11 12), (0, u "com/example/tercet/tercet/PartitionFirstNonSingletonCellPinLaw"), (0, u "col"), (0, u "(I)I"), (0, .integer 2147483647), (0, .class_ 15), (0, u "com/example/tercet/tercet/Partition"), (0, .methodref 14 17), (0, .nameAndType 5 18), (0, u "([I[I[I[I)V"), (0, .methodref 14 20), (0, .nameAndType 21 12), (0, u "firstNonSingletonCell"), (2, u "law"), (0, u "(IIIIII)Z")] 5

def k1m0 : Method := { name := "<init>", desc := "()V", sig := { parameters := [], returnType := none }, accessFlags := 1, code := none }
def k1c1 : Code := { maxStack := 6, maxLocals := 13, code := code, exceptionTable := #[], attributes := #[] }
def k1m1 : Method := { name := "law", desc := "(IIIIII)Z", sig := { parameters := [.int, .int, .int, .int, .int, .int], returnType := some .boolean }, accessFlags := 9, code := some k1c1 }
def k1c2 : Code := { maxStack := 2, maxLocals := 1, code := method_3_code, exceptionTable := #[], attributes := #[] }
def k1m2 : Method := { name := "col", desc := "(I)I", sig := { parameters := [.int], returnType := some .int }, accessFlags := 10, code := some k1c2 }
/-- com/example/tercet/tercet/PartitionFirstNonSingletonCellPinLaw -/
def k1 : Class := { plain "com/example/tercet/tercet/PartitionFirstNonSingletonCellPinLaw" (some 0) with
  accessFlags := 49
  interfaces := #[]
  cf := some (fileOf pool1 8 #[] #[{ accessFlags := 1, nameIndex := 5, descriptorIndex := 6, attributes := #[] }, { accessFlags := 9, nameIndex := 24, descriptorIndex := 25, attributes := #[] }, { accessFlags := 10, nameIndex := 11, descriptorIndex := 12, attributes := #[] }] 49 2 #[] #[])
  fields := #[]
  methods := #[k1m0, k1m1, k1m2]
  instanceTypes := #[]
  staticTypes := #[]
  resolved := Array.replicate 31 none
  statics := none }

def pool2 : Array CpInfo := pool [(1, .methodref 2 3), (0, .class_ 4), (0, .nameAndType 5 6), (0, u "java/lang/Object"), (0, u "<init>"), (0, u "()V"), (0, .fieldref 8 9), (0, .class_ 10), (0, .nameAndType 11 12), (0, u "com/example/tercet/tercet/Partition"), (0, u "size"), (0, u "I"), (0, .fieldref 8 14), (0, .nameAndType 15 16), (0, u "arcStart"), (0, u "[I"), (0, .fieldref 8 18), (0, .nameAndType 19 16), (0, u "arcKeys"), (0, .fieldref 8 21), (0, .nameAndType 22 16), (0, u "arcNodes"), (0, .fieldref 8 24), (0, .nameAndType 25 16), (0, u "order"), (0, .fieldref 8 27), (0, .nameAndType 28 16), (0, u "position"), (0, .fieldref 8 30), (0, .nameAndType 31 16), (0, u "cellOf"), (0, .fieldref 8 33), (0, .nameAndType 34 16), (0, u "cellEnd"), (0, .fieldref 8 36), (0, .nameAndType 37 16), (0, u "queue"), (0, .fieldref 8 39), (0, .nameAndType 40 41), (0, u "queued"), (0, u "[Z"), (0, .fieldref 8 43), (0, .nameAndType 44 16), (0, u "trail"), (0, .fieldref 8 46), (0, .nameAndType 47 16), (0, u "trailParent"), (0, .fieldref 8 49), (0, .nameAndType 50 16), (0, u "reached"), (0, .fieldref 8 52), (0, .nameAndType 53 16), (0, u "hitKeys"), (0, .fieldref 8 55), (0, .nameAndType 56 16), (0, u "keysStart"), (0, .fieldref 8 58), (0, .nameAndType 59 16), (0, u "keysEnd"), (0, .fieldref 8 61), (0, .nameAndType 62 16), (0, u "cellsReached"), (0, .fieldref 8 64), (0, .nameAndType 65 16), (0, u "reachedInCell"), (0, .fieldref 8 67), (0, .nameAndType 68 16), (0, u "byCell"), (0, .fieldref 8 70), (0, .nameAndType 71 16), (0, u "mergeBuffer"), (0, .fieldref 8 73), (0, .nameAndType 74 16), (0, u "groupStarts"), (0, .fieldref 8 76), (0, .nameAndType 77 12), (0, u "cells"), (0, .methodref 8 79), (0, .nameAndType 80 81), (0, u "enqueue"), (0, u "(I)V"), (2, u "stack"), (12, u "trailSize"), (13, .fieldref 8 112), (0, .nameAndType 113 12), (0, u "queueSize"), (0, .fieldref 8 115), (0, .nameAndType 116 12), (0, u "queueHead"), (3, u "(I)I"), (41, u "([I[I[I[I)V"), (8, u "firstNonSingletonCell")] 10

def k2c0 : Code := { maxStack := 5, maxLocals := 10, code := prog_36_method_1_code, exceptionTable := #[], attributes := #[] }
def k2m0 : Method := { name := "<init>", desc := "([I[I[I[I)V", sig := { parameters := [(.array .int), (.array .int), (.array .int), (.array .int)], returnType := none }, accessFlags := 0, code := some k2c0 }
def k2c1 : Code := { maxStack := 2, maxLocals := 3, code := prog_36_method_8_code, exceptionTable := #[], attributes := #[] }
def k2m1 : Method := { name := "firstNonSingletonCell", desc := "(I)I", sig := { parameters := [.int], returnType := some .int }, accessFlags := 0, code := some k2c1 }
def k2c2 : Code := { maxStack := 3, maxLocals := 2, code := prog_36_method_22_code, exceptionTable := #[], attributes := #[] }
def k2m2 : Method := { name := "enqueue", desc := "(I)V", sig := { parameters := [.int], returnType := none }, accessFlags := 2, code := some k2c2 }
/-- com/example/tercet/tercet/Partition -/
def k2 : Class := { plain "com/example/tercet/tercet/Partition" (some 0) with
  accessFlags := 48
  interfaces := #[]
  cf := some (fileOf pool2 8 #[] #[{ accessFlags := 0, nameIndex := 5, descriptorIndex := 162, attributes := #[] }, { accessFlags := 0, nameIndex := 171, descriptorIndex := 120, attributes := #[] }, { accessFlags := 2, nameIndex := 80, descriptorIndex := 81, attributes := #[] }] 48 2 #[] #[{ accessFlags := 18, nameIndex := 11, descriptorIndex := 12, attributes := #[] }, { accessFlags := 18, nameIndex := 15, descriptorIndex := 16, attributes := #[] }, { accessFlags := 18, nameIndex := 19, descriptorIndex := 16, attributes := #[] }, { accessFlags := 18, nameIndex := 22, descriptorIndex := 16, attributes := #[] }, { accessFlags := 18, nameIndex := 25, descriptorIndex := 16, attributes := #[] }, { accessFlags := 18, nameIndex := 28, descriptorIndex := 16, attributes := #[] }, { accessFlags := 18, nameIndex := 31, descriptorIndex := 16, attributes := #[] }, { accessFlags := 18, nameIndex := 34, descriptorIndex := 16, attributes := #[] }, { accessFlags := 2, nameIndex := 77, descriptorIndex := 12, attributes := #[] }, { accessFlags := 18, nameIndex := 37, descriptorIndex := 16, attributes := #[] }, { accessFlags := 18, nameIndex := 40, descriptorIndex := 41, attributes := #[] }, { accessFlags := 2, nameIndex := 116, descriptorIndex := 12, attributes := #[] }, { accessFlags := 2, nameIndex := 113, descriptorIndex := 12, attributes := #[] }, { accessFlags := 18, nameIndex := 44, descriptorIndex := 16, attributes := #[] }, { accessFlags := 18, nameIndex := 47, descriptorIndex := 16, attributes := #[] }, { accessFlags := 2, nameIndex := 97, descriptorIndex := 12, attributes := #[] }, { accessFlags := 18, nameIndex := 50, descriptorIndex := 16, attributes := #[] }, { accessFlags := 18, nameIndex := 53, descriptorIndex := 16, attributes := #[] }, { accessFlags := 18, nameIndex := 56, descriptorIndex := 16, attributes := #[] }, { accessFlags := 18, nameIndex := 59, descriptorIndex := 16, attributes := #[] }, { accessFlags := 18, nameIndex := 62, descriptorIndex := 16, attributes := #[] }, { accessFlags := 18, nameIndex := 65, descriptorIndex := 16, attributes := #[] }, { accessFlags := 18, nameIndex := 68, descriptorIndex := 16, attributes := #[] }, { accessFlags := 18, nameIndex := 71, descriptorIndex := 16, attributes := #[] }, { accessFlags := 18, nameIndex := 74, descriptorIndex := 16, attributes := #[] }, { accessFlags := 2, nameIndex := 84, descriptorIndex := 16, attributes := #[] }])
  fields := #[{ name := "size", type := .int, accessFlags := 18, slot := 0, constantValue := 0 }, { name := "arcStart", type := (.array .int), accessFlags := 18, slot := 1, constantValue := 0 }, { name := "arcKeys", type := (.array .int), accessFlags := 18, slot := 2, constantValue := 0 }, { name := "arcNodes", type := (.array .int), accessFlags := 18, slot := 3, constantValue := 0 }, { name := "order", type := (.array .int), accessFlags := 18, slot := 4, constantValue := 0 }, { name := "position", type := (.array .int), accessFlags := 18, slot := 5, constantValue := 0 }, { name := "cellOf", type := (.array .int), accessFlags := 18, slot := 6, constantValue := 0 }, { name := "cellEnd", type := (.array .int), accessFlags := 18, slot := 7, constantValue := 0 }, { name := "cells", type := .int, accessFlags := 2, slot := 8, constantValue := 0 }, { name := "queue", type := (.array .int), accessFlags := 18, slot := 9, constantValue := 0 }, { name := "queued", type := (.array .boolean), accessFlags := 18, slot := 10, constantValue := 0 }, { name := "queueHead", type := .int, accessFlags := 2, slot := 11, constantValue := 0 }, { name := "queueSize", type := .int, accessFlags := 2, slot := 12, constantValue := 0 }, { name := "trail", type := (.array .int), accessFlags := 18, slot := 13, constantValue := 0 }, { name := "trailParent", type := (.array .int), accessFlags := 18, slot := 14, constantValue := 0 }, { name := "trailSize", type := .int, accessFlags := 2, slot := 15, constantValue := 0 }, { name := "reached", type := (.array .int), accessFlags := 18, slot := 16, constantValue := 0 }, { name := "hitKeys", type := (.array .int), accessFlags := 18, slot := 17, constantValue := 0 }, { name := "keysStart", type := (.array .int), accessFlags := 18, slot := 18, constantValue := 0 }, { name := "keysEnd", type := (.array .int), accessFlags := 18, slot := 19, constantValue := 0 }, { name := "cellsReached", type := (.array .int), accessFlags := 18, slot := 20, constantValue := 0 }, { name := "reachedInCell", type := (.array .int), accessFlags := 18, slot := 21, constantValue := 0 }, { name := "byCell", type := (.array .int), accessFlags := 18, slot := 22, constantValue := 0 }, { name := "mergeBuffer", type := (.array .int), accessFlags := 18, slot := 23, constantValue := 0 }, { name := "groupStarts", type := (.array .int), accessFlags := 18, slot := 24, constantValue := 0 }, { name := "stack", type := (.array .int), accessFlags := 2, slot := 25, constantValue := 0 }]
  methods := #[k2m0, k2m1, k2m2]
  instanceTypes := #[.int, (.array .int), (.array .int), (.array .int), (.array .int), (.array .int), (.array .int), (.array .int), .int, (.array .int), (.array .boolean), .int, .int, (.array .int), (.array .int), .int, (.array .int), (.array .int), (.array .int), (.array .int), (.array .int), (.array .int), (.array .int), (.array .int), (.array .int), (.array .int)]
  staticTypes := #[]
  resolved := Array.replicate 182 none
  statics := none }

def pool3 : Array CpInfo := pool [(1, u "java/lang/Cloneable"), (0, .class_ 1), (0, u "java/lang/Object"), (0, .class_ 3)] 3

/-- java/lang/Cloneable -/
def k3 : Class := { plain "java/lang/Cloneable" (some 0) with
  accessFlags := 1537
  interfaces := #[]
  cf := some (fileOf pool3 2 #[] #[] 1537 4 #[] #[])
  fields := #[]
  methods := #[]
  instanceTypes := #[]
  staticTypes := #[]
  resolved := Array.replicate 8 none
  statics := none }

def pool4 : Array CpInfo := pool [(1, u "java/io/Serializable"), (0, .class_ 1), (0, u "java/lang/Object"), (0, .class_ 3)] 3

/-- java/io/Serializable -/
def k4 : Class := { plain "java/io/Serializable" (some 0) with
  accessFlags := 1537
  interfaces := #[]
  cf := some (fileOf pool4 2 #[] #[] 1537 4 #[] #[])
  fields := #[]
  methods := #[]
  instanceTypes := #[]
  staticTypes := #[]
  resolved := Array.replicate 8 none
  statics := none }

/-- the primitive boolean -/
def k5 : Class := { plain "boolean" none with kind := .primitive 'Z', accessFlags := 0x411 }
/-- [Z -/
def k6 : Class := { plain "[Z" (some 0) with kind := .array 5 .boolean, interfaces := #[3, 4], accessFlags := 1041 }

/-- the primitive byte -/
def k7 : Class := { plain "byte" none with kind := .primitive 'B', accessFlags := 0x411 }
/-- [B -/
def k8 : Class := { plain "[B" (some 0) with kind := .array 7 .byte, interfaces := #[3, 4], accessFlags := 1041 }

/-- the primitive int -/
def k9 : Class := { plain "int" none with kind := .primitive 'I', accessFlags := 0x411 }
/-- [I -/
def k10 : Class := { plain "[I" (some 0) with kind := .array 9 .int, interfaces := #[3, 4], accessFlags := 1041 }

def heap : Heap := #[]
def classes : Array Class := #[k0, k1, k2, k3, k4, k5, k6, k7, k8, k9, k10]
def interned : List (Array UInt16 × Addr) := []
def slotsUsed : Nat := 0
def theMethod : MethodId := ⟨1, 1⟩
def args0 : Array Value := #[.int 1, .int 2, .int 2, .int 3, .int 4, .int 2]
def aboutOver (below : List Frame) : State where
  vm := { classes := classes, interned := interned.toArray }
  heap := heap
  slotsUsed := slotsUsed
  threads := #[{ frames := .invoking theMethod args0 :: below }]
def below0 : List Frame := [.native { method := ⟨0, 0⟩, args := #[] }]
def about1 : State := aboutOver below0
def p0 : Program := .bare "" "" ""
def e0 : Env := launch0.env 0 0 0
theorem w_frames : about1.frames = Frame.invoking theMethod args0 :: below0 := rfl
set_option maxRecDepth 65536 in
theorem w_args : argsFit about1.vm theMethod args0 = true := by decide +kernel
set_option maxRecDepth 65536 in
theorem w_heap : heapFits about1 = true := by decide +kernel
set_option maxRecDepth 65536 in
theorem w_runnable : about1.curStatus? = some .runnable := by decide +kernel
set_option maxRecDepth 65536 in
theorem w_alone : about1.alone = true := by decide +kernel
set_option maxRecDepth 65536 in
theorem w_named : about1.methodNamed? x = some theMethod := by decide +kernel
set_option maxRecDepth 65536 in
theorem w_hears : about1.hears theMethod below0 = true := by decide +kernel
set_option maxRecDepth 65536 in
theorem w_ripe : about1.ripe theMethod args0 below0 = true := by decide +kernel
theorem w_running : about1.status = .running := rfl
set_option maxRecDepth 65536 in
theorem w_room : about1.hasRoom e0.platform room_1 = true :=
  launch0.hasRoom_least _ room_1 (by decide +kernel) (by decide +kernel) (by decide +kernel) (by decide +kernel) (by decide +kernel) (by decide +kernel)
theorem allAtoms_all (ts : List Jvm.Cond) (a : Array Jvm.Value) (st : Jvm.State) : (allAtoms ts).before a st = ts.all (fun c => c.before a st) := by
  induction ts with
  | nil => rfl
  | cons c t ih =>
    show (Jvm.Cond.and c (allAtoms t)).before a st = _
    rw [Jvm.Cond.before_and, ih, List.all_cons]
def words1 : List Jvm.Cond := Jvm.Cond.code x code maxLocals ret :: tables_1
/-- a 'code' word, met by the world's own term for the bytes: nothing is compared byte by byte -/
theorem code_word {y : MethodName} {bytes : ByteArray} {mx : Nat} {rt : Option FieldType} {a : Array Value} {s : State} {m : MethodId} {meth : Method} {c : Code} (h1 : s.methodNamed? y = some m) (h2 : s.vm.method? m = some meth) (h3 : meth.code = some c) (h4 : c.code = bytes)
    (h5 : (c.maxLocals == mx && c.exceptionTable.isEmpty && decide (c.maxStack ≤ mostOperands) && decide (meth.sig.returnType = rt) && !meth.locks && decide (parseMethodDescriptor y.desc = some meth.sig)) = true) : (Jvm.Cond.code y bytes mx rt).before a s = true := by
  simp only [Bool.and_eq_true, beq_iff_eq, Bool.not_eq_true', decide_eq_true_eq] at h5
  obtain ⟨⟨⟨⟨⟨g1, g2⟩, g3⟩, g4⟩, g5⟩, g6⟩ := h5
  simp [Cond.before, Cond.holds, Cond.value, h1, h2, h3, h4, g1, g2, g3, g4, g5, g6]
def isCode : Jvm.Cond → Bool
  | .code _ _ _ _ => true
  | _ => false
theorem all_split {L : List Jvm.Cond} {P : Jvm.Cond → Bool} (h1 : L.all (fun c => isCode c || P c) = true) (h2 : ∀ c ∈ L.filter isCode, P c = true) : L.all P = true := by
  refine List.all_eq_true.mpr fun c hc => ?_
  have h := List.all_eq_true.mp h1 c hc
  rcases Bool.eq_false_or_eq_true (isCode c) with hi | hi
  · exact h2 c (List.mem_filter.mpr ⟨hc, hi⟩)
  · simpa [hi] using h
set_option maxRecDepth 65536 in
theorem w_c0 : (Jvm.Cond.code x code maxLocals ret).before args0 about1 = true := code_word (m := ⟨1, 1⟩) (meth := k1m1) (c := k1c1) (by decide +kernel) rfl rfl rfl (by decide +kernel)
set_option maxRecDepth 65536 in
theorem w_c1 : (Jvm.Cond.code ({ cls := "com/example/tercet/tercet/PartitionFirstNonSingletonCellPinLaw", name := "col", desc := "(I)I" } : Jvm.MethodName) method_3_code (1 : Nat) (Option.some Jvm.ClassFile.FieldType.int)).before args0 about1 = true := code_word (m := ⟨1, 2⟩) (meth := k1m2) (c := k1c2) (by decide +kernel) rfl rfl rfl (by decide +kernel)
set_option maxRecDepth 65536 in
theorem w_c2 : (Jvm.Cond.code ({ cls := "com/example/tercet/tercet/Partition", name := "<init>", desc := "([I[I[I[I)V" } : Jvm.MethodName) prog_36_method_1_code (10 : Nat) (Option.none : Option Jvm.ClassFile.FieldType)).before args0 about1 = true := code_word (m := ⟨2, 0⟩) (meth := k2m0) (c := k2c0) (by decide +kernel) rfl rfl rfl (by decide +kernel)
set_option maxRecDepth 65536 in
theorem w_c3 : (Jvm.Cond.code ({ cls := "java/lang/Object", name := "<init>", desc := "()V" } : Jvm.MethodName) object_method_1_code (1 : Nat) (Option.none : Option Jvm.ClassFile.FieldType)).before args0 about1 = true := code_word (m := ⟨0, 0⟩) (meth := k0m0) (c := k0c0) (by decide +kernel) rfl rfl rfl (by decide +kernel)
set_option maxRecDepth 65536 in
theorem w_c4 : (Jvm.Cond.code ({ cls := "com/example/tercet/tercet/Partition", name := "enqueue", desc := "(I)V" } : Jvm.MethodName) prog_36_method_22_code (2 : Nat) (Option.none : Option Jvm.ClassFile.FieldType)).before args0 about1 = true := code_word (m := ⟨2, 2⟩) (meth := k2m2) (c := k2c2) (by decide +kernel) rfl rfl rfl (by decide +kernel)
set_option maxRecDepth 65536 in
theorem w_c5 : (Jvm.Cond.code ({ cls := "com/example/tercet/tercet/Partition", name := "firstNonSingletonCell", desc := "(I)I" } : Jvm.MethodName) prog_36_method_8_code (3 : Nat) (Option.some Jvm.ClassFile.FieldType.int)).before args0 about1 = true := code_word (m := ⟨2, 1⟩) (meth := k2m1) (c := k2c1) (by decide +kernel) rfl rfl rfl (by decide +kernel)
def codes1 : List Jvm.Cond := [Jvm.Cond.code x code maxLocals ret, Jvm.Cond.code ({ cls := "com/example/tercet/tercet/PartitionFirstNonSingletonCellPinLaw", name := "col", desc := "(I)I" } : Jvm.MethodName) method_3_code (1 : Nat) (Option.some Jvm.ClassFile.FieldType.int), Jvm.Cond.code ({ cls := "com/example/tercet/tercet/Partition", name := "<init>", desc := "([I[I[I[I)V" } : Jvm.MethodName) prog_36_method_1_code (10 : Nat) (Option.none : Option Jvm.ClassFile.FieldType), Jvm.Cond.code ({ cls := "java/lang/Object", name := "<init>", desc := "()V" } : Jvm.MethodName) object_method_1_code (1 : Nat) (Option.none : Option Jvm.ClassFile.FieldType), Jvm.Cond.code ({ cls := "com/example/tercet/tercet/Partition", name := "enqueue", desc := "(I)V" } : Jvm.MethodName) prog_36_method_22_code (2 : Nat) (Option.none : Option Jvm.ClassFile.FieldType), Jvm.Cond.code ({ cls := "com/example/tercet/tercet/Partition", name := "firstNonSingletonCell", desc := "(I)I" } : Jvm.MethodName) prog_36_method_8_code (3 : Nat) (Option.some Jvm.ClassFile.FieldType.int)]
set_option maxRecDepth 65536 in
theorem codes_eq : words1.filter isCode = codes1 := rfl
theorem w_codes : ∀ c ∈ words1.filter isCode, c.before args0 about1 = true := by
  rw [codes_eq]
  intro c hc
  simp only [codes1, List.mem_cons, List.not_mem_nil, or_false] at hc
  rcases hc with rfl | rfl | rfl | rfl | rfl | rfl
  · exact w_c0
  · exact w_c1
  · exact w_c2
  · exact w_c3
  · exact w_c4
  · exact w_c5
set_option maxRecDepth 65536 in
theorem w_t1 : (words1.take 24).all (fun c => isCode c || c.before args0 about1) = true := by decide +kernel
set_option maxRecDepth 65536 in
theorem w_t2 : ((words1.drop 24).take 24).all (fun c => isCode c || c.before args0 about1) = true := by decide +kernel
set_option maxRecDepth 65536 in
theorem w_t3 : (((words1.drop 24).drop 24).take 24).all (fun c => isCode c || c.before args0 about1) = true := by decide +kernel
set_option maxRecDepth 65536 in
theorem w_t4 : (((words1.drop 24).drop 24).drop 24).all (fun c => isCode c || c.before args0 about1) = true := by decide +kernel
theorem w_tables : (allAtoms (Jvm.Cond.code x code maxLocals ret :: tables_1)).before args0 about1 = true := by
  rw [allAtoms_all]
  show words1.all (fun c => c.before args0 about1) = true
  refine all_split ?_ w_codes
  rw [← List.take_append_drop 24 words1, List.all_append, w_t1, ← List.take_append_drop 24 (words1.drop 24), List.all_append, w_t2, ← List.take_append_drop 24 ((words1.drop 24).drop 24), List.all_append, w_t3, w_t4]
  rfl
set_option maxRecDepth 65536 in
theorem w_case : (Jvm.Cond.and given_1 narrow_1).before args0 about1 = true := by decide +kernel
theorem w_applies : (headSpec (Jvm.Cond.code x code maxLocals ret :: tables_1) room_1).applies x e0.platform about1 = true :=
  (Spec.applies_iff w_frames).mpr ⟨w_running, w_runnable, w_alone, w_named, w_hears, w_ripe, w_room, w_tables⟩
theorem atStart : AtStart classFile x code maxLocals ret World_1 tables_1 room_1 Calls_1 rest_1 Pre_1 launch0 p0 e0 about1 theMethod args0 below0 :=
  ⟨lists_1, trivial, launch0.admits_env _ _ _, launch0.least_env, fairChoices_fair.cas, fairChoices_fair.clock, w_frames, w_args, w_heap, w_applies, trivial, trivial, w_case⟩
end start1
theorem witness_1 : WitnessClaimed_1 := ⟨start1.p0, start1.e0, start1.about1, start1.theMethod, start1.args0, start1.below0, start1.atStart⟩
end Jvm.Pilot.@@N@@
