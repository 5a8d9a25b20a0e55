import JvmDerived
import JvmDerived.Pilot.@@N@@Statement
import JvmDerived.Pilot.@@N@@Code
set_option linter.unusedVariables false
set_option linter.unusedSimpArgs false
namespace Jvm.RoadKit
open Sem ClassFile Op Lib Jvm.Stand Jvm.Free Jvm.LawKit
section New
variable {p : Program} {l : Launch} {e : Env} {R : Room} {s : State} {m : MethodId} {args : Array Value} {below : List Frame} {meth : Method} {c : Code} {T : State} {locs : List Loc} {cells slots : Nat}
theorem retI (X : Stand p l e R s m args below meth c T locs cells slots) (hx : p.tables.exec = Jvm.exec) {pc : Nat} {Ls : Array Slot} {z : Int32} {rest : List Value} (hret : meth.sig.returnType = some .int) (hd : decode c.code pc = .ok (.ireturn, 1)) {fs : List Frame}
    (hl : ∀ (f : JFrame) (acts : List Action), f.method = m → f.locked = none → f.entered = [] → (doReturn e (T.setTop f) acts (some (.int z))).1 = T.setFrames fs) : Steps p.tables e below (T.setTop (mkF m pc Ls (.int z :: rest))) (T.setFrames fs) := by
  have hm' : T.vm.method? m = some meth := X.method'
  have hn : narrow .int (.int z) = .int z := rfl
  show Steps p.tables e below (T.setTop { method := m, pc := pc, locals := Ls, stack := _ :: rest, locked := none }) _
  jvm_step X.here [X.here.top, hx, hd, hm', hret, hn]
  first | (intro acts; rw [hl _ acts rfl rfl rfl]) | rw [hl _ _ rfl rfl rfl]
  exact Steps.refl _
end New
end Jvm.RoadKit

@@BLOCK:NumsL.lean.txt@@

namespace Jvm.Pilot.@@N@@
open Jvm Jvm.ClassFile Sem Op Lib Jvm.Free Jvm.Stand Jvm.LawKit Jvm.RoadKit Bundle Jvm.Pilot.@@N@@.Jvm.D
theorem own_sne {Z : State} {h : Heap} {a b c d : Addr} {k k' : ClassId} {z z' : Int32} {vs vs' : List Value} {dv dv' : Value} (F : Fld Z h a "java/lang/String" "value" "[B" (.ref c)) (G : Fld Z h b "java/lang/String" "value" "[B" (.ref d)) (V : Arv Z h c k .byte z vs dv) (W : Arv Z h d k' .byte z' vs' dv')
    (hne : z.toNatClampNeg ≠ z'.toNatClampNeg ∨ (0 < z.toNatClampNeg ∧ vs.getD 0 dv ≠ vs'.getD 0 dv')) : a ≠ b := by
  by_cases e : c = d
  · subst e
    obtain ⟨c1, A1, -, S1, -, H1, -⟩ := V
    obtain ⟨c2, A2, -, S2, -, H2, -⟩ := W
    cases A1.1.symm.trans A2.1
    exfalso
    rcases hne with q | ⟨q1, q2⟩
    · exact q (S1.symm.trans S2)
    · exact q2 (Option.some.inj ((H1 0 (by omega)).symm.trans (H2 0 (by omega))))
  · exact Fld.ne F G (fun q => e (Value.ref.inj q))
theorem own_eqi {args : Array Value} {first s : State} {o : Option Outcome} {idx : List Nat} {t : Term} {k : Int32} (h : (Cond.eq t (.int k)).value args first o s idx = some true) : t.eval args first o idx s = some (.int k) := by
  simp only [Cond.value, Term.eval] at h
  cases ht : t.eval args first o idx s with
  | none => simp [ht] at h
  | some x => cases x <;> simp [ht] at h ⊢; exact h
theorem own_len {args : Array Value} {Z : State} {t : Term} {a : Addr} {cl : Cell} {ty : FieldType} {n : Int32} (ev : t.eval args Z none [] Z = some (.ref a)) (A : Arr Z Z.heap a cl ty) (h : (Term.length t).eval args Z none [] Z = some (.int n)) : cl.slots.size < 2 ^ 31 ∧ cl.slots.size.toInt32 = n := by
  have ha := A.fin (Vm.Alike.refl _)
  simp only [Term.eval, ev, ha, Option.bind_eq_bind, Option.bind_some] at h
  by_cases q : cl.slots.size < 2 ^ 31
  · simp [q] at h; exact ⟨q, h⟩
  · simp [q] at h
theorem own_selp {s : State} {args : Array Value} {y z : MethodName} (hsel : (Cond.selects z.cls z z).before args s = true) (hzy : z.cls = y.cls) (hpriv : s.PrivateAt y) (hinst : (Cond.instanceMethod y).before args s = true) (hy : y.cls ≠ "java/lang/invoke/MethodHandle" ∧ y.cls ≠ "java/lang/invoke/VarHandle") : (Cond.selects y.cls y y).before args s = true := by
  obtain ⟨c, r, m, h1, h2, h3, h4, mk, h5, h6⟩ := Cond.selects_spec hsel
  exact selects_self_of_private (c := m.cls) (hzy ▸ findClass_of_methodNamed h3) h5 h6 hpriv hinst hy
def own_at (L : List Int32) (j : Int32) : Int32 := L.getD j.toNatClampNeg 0
theorem own_setL {Z : State} {h h' : Heap} {a : Addr} {k : ClassId} {z j v : Int32} {L : List Int32} {n : Nat} (V : Arv Z h a k .int z (L.map Value.int) (.int 0)) (hl : L.length = n) (W : Wr h h' a j.toNatClampNeg (.int v)) (hj : ¬ (j < 0) ∧ j < z) (hn : n = z.toNatClampNeg := by rfl) : Arv Z h' a k .int z ((L.set j.toNatClampNeg v).map Value.int) (.int 0) := by
  obtain ⟨c, A, q1, S, q3, H, G⟩ := V
  have hb := inb_of S hj
  have hlt : j.toNatClampNeg < (L.map Value.int).length := by
    rw [List.length_map, hl, hn, ← S]; exact Nat.lt_of_not_le fun q => hb (Or.inr q)
  have r := Arv.set A q1 S q3 H G (v := .int v) rfl W j.toNatClampNeg rfl hlt
  rw [List.map_set]
  exact r
theorem own_getD (L : List Int32) (i : Nat) : (L.map Value.int).getD i (.int (0 : Int32)) = .int (L.getD i 0) := by
  induction L generalizing i with
  | nil => rfl
  | cons a t ih => cases i with
    | zero => rfl
    | succ i => exact ih i

theorem own_eqI {a b : Int32} : a = b ↔ a.toInt = b.toInt := Int32.toInt_inj.symm
theorem own_ltI {a b : Int32} : a < b ↔ a.toInt < b.toInt := Int32.lt_iff_toInt_lt
theorem own_bd (a : Int32) : -2147483648 ≤ a.toInt ∧ a.toInt < 2147483648 := ⟨Int32.le_toInt a, Int32.toInt_lt a⟩
theorem own_tdiv (x m : Int) (hm : 0 < m) : (0 ≤ x → x.tdiv m = x / m ∧ x.tmod m = x % m) ∧ (x < 0 → x.tdiv m = -((-x) / m) ∧ x.tmod m = -((-x) % m)) := by
  refine ⟨fun h => ⟨Int.tdiv_eq_ediv_of_nonneg h, Int.tmod_eq_emod_of_nonneg h⟩, fun h => ?_⟩
  have h1 : x = -(-x) := by omega
  have a1 : (-(-x)).tdiv m = -((-x).tdiv m) := Int.neg_tdiv ..
  have a2 : (-(-x)).tmod m = -((-x).tmod m) := Int.neg_tmod ..
  rw [← h1] at a1 a2
  rw [a1, a2, Int.tdiv_eq_ediv_of_nonneg (by omega), Int.tmod_eq_emod_of_nonneg (by omega)]
  exact ⟨rfl, rfl⟩
theorem own_dm (a k : Int32) (hk : 1 < k.toInt) : (0 ≤ a.toInt → (a / k).toInt = a.toInt / k.toInt ∧ (a % k).toInt = a.toInt % k.toInt) ∧ (a.toInt < 0 → (a / k).toInt = -((-a.toInt) / k.toInt) ∧ (a % k).toInt = -((-a.toInt) % k.toInt)) := by
  have e1 : (a / k).toInt = a.toInt.tdiv k.toInt := Jvm.Kit.i32_div (fun h => by omega)
  have e2 : (a % k).toInt = a.toInt.tmod k.toInt := Jvm.Kit.i32_rem a k
  rw [e1, e2]
  exact own_tdiv _ _ (by omega)
/-! the plain law of the hash table with linear probing: pure Lean -/
def own_pr (L : List Int32) (x : Int32) (i : Nat) : Nat → Nat
  | 0 => i
  | f + 1 => if L.getD i 0 = 0 ∨ L.getD i 0 = x + 1 then i else own_pr L x ((i + 1) % L.length) f
theorem own_mod (M i d : Nat) : ((i + 1) % M + d) % M = (i + (d + 1)) % M := by
  rw [Nat.mod_add_mod]; congr 1; omega
/-- where the probe stops: the first place on its way that is empty or holds x -/
theorem own_pr_spec (L : List Int32) (x : Int32) : ∀ (f i : Nat), i < L.length → (∃ d, d < f ∧ L.getD ((i + d) % L.length) 0 = 0) →
    ∃ d, d < f ∧ own_pr L x i f = (i + d) % L.length ∧ (L.getD ((i + d) % L.length) 0 = 0 ∨ L.getD ((i + d) % L.length) 0 = x + 1) ∧
      ∀ d', d' < d → L.getD ((i + d') % L.length) 0 ≠ 0 ∧ L.getD ((i + d') % L.length) 0 ≠ x + 1 := by
  intro f
  induction f with
  | zero => rintro i hi ⟨d, hd, -⟩; omega
  | succ f ih =>
    rintro i hi ⟨d, hd, hz⟩
    have e0 : (i + 0) % L.length = i := by rw [Nat.add_zero, Nat.mod_eq_of_lt hi]
    by_cases q : L.getD i 0 = 0 ∨ L.getD i 0 = x + 1
    · refine ⟨0, by omega, ?_, ?_, fun d' h => by omega⟩
      · rw [own_pr, if_pos q, e0]
      · rw [e0]; exact q
    · have hd0 : d ≠ 0 := by rintro rfl; rw [e0] at hz; exact q (Or.inl hz)
      obtain ⟨d1, h1, h2, h3, h4⟩ := ih ((i + 1) % L.length) (Nat.mod_lt _ (by omega)) ⟨d - 1, by omega, by rw [own_mod]; rw [show d - 1 + 1 = d by omega]; exact hz⟩
      refine ⟨d1 + 1, by omega, ?_, ?_, ?_⟩
      · rw [own_pr, if_neg q, h2, own_mod]
      · rw [← own_mod]; exact h3
      · intro d' h
        cases d' with
        | zero => rw [e0]; exact ⟨fun z => q (Or.inl z), fun z => q (Or.inr z)⟩
        | succ d' => rw [← own_mod]; exact h4 d' (by omega)
theorem own_pr_lt (L : List Int32) (x : Int32) : ∀ (f i : Nat), i < L.length → own_pr L x i f < L.length := by
  intro f
  induction f with
  | zero => intro i hi; exact hi
  | succ f ih =>
    intro i hi; rw [own_pr]; split
    · exact hi
    · exact ih _ (Nat.mod_lt _ (by omega))
/-- the table L holds just xs; H says where the search for an atom begins -/
def own_Inv (H : Int32 → Nat) (L : List Int32) (xs : List Int32) : Prop :=
  0 < L.length ∧ (∀ i, i < L.length → L.getD i 0 = 0 ∨ ∃ y, y ∈ xs ∧ L.getD i 0 = y + 1) ∧
  (∀ y, y ∈ xs → ∃ d, d < L.length ∧ L.getD ((H y + d) % L.length) 0 = y + 1 ∧ ∀ d', d' < d → L.getD ((H y + d') % L.length) 0 ≠ 0) ∧
  L.countP (fun v => decide (v ≠ 0)) = xs.length
def own_nn (xs : List Int32) : Prop := ∀ y, y ∈ xs → ¬ y + 1 = 0
theorem own_p1 {a b : Int32} (h : a + 1 = b + 1) : a = b := by
  have := congrArg (· - 1) h
  simpa [Int32.add_sub_cancel] using this
/-- an empty place, where fewer atoms than places are held -/
theorem own_free {H : Int32 → Nat} {L xs : List Int32} (I : own_Inv H L xs) (h : xs.length < L.length) (i : Nat) (hi : i < L.length) : ∃ d, d < L.length ∧ L.getD ((i + d) % L.length) 0 = 0 := by
  obtain ⟨h0, -, -, hc⟩ := I
  have : ∃ v, v ∈ L ∧ v = 0 := by
    apply Classical.byContradiction
    intro hn
    have hall : ∀ v ∈ L, decide (v ≠ 0) = true := fun v hv => by
      rw [decide_eq_true_iff]; exact fun e => hn ⟨v, hv, e⟩
    have := List.countP_eq_length.mpr hall
    omega
  obtain ⟨v, hv, rfl⟩ := this
  obtain ⟨j, hj, e⟩ := List.mem_iff_getElem.mp hv
  refine ⟨(j + L.length - i) % L.length, Nat.mod_lt _ h0, ?_⟩
  have : (i + (j + L.length - i) % L.length) % L.length = j := by
    rw [Nat.add_mod_mod, show i + (j + L.length - i) = j + L.length by omega, Nat.add_mod_right, Nat.mod_eq_of_lt hj]
  rw [this, List.getD_eq_getElem?_getD, List.getElem?_eq_getElem hj, e]; rfl
/-- what the probe finds -/
theorem own_find {H : Int32 → Nat} {L xs : List Int32} (I : own_Inv H L xs) (nn : own_nn xs) (h : xs.length < L.length) (x : Int32) (hx : ¬ x + 1 = 0) (hH : H x < L.length) :
    (x ∈ xs → ¬ L.getD (own_pr L x (H x) L.length) 0 = 0) ∧ (¬ x ∈ xs → L.getD (own_pr L x (H x) L.length) 0 = 0) := by
  obtain ⟨d, h1, h2, h3, h4⟩ := own_pr_spec L x L.length (H x) hH (own_free I h _ hH)
  rw [h2]
  constructor
  · intro hm
    obtain ⟨e, e1, e2, e3⟩ := I.2.2.1 x hm
    rcases h3 with q | q
    · intro _
      by_cases hlt : d < e
      · exact e3 d hlt q
      · by_cases he : d = e
        · subst he; rw [q] at e2; exact hx e2.symm
        · exact (h4 e (by omega)).2 e2
    · rw [q]; exact hx
  · intro hm
    rcases h3 with q | q
    · exact q
    · rcases I.2.1 ((H x + d) % L.length) (Nat.mod_lt _ I.1) with z | ⟨y, hy, z⟩
      · exact z
      · rw [z] at q; rw [own_p1 q] at hy; exact absurd hy hm
theorem own_getD_set (L : List Int32) (p i : Nat) (v : Int32) (hp : p < L.length) : (L.set p v).getD i 0 = if i = p then v else L.getD i 0 := by
  simp only [List.getD_eq_getElem?_getD, List.getElem?_set]
  by_cases h : p = i
  · subst h; simp [hp]
  · have : ¬ i = p := fun e => h e.symm
    simp [h, this]
/-- a new atom is laid where the probe stops -/
theorem own_lay {H : Int32 → Nat} {L xs : List Int32} (I : own_Inv H L xs) (nn : own_nn xs) (h : xs.length < L.length) (x : Int32) (hx : ¬ x + 1 = 0) (hH : H x < L.length) (hm : ¬ x ∈ xs) :
    own_Inv H (L.set (own_pr L x (H x) L.length) (x + 1)) (xs ++ [x]) := by
  obtain ⟨d, h1, h2, h3, h4⟩ := own_pr_spec L x L.length (H x) hH (own_free I h _ hH)
  have hz := (own_find I nn h x hx hH).2 hm
  have hp := own_pr_lt L x L.length (H x) hH
  generalize hpe : own_pr L x (H x) L.length = p at *
  have hl : (L.set p (x + 1)).length = L.length := List.length_set ..
  refine ⟨by rw [hl]; exact I.1, ?_, ?_, ?_⟩
  · intro i hi
    rw [hl] at hi
    rw [own_getD_set _ _ _ _ hp]
    split
    · exact Or.inr ⟨x, by simp, rfl⟩
    · rcases I.2.1 i hi with z | ⟨y, hy, z⟩
      · exact Or.inl z
      · exact Or.inr ⟨y, by simp [hy], z⟩
  · intro y hy
    rw [hl]
    by_cases hyx : y = x
    · subst hyx
      refine ⟨d, h1, ?_, fun d' hd' => ?_⟩
      · rw [own_getD_set _ _ _ _ hp, ← h2, if_pos rfl]
      · rw [own_getD_set _ _ _ _ hp]; split
        · exact hx
        · exact (h4 d' hd').1
    · have hy' : y ∈ xs := by simpa [hyx] using hy
      obtain ⟨e, e1, e2, e3⟩ := I.2.2.1 y hy'
      refine ⟨e, e1, ?_, fun d' hd' => ?_⟩
      · rw [own_getD_set _ _ _ _ hp]; split
        · rename_i q; rw [q, hz] at e2; exact absurd e2.symm (nn y hy')
        · exact e2
      · rw [own_getD_set _ _ _ _ hp]; split
        · exact hx
        · exact e3 d' hd'
  · have hg : L[p]? = some (0 : Int32) := by
      rw [List.getD_eq_getElem?_getD, List.getElem?_eq_getElem hp] at hz
      rw [List.getElem?_eq_getElem hp]; simpa using hz
    have h0 : L[p] = 0 := by rw [List.getElem?_eq_getElem hp] at hg; exact Option.some.inj hg
    rw [List.countP_set hp, List.length_append, ← I.2.2.2]
    simp [h0, hx]
theorem own_empty (H : Int32 → Nat) (M : Nat) (hM : 0 < M) : own_Inv H (List.replicate M 0) [] := by
  refine ⟨by simpa using hM, fun i hi => Or.inl ?_, fun y hy => by simp at hy, ?_⟩
  · rw [List.getD_eq_getElem?_getD, List.getElem?_replicate]; split <;> rfl
  · simp [List.countP_replicate]

def own_hx (x : Int32) : Int32 := (x * (-1640531527 : Int32)) ^^^ (((x * (-1640531527 : Int32)).toUInt32 >>> ((16 : Int32) &&& 31).toUInt32).toInt32)
def own_H (M : Nat) (x : Int32) : Nat := (own_hx x &&& Int32.ofNat (M - 1)).toInt.toNat
def own_Free (M : Nat) (L : List Int32) (x : Int32) : Prop := ∃ d, d < M ∧ L.getD ((own_H M x + d) % M) 0 = 0
theorem own_H8 (x : Int32) : own_H 8 x < 8 ∧ (own_hx x &&& 7) = Int32.ofNat (own_H 8 x) := by
  have m := Jvm.Kit.i32_mask (own_hx x) 7 (k := 3) (by decide) (by decide)
  have e : own_H 8 x = (own_hx x &&& 7).toInt.toNat := rfl
  refine ⟨by omega, ?_⟩
  rw [own_eqI, e, Int32.toInt_ofNat_of_lt (by omega)]; omega
theorem own_H16 (x : Int32) : own_H 16 x < 16 ∧ (own_hx x &&& 15) = Int32.ofNat (own_H 16 x) := by
  have m := Jvm.Kit.i32_mask (own_hx x) 15 (k := 4) (by decide) (by decide)
  have e : own_H 16 x = (own_hx x &&& 15).toInt.toNat := rfl
  refine ⟨by omega, ?_⟩
  rw [own_eqI, e, Int32.toInt_ofNat_of_lt (by omega)]; omega
theorem own_next8 : ∀ i : Nat, i < 8 → (Int32.ofNat i + 1) &&& 7 = Int32.ofNat ((i + 1) % 8) := by decide +kernel
theorem own_next16 : ∀ i : Nat, i < 16 → (Int32.ofNat i + 1) &&& 15 = Int32.ofNat ((i + 1) % 16) := by decide +kernel
theorem own_atn (L : List Int32) (i : Nat) (hi : i < 16) : own_at L (Int32.ofNat i) = L.getD i 0 := by
  have : (Int32.ofNat i).toNatClampNeg = i := by
    simp only [Int32.toNatClampNeg]; rw [Int32.toInt_ofNat_of_lt (by omega)]; rfl
  rw [own_at, this]
theorem own_nb (M : Nat) (hM : M ≤ 16) : ∀ i : Nat, i < M → ¬ (Int32.ofNat i < 0) ∧ Int32.ofNat i < Int32.ofNat M := by
  intro i hi
  rw [own_ltI, own_ltI, Int32.toInt_ofNat_of_lt (by omega), Int32.toInt_ofNat_of_lt (by omega)]
  have : (0 : Int32).toInt = 0 := rfl
  omega

theorem own_pos (x : Int32) : ¬ (x &&& 2147483647) + 1 = 0 := by
  have m : (x &&& 2147483647).toInt = x.toInt % 2 ^ 31 := Jvm.Kit.i32_mask x 2147483647 (k := 31) (by decide) (by decide)
  intro e
  have e2 : (x &&& 2147483647) = -1 := own_p1 (e.trans (by decide))
  rw [e2] at m
  have : (-1 : Int32).toInt = -1 := rfl
  omega

theorem d4_0 : decode prog_40_method_6_code 0 = .ok (.aload_n 0, 1) := by decide +kernel
theorem d4_1 : decode prog_40_method_6_code 1 = .ok (.getfield 7, 3) := by decide +kernel
theorem d4_4 : decode prog_40_method_6_code 4 = .ok (.arraylength, 1) := by decide +kernel
theorem d4_5 : decode prog_40_method_6_code 5 = .ok (.iconst 1, 1) := by decide +kernel
theorem d4_6 : decode prog_40_method_6_code 6 = .ok (.isub, 1) := by decide +kernel
theorem d4_7 : decode prog_40_method_6_code 7 = .ok (.istore_n 2, 1) := by decide +kernel
theorem d4_8 : decode prog_40_method_6_code 8 = .ok (.iload_n 1, 1) := by decide +kernel
theorem d4_9 : decode prog_40_method_6_code 9 = .ok (.ldc 34, 2) := by decide +kernel
theorem d4_11 : decode prog_40_method_6_code 11 = .ok (.imul, 1) := by decide +kernel
theorem d4_12 : decode prog_40_method_6_code 12 = .ok (.istore_n 3, 1) := by decide +kernel
theorem d4_13 : decode prog_40_method_6_code 13 = .ok (.iload_n 3, 1) := by decide +kernel
theorem d4_14 : decode prog_40_method_6_code 14 = .ok (.iload_n 3, 1) := by decide +kernel
theorem d4_15 : decode prog_40_method_6_code 15 = .ok (.bipush 16, 2) := by decide +kernel
theorem d4_17 : decode prog_40_method_6_code 17 = .ok (.iushr, 1) := by decide +kernel
theorem d4_18 : decode prog_40_method_6_code 18 = .ok (.ixor, 1) := by decide +kernel
theorem d4_19 : decode prog_40_method_6_code 19 = .ok (.iload_n 2, 1) := by decide +kernel
theorem d4_20 : decode prog_40_method_6_code 20 = .ok (.iand, 1) := by decide +kernel
theorem d4_21 : decode prog_40_method_6_code 21 = .ok (.istore 4, 2) := by decide +kernel
theorem d4_23 : decode prog_40_method_6_code 23 = .ok (.aload_n 0, 1) := by decide +kernel
theorem d4_24 : decode prog_40_method_6_code 24 = .ok (.getfield 7, 3) := by decide +kernel
theorem d4_27 : decode prog_40_method_6_code 27 = .ok (.iload 4, 2) := by decide +kernel
theorem d4_29 : decode prog_40_method_6_code 29 = .ok (.iaload, 1) := by decide +kernel
theorem d4_30 : decode prog_40_method_6_code 30 = .ok (.ifCond .eq 27, 3) := by decide +kernel
theorem d4_33 : decode prog_40_method_6_code 33 = .ok (.aload_n 0, 1) := by decide +kernel
theorem d4_34 : decode prog_40_method_6_code 34 = .ok (.getfield 7, 3) := by decide +kernel
theorem d4_37 : decode prog_40_method_6_code 37 = .ok (.iload 4, 2) := by decide +kernel
theorem d4_39 : decode prog_40_method_6_code 39 = .ok (.iaload, 1) := by decide +kernel
theorem d4_40 : decode prog_40_method_6_code 40 = .ok (.iload_n 1, 1) := by decide +kernel
theorem d4_41 : decode prog_40_method_6_code 41 = .ok (.iconst 1, 1) := by decide +kernel
theorem d4_42 : decode prog_40_method_6_code 42 = .ok (.iadd, 1) := by decide +kernel
theorem d4_43 : decode prog_40_method_6_code 43 = .ok (.if_icmp .eq 14, 3) := by decide +kernel
theorem d4_46 : decode prog_40_method_6_code 46 = .ok (.iload 4, 2) := by decide +kernel
theorem d4_48 : decode prog_40_method_6_code 48 = .ok (.iconst 1, 1) := by decide +kernel
theorem d4_49 : decode prog_40_method_6_code 49 = .ok (.iadd, 1) := by decide +kernel
theorem d4_50 : decode prog_40_method_6_code 50 = .ok (.iload_n 2, 1) := by decide +kernel
theorem d4_51 : decode prog_40_method_6_code 51 = .ok (.iand, 1) := by decide +kernel
theorem d4_52 : decode prog_40_method_6_code 52 = .ok (.istore 4, 2) := by decide +kernel
theorem d4_54 : decode prog_40_method_6_code 54 = .ok (.goto (-31), 3) := by decide +kernel
theorem d4_57 : decode prog_40_method_6_code 57 = .ok (.iload 4, 2) := by decide +kernel
theorem d4_59 : decode prog_40_method_6_code 59 = .ok (.ireturn, 1) := by decide +kernel
theorem pn_4 : plainName "com/example/krel/krel/saturation/AtomSet" = true := by first | (simp [plainName, overriddenIn]; done) | decide +kernel
theorem ef_4 (m : MethodId) (a1 : Addr) (p2 : Int32) : entryFrame m #[(.ref a1), (.int p2)] 5 = mkF m 0 #[.val (.ref a1), .val (.int p2), .unset, .unset, .unset] [] := by first | (simp [entryFrame, mkF, argsToLocals, Value.category]; done) | rfl

def F4 (p2 : Int32) (L_c1 : List Int32) : Int32 := (Int32.ofNat (own_pr L_c1 p2 (own_H 8 p2) 8))
set_option maxRecDepth 65536 in
set_option maxHeartbeats 40000000 in
theorem side_4_29_5 (p2 : Int32) (L_c1 : List Int32) (hl_c1 : L_c1.length = 8) (hz : own_Free 8 L_c1 p2) (i : Nat) (hi : i < 8) : ¬ ((Int32.ofNat i) < 0) ∧ (Int32.ofNat i) < (8 : Int32) := by
  exact own_nb 8 (by decide) i hi
set_option maxRecDepth 65536 in
set_option maxHeartbeats 40000000 in
theorem side_4_39_9 (p2 : Int32) (L_c1 : List Int32) (hl_c1 : L_c1.length = 8) (hz : own_Free 8 L_c1 p2) (i : Nat) (hi : i < 8) (hc7 : ¬ ((own_at L_c1 (Int32.ofNat i)) = (0 : Int32))) : ¬ ((Int32.ofNat i) < 0) ∧ (Int32.ofNat i) < (8 : Int32) := by
  exact own_nb 8 (by decide) i hi
def Q4 (Z : State) (a1 : Addr) (p2 : Int32) (c1 : Addr) (k_c1 : ClassId) (L_c1 : List Int32) (h0 : Heap) (n0 : Nat) (v : Option Value) (h : Heap) (L : List Loc) : Prop := v = some (.int (F4 p2 L_c1)) ∧ Fr n0 L ∧ h = h0
set_option maxRecDepth 65536 in
set_option maxHeartbeats 40000000 in
theorem rm4 (l : Launch) (Z : State) (a0 : Array Value) (hw : ∀ d ∈ tables_1, d.before a0 Z = true) (ws : List Jvm.Cond) (a1 : Addr) (p2 : Int32) (c1 : Addr) (k_c1 : ClassId) (L_c1 : List Int32) (h0 : Heap) (n0 : Nat) (Z0 : n0 ≤ h0.size) (E_a1 : Exa Z h0 a1 "com/example/krel/krel/saturation/AtomSet") (F_slots_a1 : Fld Z h0 a1 "com/example/krel/krel/saturation/AtomSet" "slots" "[I" (.ref c1)) (V_c1 : Arv Z h0 c1 k_c1 .int (8 : Int32) (L_c1.map Value.int) (.int (0 : Int32))) (hl_c1 : L_c1.length = 8) (hz : own_Free 8 L_c1 p2) :
    MetFree l (⟨"com/example/krel/krel/saturation/AtomSet", "slotOf", "(I)I"⟩ : MethodName) (head1 (Jvm.Cond.code (⟨"com/example/krel/krel/saturation/AtomSet", "slotOf", "(I)I"⟩ : MethodName) prog_40_method_6_code 5 (some .int) :: ws) ({ frames := 0, cells := 0, slots := 0, locals := 0 } : Room)) (fun a U => a = #[(.ref a1), (.int p2)] ∧ Z.Warmed39 U.vm ∧ U.heap = h0) (fun _ _ _ _ _ => True) (fun _ U o U' => ∃ v L, o = .returned v ∧ Q4 Z a1 p2 c1 k_c1 L_c1 h0 n0 v U'.heap L ∧ FrameEnd U o U' L ({ frames := 0, cells := 0, slots := 0, locals := 0 } : Room).cells ({ frames := 0, cells := 0, slots := 0, locals := 0 } : Room).slots) := by
  refine MetFree.of_bodySF (plainFor_of_name pn_4) hisR ?_
  intro p e s m args below meth c s₁ Bd hml0 hP hK
  obtain ⟨rfl, hZ, hh⟩ := hP
  skip
  skip
  skip
  skip
  skip
  skip
  have hx := Bd.exec
  have hby := Bd.bytes
  have hml : c.maxLocals = 5 := hml0
  have hown : s.vm.findClass "com/example/krel/krel/saturation/AtomSet" = some m.cls := findClass_of_methodNamed Bd.named
  have hnm := (name_of_methodNamed Bd.named Bd.method).1
  have X0 : Stand p l e ({ frames := 0, cells := 0, slots := 0, locals := 0 } : Room) s m #[(.ref a1), (.int p2)] below meth c s₁ [] 0 0 := Stand.of_body Bd
  have e0 : s₁.heap = h0 := by rw [← hh, Bd.state]; rfl
  have N0 := Fr.nil n0
  have pre0 : ∀ t, Steps p.tables e below (s₁.setTop (mkF m 0 #[.val (.ref a1), .val (.int p2), .unset, .unset, .unset] [])) t → Steps p.tables e below (s₁.setTop (entryFrame m #[(.ref a1), (.int p2)] 5)) t := fun t k => castTop (ef_4 m a1 p2) k
  obtain ⟨T1, X1, e1, st1⟩ := getF X0 hx hZ hown (host := "") (Or.inl (hw _ (List.mem_of_getElem? (i := 11) rfl))) Via.refl e0 F_slots_a1 (g := (mkF m 1 #[.val (.ref a1), .val (.int p2), .unset, .unset, .unset] [(.ref a1)])) rfl rfl (hb hby d4_1)
  obtain ⟨cl2, Ar2, aq2, S2, M2, H2, G2⟩ := id V_c1
  have pre3 : ∀ t, Steps p.tables e below (T1.setTop (mkF m 23 #[.val (.ref a1), .val (.int p2), .val (.int (7 : Int32)), .val (.int (p2 * (-1640531527 : Int32))), .val (.int (((p2 * (-1640531527 : Int32)) ^^^ (((p2 * (-1640531527 : Int32)).toUInt32 >>> ((16 : Int32) &&& 31).toUInt32).toInt32)) &&& (7 : Int32)))] [])) t → Steps p.tables e below (s₁.setTop (entryFrame m #[(.ref a1), (.int p2)] 5)) t := fun t kt => by
    refine pre0 t ?_
    show Steps p.tables e below (s₁.setTop (mkF m 0 #[.val (.ref a1), .val (.int p2), .unset, .unset, .unset] [])) _
    refine XS.aloadN X0.here hx rfl (hb hby d4_0) rfl rfl ?_
    show Steps p.tables e below (s₁.setTop (mkF m 1 #[.val (.ref a1), .val (.int p2), .unset, .unset, .unset] [(.ref a1)])) _
    refine st1 _ ?_
    show Steps p.tables e below (T1.setTop (mkF m 4 #[.val (.ref a1), .val (.int p2), .unset, .unset, .unset] [(.ref c1)])) _
    refine X1.arraylength hx (by rw [e1]; exact Ar2.1) (State.isArrayOf_alike hZ.alike Ar2.2.1) (g := (mkF m 4 #[.val (.ref a1), .val (.int p2), .unset, .unset, .unset] [(.ref c1)])) rfl rfl (hb hby d4_4) _ ?_
    rw [len_of S2 M2]
    show Steps p.tables e below (T1.setTop (mkF m 5 #[.val (.ref a1), .val (.int p2), .unset, .unset, .unset] [(.int (8 : Int32))])) _
    refine XS.iconst X1.here hx rfl (hb hby d4_5) ?_
    show Steps p.tables e below (T1.setTop (mkF m 6 #[.val (.ref a1), .val (.int p2), .unset, .unset, .unset] [(.int (1 : Int32)), (.int (8 : Int32))])) _
    refine XS.isub X1.here hx rfl (hb hby d4_6) rfl ?_
    show Steps p.tables e below (T1.setTop (mkF m 7 #[.val (.ref a1), .val (.int p2), .unset, .unset, .unset] [(.int (7 : Int32))])) _
    refine XS.istoreN X1.here hx rfl (hb hby d4_7) rfl (l' := #[.val (.ref a1), .val (.int p2), .val (.int (7 : Int32)), .unset, .unset]) rfl ?_
    show Steps p.tables e below (T1.setTop (mkF m 8 #[.val (.ref a1), .val (.int p2), .val (.int (7 : Int32)), .unset, .unset] [])) _
    refine XS.iloadN X1.here hx rfl (hb hby d4_8) rfl ?_
    show Steps p.tables e below (T1.setTop (mkF m 9 #[.val (.ref a1), .val (.int p2), .val (.int (7 : Int32)), .unset, .unset] [(.int p2)])) _
    refine X1.ldcInt hx hown (mvT hZ (hw _ (List.mem_of_getElem? (i := 24) rfl))) (g := (mkF m 9 #[.val (.ref a1), .val (.int p2), .val (.int (7 : Int32)), .unset, .unset] [(.int p2)])) rfl (hb hby d4_9) _ ?_
    show Steps p.tables e below (T1.setTop (mkF m 11 #[.val (.ref a1), .val (.int p2), .val (.int (7 : Int32)), .unset, .unset] [(.int (-1640531527 : Int32)), (.int p2)])) _
    refine XS.imul X1.here hx rfl (hb hby d4_11) rfl ?_
    show Steps p.tables e below (T1.setTop (mkF m 12 #[.val (.ref a1), .val (.int p2), .val (.int (7 : Int32)), .unset, .unset] [(.int (p2 * (-1640531527 : Int32)))])) _
    refine XS.istoreN X1.here hx rfl (hb hby d4_12) rfl (l' := #[.val (.ref a1), .val (.int p2), .val (.int (7 : Int32)), .val (.int (p2 * (-1640531527 : Int32))), .unset]) rfl ?_
    show Steps p.tables e below (T1.setTop (mkF m 13 #[.val (.ref a1), .val (.int p2), .val (.int (7 : Int32)), .val (.int (p2 * (-1640531527 : Int32))), .unset] [])) _
    refine XS.iloadN X1.here hx rfl (hb hby d4_13) rfl ?_
    show Steps p.tables e below (T1.setTop (mkF m 14 #[.val (.ref a1), .val (.int p2), .val (.int (7 : Int32)), .val (.int (p2 * (-1640531527 : Int32))), .unset] [(.int (p2 * (-1640531527 : Int32)))])) _
    refine XS.iloadN X1.here hx rfl (hb hby d4_14) rfl ?_
    show Steps p.tables e below (T1.setTop (mkF m 15 #[.val (.ref a1), .val (.int p2), .val (.int (7 : Int32)), .val (.int (p2 * (-1640531527 : Int32))), .unset] [(.int (p2 * (-1640531527 : Int32))), (.int (p2 * (-1640531527 : Int32)))])) _
    refine XS.bipush X1.here hx rfl (hb hby d4_15) ?_
    show Steps p.tables e below (T1.setTop (mkF m 17 #[.val (.ref a1), .val (.int p2), .val (.int (7 : Int32)), .val (.int (p2 * (-1640531527 : Int32))), .unset] [(.int (16 : Int32)), (.int (p2 * (-1640531527 : Int32))), (.int (p2 * (-1640531527 : Int32)))])) _
    refine XS.iushr X1.here hx rfl (hb hby d4_17) rfl ?_
    show Steps p.tables e below (T1.setTop (mkF m 18 #[.val (.ref a1), .val (.int p2), .val (.int (7 : Int32)), .val (.int (p2 * (-1640531527 : Int32))), .unset] [(.int (((p2 * (-1640531527 : Int32)).toUInt32 >>> ((16 : Int32) &&& 31).toUInt32).toInt32)), (.int (p2 * (-1640531527 : Int32)))])) _
    refine XS.ixor X1.here hx rfl (hb hby d4_18) rfl ?_
    show Steps p.tables e below (T1.setTop (mkF m 19 #[.val (.ref a1), .val (.int p2), .val (.int (7 : Int32)), .val (.int (p2 * (-1640531527 : Int32))), .unset] [(.int ((p2 * (-1640531527 : Int32)) ^^^ (((p2 * (-1640531527 : Int32)).toUInt32 >>> ((16 : Int32) &&& 31).toUInt32).toInt32)))])) _
    refine XS.iloadN X1.here hx rfl (hb hby d4_19) rfl ?_
    show Steps p.tables e below (T1.setTop (mkF m 20 #[.val (.ref a1), .val (.int p2), .val (.int (7 : Int32)), .val (.int (p2 * (-1640531527 : Int32))), .unset] [(.int (7 : Int32)), (.int ((p2 * (-1640531527 : Int32)) ^^^ (((p2 * (-1640531527 : Int32)).toUInt32 >>> ((16 : Int32) &&& 31).toUInt32).toInt32)))])) _
    refine XS.iand X1.here hx rfl (hb hby d4_20) rfl ?_
    show Steps p.tables e below (T1.setTop (mkF m 21 #[.val (.ref a1), .val (.int p2), .val (.int (7 : Int32)), .val (.int (p2 * (-1640531527 : Int32))), .unset] [(.int (((p2 * (-1640531527 : Int32)) ^^^ (((p2 * (-1640531527 : Int32)).toUInt32 >>> ((16 : Int32) &&& 31).toUInt32).toInt32)) &&& (7 : Int32)))])) _
    refine XS.istore X1.here hx rfl (hb hby d4_21) rfl (l' := #[.val (.ref a1), .val (.int p2), .val (.int (7 : Int32)), .val (.int (p2 * (-1640531527 : Int32))), .val (.int (((p2 * (-1640531527 : Int32)) ^^^ (((p2 * (-1640531527 : Int32)).toUInt32 >>> ((16 : Int32) &&& 31).toUInt32).toInt32)) &&& (7 : Int32)))]) rfl ?_
    exact kt
  have hst : (((p2 * (-1640531527 : Int32)) ^^^ (((p2 * (-1640531527 : Int32)).toUInt32 >>> ((16 : Int32) &&& 31).toUInt32).toInt32)) &&& (7 : Int32)) = Int32.ofNat (own_H 8 p2) := (own_H8 p2).2
  rw [hst] at pre3
  have loop : ∀ (f i : Nat), i < 8 → (∃ d, d < f ∧ L_c1.getD ((i + d) % 8) 0 = 0) → ∀ (Tq : State) (Lq : List Loc), Stand p l e ({ frames := 0, cells := 0, slots := 0, locals := 0 } : Room) s m #[(.ref a1), (.int p2)] below meth c Tq Lq 0 0 → Tq.heap = h0 → Fr n0 Lq → ∃ (T' : State) (L' : List Loc), Stand p l e ({ frames := 0, cells := 0, slots := 0, locals := 0 } : Room) s m #[(.ref a1), (.int p2)] below meth c T' L' 0 0 ∧ T'.heap = h0 ∧ Fr n0 L' ∧ ∀ t, Steps p.tables e below (T'.setTop (mkF m 57 #[.val (.ref a1), .val (.int p2), .val (.int (7 : Int32)), .val (.int (p2 * (-1640531527 : Int32))), .val (.int (Int32.ofNat (own_pr L_c1 p2 i f)))] [])) t → Steps p.tables e below (Tq.setTop (mkF m 23 #[.val (.ref a1), .val (.int p2), .val (.int (7 : Int32)), .val (.int (p2 * (-1640531527 : Int32))), .val (.int (Int32.ofNat i))] [])) t := by
    intro f
    induction f with
    | zero => rintro i hi ⟨d, hd, -⟩; omega
    | succ f ih =>
      rintro i hi ⟨d, hd, hzd⟩ Tq Lq Xq eq Nq
      have idq : ∀ t, Steps p.tables e below (Tq.setTop (mkF m 23 #[.val (.ref a1), .val (.int p2), .val (.int (7 : Int32)), .val (.int (p2 * (-1640531527 : Int32))), .val (.int (Int32.ofNat i))] [])) t → Steps p.tables e below (Tq.setTop (mkF m 23 #[.val (.ref a1), .val (.int p2), .val (.int (7 : Int32)), .val (.int (p2 * (-1640531527 : Int32))), .val (.int (Int32.ofNat i))] [])) t := fun t k => k
      obtain ⟨T4, X4, e4, st4⟩ := getF Xq hx hZ hown (host := "") (Or.inl (hw _ (List.mem_of_getElem? (i := 11) rfl))) Via.refl eq F_slots_a1 (g := (mkF m 24 #[.val (.ref a1), .val (.int p2), .val (.int (7 : Int32)), .val (.int (p2 * (-1640531527 : Int32))), .val (.int (Int32.ofNat i))] [(.ref a1)])) rfl rfl (hb hby d4_24)
      obtain ⟨cl5, Ar5, aq5, S5, M5, H5, G5⟩ := id V_c1
      have hin5 : ¬ ((Int32.ofNat i) < 0 ∨ cl5.slots.size ≤ ((Int32.ofNat i)).toNatClampNeg) := inb_of S5 (side_4_29_5 p2 L_c1 hl_c1 hz i hi)
      have hat5 : cl5.slots[((Int32.ofNat i)).toNatClampNeg]? = some (.int (own_at L_c1 (Int32.ofNat i))) := Has.at H5 hin5 (own_getD L_c1 ((Int32.ofNat i)).toNatClampNeg)
      have pre6 : ∀ t, Steps p.tables e below (T4.setTop (mkF m 30 #[.val (.ref a1), .val (.int p2), .val (.int (7 : Int32)), .val (.int (p2 * (-1640531527 : Int32))), .val (.int (Int32.ofNat i))] [(.int (own_at L_c1 (Int32.ofNat i)))])) t → Steps p.tables e below (Tq.setTop (mkF m 23 #[.val (.ref a1), .val (.int p2), .val (.int (7 : Int32)), .val (.int (p2 * (-1640531527 : Int32))), .val (.int (Int32.ofNat i))] [])) t := fun t kt => by
        refine idq t ?_
        show Steps p.tables e below (Tq.setTop (mkF m 23 #[.val (.ref a1), .val (.int p2), .val (.int (7 : Int32)), .val (.int (p2 * (-1640531527 : Int32))), .val (.int (Int32.ofNat i))] [])) _
        refine XS.aloadN Xq.here hx rfl (hb hby d4_23) rfl rfl ?_
        show Steps p.tables e below (Tq.setTop (mkF m 24 #[.val (.ref a1), .val (.int p2), .val (.int (7 : Int32)), .val (.int (p2 * (-1640531527 : Int32))), .val (.int (Int32.ofNat i))] [(.ref a1)])) _
        refine st4 _ ?_
        show Steps p.tables e below (T4.setTop (mkF m 27 #[.val (.ref a1), .val (.int p2), .val (.int (7 : Int32)), .val (.int (p2 * (-1640531527 : Int32))), .val (.int (Int32.ofNat i))] [(.ref c1)])) _
        refine XS.iload X4.here hx rfl (hb hby d4_27) rfl ?_
        show Steps p.tables e below (T4.setTop (mkF m 29 #[.val (.ref a1), .val (.int p2), .val (.int (7 : Int32)), .val (.int (p2 * (-1640531527 : Int32))), .val (.int (Int32.ofNat i))] [(.int (Int32.ofNat i)), (.ref c1)])) _
        refine X4.iaload hx (j := (Int32.ofNat i)) (v := (.int (own_at L_c1 (Int32.ofNat i)))) (by rw [e4]; exact Ar5.1) (State.isArrayOf_alike hZ.alike Ar5.2.1) Ar5.2.2 hin5 hat5 (g := (mkF m 29 #[.val (.ref a1), .val (.int p2), .val (.int (7 : Int32)), .val (.int (p2 * (-1640531527 : Int32))), .val (.int (Int32.ofNat i))] [(.int (Int32.ofNat i)), (.ref c1)])) rfl rfl (hb hby d4_29) _ ?_
        exact kt
      by_cases hc7 : (own_at L_c1 (Int32.ofNat i)) = (0 : Int32)
      · have hat0 := own_atn L_c1 i (by omega)
        refine ⟨_, _, X4, e4, Nq, fun t kt => pre6 t ?_⟩
        rw [own_pr, if_pos (Or.inl (hat0 ▸ hc7))] at kt
        show Steps p.tables e below (T4.setTop (mkF m 30 #[.val (.ref a1), .val (.int p2), .val (.int (7 : Int32)), .val (.int (p2 * (-1640531527 : Int32))), .val (.int (Int32.ofNat i))] [(.int (own_at L_c1 (Int32.ofNat i)))])) _
        refine XS.ifYes X4.here hx rfl (pc0 := 30) (pc' := 57) rfl (hb hby d4_30) rfl ((if0 _ _).trans (teq hc7).1) (by decide) (by decide) ?_
        exact kt
      · obtain ⟨T8, X8, e8, st8⟩ := getF X4 hx hZ hown (host := "") (Or.inl (hw _ (List.mem_of_getElem? (i := 11) rfl))) Via.refl e4 F_slots_a1 (g := (mkF m 34 #[.val (.ref a1), .val (.int p2), .val (.int (7 : Int32)), .val (.int (p2 * (-1640531527 : Int32))), .val (.int (Int32.ofNat i))] [(.ref a1)])) rfl rfl (hb hby d4_34)
        obtain ⟨cl9, Ar9, aq9, S9, M9, H9, G9⟩ := id V_c1
        have hin9 : ¬ ((Int32.ofNat i) < 0 ∨ cl9.slots.size ≤ ((Int32.ofNat i)).toNatClampNeg) := inb_of S9 (side_4_39_9 p2 L_c1 hl_c1 hz i hi hc7)
        have hat9 : cl9.slots[((Int32.ofNat i)).toNatClampNeg]? = some (.int (own_at L_c1 (Int32.ofNat i))) := Has.at H9 hin9 (own_getD L_c1 ((Int32.ofNat i)).toNatClampNeg)
        have pre10 : ∀ t, Steps p.tables e below (T8.setTop (mkF m 43 #[.val (.ref a1), .val (.int p2), .val (.int (7 : Int32)), .val (.int (p2 * (-1640531527 : Int32))), .val (.int (Int32.ofNat i))] [(.int (p2 + (1 : Int32))), (.int (own_at L_c1 (Int32.ofNat i)))])) t → Steps p.tables e below (Tq.setTop (mkF m 23 #[.val (.ref a1), .val (.int p2), .val (.int (7 : Int32)), .val (.int (p2 * (-1640531527 : Int32))), .val (.int (Int32.ofNat i))] [])) t := fun t kt => by
          refine pre6 t ?_
          show Steps p.tables e below (T4.setTop (mkF m 30 #[.val (.ref a1), .val (.int p2), .val (.int (7 : Int32)), .val (.int (p2 * (-1640531527 : Int32))), .val (.int (Int32.ofNat i))] [(.int (own_at L_c1 (Int32.ofNat i)))])) _
          refine XS.ifNo X4.here hx rfl (hb hby d4_30) rfl ((if0 _ _).trans (feq hc7).1) ?_
          show Steps p.tables e below (T4.setTop (mkF m 33 #[.val (.ref a1), .val (.int p2), .val (.int (7 : Int32)), .val (.int (p2 * (-1640531527 : Int32))), .val (.int (Int32.ofNat i))] [])) _
          refine XS.aloadN X4.here hx rfl (hb hby d4_33) rfl rfl ?_
          show Steps p.tables e below (T4.setTop (mkF m 34 #[.val (.ref a1), .val (.int p2), .val (.int (7 : Int32)), .val (.int (p2 * (-1640531527 : Int32))), .val (.int (Int32.ofNat i))] [(.ref a1)])) _
          refine st8 _ ?_
          show Steps p.tables e below (T8.setTop (mkF m 37 #[.val (.ref a1), .val (.int p2), .val (.int (7 : Int32)), .val (.int (p2 * (-1640531527 : Int32))), .val (.int (Int32.ofNat i))] [(.ref c1)])) _
          refine XS.iload X8.here hx rfl (hb hby d4_37) rfl ?_
          show Steps p.tables e below (T8.setTop (mkF m 39 #[.val (.ref a1), .val (.int p2), .val (.int (7 : Int32)), .val (.int (p2 * (-1640531527 : Int32))), .val (.int (Int32.ofNat i))] [(.int (Int32.ofNat i)), (.ref c1)])) _
          refine X8.iaload hx (j := (Int32.ofNat i)) (v := (.int (own_at L_c1 (Int32.ofNat i)))) (by rw [e8]; exact Ar9.1) (State.isArrayOf_alike hZ.alike Ar9.2.1) Ar9.2.2 hin9 hat9 (g := (mkF m 39 #[.val (.ref a1), .val (.int p2), .val (.int (7 : Int32)), .val (.int (p2 * (-1640531527 : Int32))), .val (.int (Int32.ofNat i))] [(.int (Int32.ofNat i)), (.ref c1)])) rfl rfl (hb hby d4_39) _ ?_
          show Steps p.tables e below (T8.setTop (mkF m 40 #[.val (.ref a1), .val (.int p2), .val (.int (7 : Int32)), .val (.int (p2 * (-1640531527 : Int32))), .val (.int (Int32.ofNat i))] [(.int (own_at L_c1 (Int32.ofNat i)))])) _
          refine XS.iloadN X8.here hx rfl (hb hby d4_40) rfl ?_
          show Steps p.tables e below (T8.setTop (mkF m 41 #[.val (.ref a1), .val (.int p2), .val (.int (7 : Int32)), .val (.int (p2 * (-1640531527 : Int32))), .val (.int (Int32.ofNat i))] [(.int p2), (.int (own_at L_c1 (Int32.ofNat i)))])) _
          refine XS.iconst X8.here hx rfl (hb hby d4_41) ?_
          show Steps p.tables e below (T8.setTop (mkF m 42 #[.val (.ref a1), .val (.int p2), .val (.int (7 : Int32)), .val (.int (p2 * (-1640531527 : Int32))), .val (.int (Int32.ofNat i))] [(.int (1 : Int32)), (.int p2), (.int (own_at L_c1 (Int32.ofNat i)))])) _
          refine XS.iadd X8.here hx rfl (hb hby d4_42) rfl ?_
          exact kt
        by_cases hc11 : (own_at L_c1 (Int32.ofNat i)) = (p2 + (1 : Int32))
        · have hat0 := own_atn L_c1 i (by omega)
          refine ⟨_, _, X8, e8, Nq, fun t kt => pre10 t ?_⟩
          rw [own_pr, if_pos (Or.inr (hat0 ▸ hc11))] at kt
          show Steps p.tables e below (T8.setTop (mkF m 43 #[.val (.ref a1), .val (.int p2), .val (.int (7 : Int32)), .val (.int (p2 * (-1640531527 : Int32))), .val (.int (Int32.ofNat i))] [(.int (p2 + (1 : Int32))), (.int (own_at L_c1 (Int32.ofNat i)))])) _
          refine XS.icmpYes X8.here hx rfl (pc0 := 43) (pc' := 57) rfl (hb hby d4_43) rfl (teq hc11).1 (by decide) (by decide) ?_
          exact kt
        · have hat0 := own_atn L_c1 i (by omega)
          have hno : ¬ (L_c1.getD i 0 = 0 ∨ L_c1.getD i 0 = p2 + 1) := fun w => w.elim (fun w => hc7 (hat0.trans w)) (fun w => hc11 (hat0.trans w))
          have hd0 : d ≠ 0 := by rintro rfl; rw [Nat.add_zero, Nat.mod_eq_of_lt hi] at hzd; exact hno (Or.inl hzd)
          obtain ⟨T2, L2, X2, e2, N2, st2⟩ := ih ((i + 1) % 8) (Nat.mod_lt _ (by decide)) ⟨d - 1, by omega, by rw [own_mod, show d - 1 + 1 = d by omega]; exact hzd⟩ _ _ X8 e8 Nq
          refine ⟨T2, L2, X2, e2, N2, fun t kt => pre10 t ?_⟩
          rw [own_pr, if_neg hno, hl_c1] at kt
          show Steps p.tables e below (T8.setTop (mkF m 43 #[.val (.ref a1), .val (.int p2), .val (.int (7 : Int32)), .val (.int (p2 * (-1640531527 : Int32))), .val (.int (Int32.ofNat i))] [(.int (p2 + (1 : Int32))), (.int (own_at L_c1 (Int32.ofNat i)))])) _
          refine XS.icmpNo X8.here hx rfl (hb hby d4_43) rfl (feq hc11).1 ?_
          show Steps p.tables e below (T8.setTop (mkF m 46 #[.val (.ref a1), .val (.int p2), .val (.int (7 : Int32)), .val (.int (p2 * (-1640531527 : Int32))), .val (.int (Int32.ofNat i))] [])) _
          refine XS.iload X8.here hx rfl (hb hby d4_46) rfl ?_
          show Steps p.tables e below (T8.setTop (mkF m 48 #[.val (.ref a1), .val (.int p2), .val (.int (7 : Int32)), .val (.int (p2 * (-1640531527 : Int32))), .val (.int (Int32.ofNat i))] [(.int (Int32.ofNat i))])) _
          refine XS.iconst X8.here hx rfl (hb hby d4_48) ?_
          show Steps p.tables e below (T8.setTop (mkF m 49 #[.val (.ref a1), .val (.int p2), .val (.int (7 : Int32)), .val (.int (p2 * (-1640531527 : Int32))), .val (.int (Int32.ofNat i))] [(.int (1 : Int32)), (.int (Int32.ofNat i))])) _
          refine XS.iadd X8.here hx rfl (hb hby d4_49) rfl ?_
          show Steps p.tables e below (T8.setTop (mkF m 50 #[.val (.ref a1), .val (.int p2), .val (.int (7 : Int32)), .val (.int (p2 * (-1640531527 : Int32))), .val (.int (Int32.ofNat i))] [(.int ((Int32.ofNat i) + (1 : Int32)))])) _
          refine XS.iloadN X8.here hx rfl (hb hby d4_50) rfl ?_
          show Steps p.tables e below (T8.setTop (mkF m 51 #[.val (.ref a1), .val (.int p2), .val (.int (7 : Int32)), .val (.int (p2 * (-1640531527 : Int32))), .val (.int (Int32.ofNat i))] [(.int (7 : Int32)), (.int ((Int32.ofNat i) + (1 : Int32)))])) _
          refine XS.iand X8.here hx rfl (hb hby d4_51) rfl ?_
          show Steps p.tables e below (T8.setTop (mkF m 52 #[.val (.ref a1), .val (.int p2), .val (.int (7 : Int32)), .val (.int (p2 * (-1640531527 : Int32))), .val (.int (Int32.ofNat i))] [(.int (((Int32.ofNat i) + (1 : Int32)) &&& (7 : Int32)))])) _
          refine XS.istore X8.here hx rfl (hb hby d4_52) rfl (l' := #[.val (.ref a1), .val (.int p2), .val (.int (7 : Int32)), .val (.int (p2 * (-1640531527 : Int32))), .val (.int (((Int32.ofNat i) + (1 : Int32)) &&& (7 : Int32)))]) rfl ?_
          show Steps p.tables e below (T8.setTop (mkF m 54 #[.val (.ref a1), .val (.int p2), .val (.int (7 : Int32)), .val (.int (p2 * (-1640531527 : Int32))), .val (.int (((Int32.ofNat i) + (1 : Int32)) &&& (7 : Int32)))] [])) _
          refine XS.goto X8.here hx rfl (pc0 := 54) (pc' := 23) rfl (hb hby d4_54) (by decide) (by decide) ?_
          show Steps p.tables e below (T8.setTop (mkF m 23 #[.val (.ref a1), .val (.int p2), .val (.int (7 : Int32)), .val (.int (p2 * (-1640531527 : Int32))), .val (.int (((Int32.ofNat i) + (1 : Int32)) &&& (7 : Int32)))] [])) _
          rw [own_next8 i hi]
          exact st2 t kt
  obtain ⟨T12, Lc12, X12, e12, N12, st12⟩ := loop 8 (own_H 8 p2) (own_H8 p2).1 hz _ _ X1 e1 N0
  obtain ⟨fs, hr, hrun, hended, hW, hsame⟩ := X12.leave (v := some (.int (Int32.ofNat (own_pr L_c1 p2 (own_H 8 p2) 8)))) (fun h => by rw [Bd.returns] at h; cases h)
  refine ⟨_, _, pre3 _ ?_, hrun, hended, _, _, rfl, ?_, ⟨_, rfl⟩, hW, hsame.mono (by decide) (by decide)⟩
  · show Steps p.tables e below (T1.setTop (mkF m 23 #[.val (.ref a1), .val (.int p2), .val (.int (7 : Int32)), .val (.int (p2 * (-1640531527 : Int32))), .val (.int (Int32.ofNat (own_H 8 p2)))] [])) _
    refine st12 _ ?_
    show Steps p.tables e below (T12.setTop (mkF m 57 #[.val (.ref a1), .val (.int p2), .val (.int (7 : Int32)), .val (.int (p2 * (-1640531527 : Int32))), .val (.int (Int32.ofNat (own_pr L_c1 p2 (own_H 8 p2) 8)))] [])) _
    refine XS.iload X12.here hx rfl (hb hby d4_57) rfl ?_
    show Steps p.tables e below (T12.setTop (mkF m 59 #[.val (.ref a1), .val (.int p2), .val (.int (7 : Int32)), .val (.int (p2 * (-1640531527 : Int32))), .val (.int (Int32.ofNat (own_pr L_c1 p2 (own_H 8 p2) 8)))] [(.int (Int32.ofNat (own_pr L_c1 p2 (own_H 8 p2) 8)))])) _
    exact retI X12 hx Bd.returns (hb hby d4_59) hr
  · show Q4 Z a1 p2 c1 k_c1 L_c1 h0 n0 _ T12.heap _
    rw [e12]
    refine ⟨?_, N12, rfl⟩
    show (some (.int (Int32.ofNat (own_pr L_c1 p2 (own_H 8 p2) 8))) : Option Value) = some (.int (F4 p2 L_c1))
    rw [F4]
theorem d1004_0 : decode prog_40_method_6_code 0 = .ok (.aload_n 0, 1) := by decide +kernel
theorem d1004_1 : decode prog_40_method_6_code 1 = .ok (.getfield 7, 3) := by decide +kernel
theorem d1004_4 : decode prog_40_method_6_code 4 = .ok (.arraylength, 1) := by decide +kernel
theorem d1004_5 : decode prog_40_method_6_code 5 = .ok (.iconst 1, 1) := by decide +kernel
theorem d1004_6 : decode prog_40_method_6_code 6 = .ok (.isub, 1) := by decide +kernel
theorem d1004_7 : decode prog_40_method_6_code 7 = .ok (.istore_n 2, 1) := by decide +kernel
theorem d1004_8 : decode prog_40_method_6_code 8 = .ok (.iload_n 1, 1) := by decide +kernel
theorem d1004_9 : decode prog_40_method_6_code 9 = .ok (.ldc 34, 2) := by decide +kernel
theorem d1004_11 : decode prog_40_method_6_code 11 = .ok (.imul, 1) := by decide +kernel
theorem d1004_12 : decode prog_40_method_6_code 12 = .ok (.istore_n 3, 1) := by decide +kernel
theorem d1004_13 : decode prog_40_method_6_code 13 = .ok (.iload_n 3, 1) := by decide +kernel
theorem d1004_14 : decode prog_40_method_6_code 14 = .ok (.iload_n 3, 1) := by decide +kernel
theorem d1004_15 : decode prog_40_method_6_code 15 = .ok (.bipush 16, 2) := by decide +kernel
theorem d1004_17 : decode prog_40_method_6_code 17 = .ok (.iushr, 1) := by decide +kernel
theorem d1004_18 : decode prog_40_method_6_code 18 = .ok (.ixor, 1) := by decide +kernel
theorem d1004_19 : decode prog_40_method_6_code 19 = .ok (.iload_n 2, 1) := by decide +kernel
theorem d1004_20 : decode prog_40_method_6_code 20 = .ok (.iand, 1) := by decide +kernel
theorem d1004_21 : decode prog_40_method_6_code 21 = .ok (.istore 4, 2) := by decide +kernel
theorem d1004_23 : decode prog_40_method_6_code 23 = .ok (.aload_n 0, 1) := by decide +kernel
theorem d1004_24 : decode prog_40_method_6_code 24 = .ok (.getfield 7, 3) := by decide +kernel
theorem d1004_27 : decode prog_40_method_6_code 27 = .ok (.iload 4, 2) := by decide +kernel
theorem d1004_29 : decode prog_40_method_6_code 29 = .ok (.iaload, 1) := by decide +kernel
theorem d1004_30 : decode prog_40_method_6_code 30 = .ok (.ifCond .eq 27, 3) := by decide +kernel
theorem d1004_33 : decode prog_40_method_6_code 33 = .ok (.aload_n 0, 1) := by decide +kernel
theorem d1004_34 : decode prog_40_method_6_code 34 = .ok (.getfield 7, 3) := by decide +kernel
theorem d1004_37 : decode prog_40_method_6_code 37 = .ok (.iload 4, 2) := by decide +kernel
theorem d1004_39 : decode prog_40_method_6_code 39 = .ok (.iaload, 1) := by decide +kernel
theorem d1004_40 : decode prog_40_method_6_code 40 = .ok (.iload_n 1, 1) := by decide +kernel
theorem d1004_41 : decode prog_40_method_6_code 41 = .ok (.iconst 1, 1) := by decide +kernel
theorem d1004_42 : decode prog_40_method_6_code 42 = .ok (.iadd, 1) := by decide +kernel
theorem d1004_43 : decode prog_40_method_6_code 43 = .ok (.if_icmp .eq 14, 3) := by decide +kernel
theorem d1004_46 : decode prog_40_method_6_code 46 = .ok (.iload 4, 2) := by decide +kernel
theorem d1004_48 : decode prog_40_method_6_code 48 = .ok (.iconst 1, 1) := by decide +kernel
theorem d1004_49 : decode prog_40_method_6_code 49 = .ok (.iadd, 1) := by decide +kernel
theorem d1004_50 : decode prog_40_method_6_code 50 = .ok (.iload_n 2, 1) := by decide +kernel
theorem d1004_51 : decode prog_40_method_6_code 51 = .ok (.iand, 1) := by decide +kernel
theorem d1004_52 : decode prog_40_method_6_code 52 = .ok (.istore 4, 2) := by decide +kernel
theorem d1004_54 : decode prog_40_method_6_code 54 = .ok (.goto (-31), 3) := by decide +kernel
theorem d1004_57 : decode prog_40_method_6_code 57 = .ok (.iload 4, 2) := by decide +kernel
theorem d1004_59 : decode prog_40_method_6_code 59 = .ok (.ireturn, 1) := by decide +kernel
theorem pn_1004 : plainName "com/example/krel/krel/saturation/AtomSet" = true := by first | (simp [plainName, overriddenIn]; done) | decide +kernel
theorem ef_1004 (m : MethodId) (a1 : Addr) (p2 : Int32) : entryFrame m #[(.ref a1), (.int p2)] 5 = mkF m 0 #[.val (.ref a1), .val (.int p2), .unset, .unset, .unset] [] := by first | (simp [entryFrame, mkF, argsToLocals, Value.category]; done) | rfl

def F1004 (p2 : Int32) (L_c1 : List Int32) : Int32 := (Int32.ofNat (own_pr L_c1 p2 (own_H 16 p2) 16))
set_option maxRecDepth 65536 in
set_option maxHeartbeats 40000000 in
theorem side_1004_29_5 (p2 : Int32) (L_c1 : List Int32) (hl_c1 : L_c1.length = 16) (hz : own_Free 16 L_c1 p2) (i : Nat) (hi : i < 16) : ¬ ((Int32.ofNat i) < 0) ∧ (Int32.ofNat i) < (16 : Int32) := by
  exact own_nb 16 (by decide) i hi
set_option maxRecDepth 65536 in
set_option maxHeartbeats 40000000 in
theorem side_1004_39_9 (p2 : Int32) (L_c1 : List Int32) (hl_c1 : L_c1.length = 16) (hz : own_Free 16 L_c1 p2) (i : Nat) (hi : i < 16) (hc7 : ¬ ((own_at L_c1 (Int32.ofNat i)) = (0 : Int32))) : ¬ ((Int32.ofNat i) < 0) ∧ (Int32.ofNat i) < (16 : Int32) := by
  exact own_nb 16 (by decide) i hi
def Q1004 (Z : State) (a1 : Addr) (p2 : Int32) (c1 : Addr) (k_c1 : ClassId) (L_c1 : List Int32) (h0 : Heap) (n0 : Nat) (v : Option Value) (h : Heap) (L : List Loc) : Prop := v = some (.int (F1004 p2 L_c1)) ∧ Fr n0 L ∧ h = h0
set_option maxRecDepth 65536 in
set_option maxHeartbeats 40000000 in
theorem rm1004 (l : Launch) (Z : State) (a0 : Array Value) (hw : ∀ d ∈ tables_1, d.before a0 Z = true) (ws : List Jvm.Cond) (a1 : Addr) (p2 : Int32) (c1 : Addr) (k_c1 : ClassId) (L_c1 : List Int32) (h0 : Heap) (n0 : Nat) (Z0 : n0 ≤ h0.size) (E_a1 : Exa Z h0 a1 "com/example/krel/krel/saturation/AtomSet") (F_slots_a1 : Fld Z h0 a1 "com/example/krel/krel/saturation/AtomSet" "slots" "[I" (.ref c1)) (V_c1 : Arv Z h0 c1 k_c1 .int (16 : Int32) (L_c1.map Value.int) (.int (0 : Int32))) (hl_c1 : L_c1.length = 16) (hz : own_Free 16 L_c1 p2) :
    MetFree l (⟨"com/example/krel/krel/saturation/AtomSet", "slotOf", "(I)I"⟩ : MethodName) (head1 (Jvm.Cond.code (⟨"com/example/krel/krel/saturation/AtomSet", "slotOf", "(I)I"⟩ : MethodName) prog_40_method_6_code 5 (some .int) :: ws) ({ frames := 0, cells := 0, slots := 0, locals := 0 } : Room)) (fun a U => a = #[(.ref a1), (.int p2)] ∧ Z.Warmed39 U.vm ∧ U.heap = h0) (fun _ _ _ _ _ => True) (fun _ U o U' => ∃ v L, o = .returned v ∧ Q1004 Z a1 p2 c1 k_c1 L_c1 h0 n0 v U'.heap L ∧ FrameEnd U o U' L ({ frames := 0, cells := 0, slots := 0, locals := 0 } : Room).cells ({ frames := 0, cells := 0, slots := 0, locals := 0 } : Room).slots) := by
  refine MetFree.of_bodySF (plainFor_of_name pn_1004) hisR ?_
  intro p e s m args below meth c s₁ Bd hml0 hP hK
  obtain ⟨rfl, hZ, hh⟩ := hP
  skip
  skip
  skip
  skip
  skip
  skip
  have hx := Bd.exec
  have hby := Bd.bytes
  have hml : c.maxLocals = 5 := hml0
  have hown : s.vm.findClass "com/example/krel/krel/saturation/AtomSet" = some m.cls := findClass_of_methodNamed Bd.named
  have hnm := (name_of_methodNamed Bd.named Bd.method).1
  have X0 : Stand p l e ({ frames := 0, cells := 0, slots := 0, locals := 0 } : Room) s m #[(.ref a1), (.int p2)] below meth c s₁ [] 0 0 := Stand.of_body Bd
  have e0 : s₁.heap = h0 := by rw [← hh, Bd.state]; rfl
  have N0 := Fr.nil n0
  have pre0 : ∀ t, Steps p.tables e below (s₁.setTop (mkF m 0 #[.val (.ref a1), .val (.int p2), .unset, .unset, .unset] [])) t → Steps p.tables e below (s₁.setTop (entryFrame m #[(.ref a1), (.int p2)] 5)) t := fun t k => castTop (ef_1004 m a1 p2) k
  obtain ⟨T1, X1, e1, st1⟩ := getF X0 hx hZ hown (host := "") (Or.inl (hw _ (List.mem_of_getElem? (i := 11) rfl))) Via.refl e0 F_slots_a1 (g := (mkF m 1 #[.val (.ref a1), .val (.int p2), .unset, .unset, .unset] [(.ref a1)])) rfl rfl (hb hby d1004_1)
  obtain ⟨cl2, Ar2, aq2, S2, M2, H2, G2⟩ := id V_c1
  have pre3 : ∀ t, Steps p.tables e below (T1.setTop (mkF m 23 #[.val (.ref a1), .val (.int p2), .val (.int (15 : Int32)), .val (.int (p2 * (-1640531527 : Int32))), .val (.int (((p2 * (-1640531527 : Int32)) ^^^ (((p2 * (-1640531527 : Int32)).toUInt32 >>> ((16 : Int32) &&& 31).toUInt32).toInt32)) &&& (15 : Int32)))] [])) t → Steps p.tables e below (s₁.setTop (entryFrame m #[(.ref a1), (.int p2)] 5)) t := fun t kt => by
    refine pre0 t ?_
    show Steps p.tables e below (s₁.setTop (mkF m 0 #[.val (.ref a1), .val (.int p2), .unset, .unset, .unset] [])) _
    refine XS.aloadN X0.here hx rfl (hb hby d1004_0) rfl rfl ?_
    show Steps p.tables e below (s₁.setTop (mkF m 1 #[.val (.ref a1), .val (.int p2), .unset, .unset, .unset] [(.ref a1)])) _
    refine st1 _ ?_
    show Steps p.tables e below (T1.setTop (mkF m 4 #[.val (.ref a1), .val (.int p2), .unset, .unset, .unset] [(.ref c1)])) _
    refine X1.arraylength hx (by rw [e1]; exact Ar2.1) (State.isArrayOf_alike hZ.alike Ar2.2.1) (g := (mkF m 4 #[.val (.ref a1), .val (.int p2), .unset, .unset, .unset] [(.ref c1)])) rfl rfl (hb hby d1004_4) _ ?_
    rw [len_of S2 M2]
    show Steps p.tables e below (T1.setTop (mkF m 5 #[.val (.ref a1), .val (.int p2), .unset, .unset, .unset] [(.int (16 : Int32))])) _
    refine XS.iconst X1.here hx rfl (hb hby d1004_5) ?_
    show Steps p.tables e below (T1.setTop (mkF m 6 #[.val (.ref a1), .val (.int p2), .unset, .unset, .unset] [(.int (1 : Int32)), (.int (16 : Int32))])) _
    refine XS.isub X1.here hx rfl (hb hby d1004_6) rfl ?_
    show Steps p.tables e below (T1.setTop (mkF m 7 #[.val (.ref a1), .val (.int p2), .unset, .unset, .unset] [(.int (15 : Int32))])) _
    refine XS.istoreN X1.here hx rfl (hb hby d1004_7) rfl (l' := #[.val (.ref a1), .val (.int p2), .val (.int (15 : Int32)), .unset, .unset]) rfl ?_
    show Steps p.tables e below (T1.setTop (mkF m 8 #[.val (.ref a1), .val (.int p2), .val (.int (15 : Int32)), .unset, .unset] [])) _
    refine XS.iloadN X1.here hx rfl (hb hby d1004_8) rfl ?_
    show Steps p.tables e below (T1.setTop (mkF m 9 #[.val (.ref a1), .val (.int p2), .val (.int (15 : Int32)), .unset, .unset] [(.int p2)])) _
    refine X1.ldcInt hx hown (mvT hZ (hw _ (List.mem_of_getElem? (i := 24) rfl))) (g := (mkF m 9 #[.val (.ref a1), .val (.int p2), .val (.int (15 : Int32)), .unset, .unset] [(.int p2)])) rfl (hb hby d1004_9) _ ?_
    show Steps p.tables e below (T1.setTop (mkF m 11 #[.val (.ref a1), .val (.int p2), .val (.int (15 : Int32)), .unset, .unset] [(.int (-1640531527 : Int32)), (.int p2)])) _
    refine XS.imul X1.here hx rfl (hb hby d1004_11) rfl ?_
    show Steps p.tables e below (T1.setTop (mkF m 12 #[.val (.ref a1), .val (.int p2), .val (.int (15 : Int32)), .unset, .unset] [(.int (p2 * (-1640531527 : Int32)))])) _
    refine XS.istoreN X1.here hx rfl (hb hby d1004_12) rfl (l' := #[.val (.ref a1), .val (.int p2), .val (.int (15 : Int32)), .val (.int (p2 * (-1640531527 : Int32))), .unset]) rfl ?_
    show Steps p.tables e below (T1.setTop (mkF m 13 #[.val (.ref a1), .val (.int p2), .val (.int (15 : Int32)), .val (.int (p2 * (-1640531527 : Int32))), .unset] [])) _
    refine XS.iloadN X1.here hx rfl (hb hby d1004_13) rfl ?_
    show Steps p.tables e below (T1.setTop (mkF m 14 #[.val (.ref a1), .val (.int p2), .val (.int (15 : Int32)), .val (.int (p2 * (-1640531527 : Int32))), .unset] [(.int (p2 * (-1640531527 : Int32)))])) _
    refine XS.iloadN X1.here hx rfl (hb hby d1004_14) rfl ?_
    show Steps p.tables e below (T1.setTop (mkF m 15 #[.val (.ref a1), .val (.int p2), .val (.int (15 : Int32)), .val (.int (p2 * (-1640531527 : Int32))), .unset] [(.int (p2 * (-1640531527 : Int32))), (.int (p2 * (-1640531527 : Int32)))])) _
    refine XS.bipush X1.here hx rfl (hb hby d1004_15) ?_
    show Steps p.tables e below (T1.setTop (mkF m 17 #[.val (.ref a1), .val (.int p2), .val (.int (15 : Int32)), .val (.int (p2 * (-1640531527 : Int32))), .unset] [(.int (16 : Int32)), (.int (p2 * (-1640531527 : Int32))), (.int (p2 * (-1640531527 : Int32)))])) _
    refine XS.iushr X1.here hx rfl (hb hby d1004_17) rfl ?_
    show Steps p.tables e below (T1.setTop (mkF m 18 #[.val (.ref a1), .val (.int p2), .val (.int (15 : Int32)), .val (.int (p2 * (-1640531527 : Int32))), .unset] [(.int (((p2 * (-1640531527 : Int32)).toUInt32 >>> ((16 : Int32) &&& 31).toUInt32).toInt32)), (.int (p2 * (-1640531527 : Int32)))])) _
    refine XS.ixor X1.here hx rfl (hb hby d1004_18) rfl ?_
    show Steps p.tables e below (T1.setTop (mkF m 19 #[.val (.ref a1), .val (.int p2), .val (.int (15 : Int32)), .val (.int (p2 * (-1640531527 : Int32))), .unset] [(.int ((p2 * (-1640531527 : Int32)) ^^^ (((p2 * (-1640531527 : Int32)).toUInt32 >>> ((16 : Int32) &&& 31).toUInt32).toInt32)))])) _
    refine XS.iloadN X1.here hx rfl (hb hby d1004_19) rfl ?_
    show Steps p.tables e below (T1.setTop (mkF m 20 #[.val (.ref a1), .val (.int p2), .val (.int (15 : Int32)), .val (.int (p2 * (-1640531527 : Int32))), .unset] [(.int (15 : Int32)), (.int ((p2 * (-1640531527 : Int32)) ^^^ (((p2 * (-1640531527 : Int32)).toUInt32 >>> ((16 : Int32) &&& 31).toUInt32).toInt32)))])) _
    refine XS.iand X1.here hx rfl (hb hby d1004_20) rfl ?_
    show Steps p.tables e below (T1.setTop (mkF m 21 #[.val (.ref a1), .val (.int p2), .val (.int (15 : Int32)), .val (.int (p2 * (-1640531527 : Int32))), .unset] [(.int (((p2 * (-1640531527 : Int32)) ^^^ (((p2 * (-1640531527 : Int32)).toUInt32 >>> ((16 : Int32) &&& 31).toUInt32).toInt32)) &&& (15 : Int32)))])) _
    refine XS.istore X1.here hx rfl (hb hby d1004_21) rfl (l' := #[.val (.ref a1), .val (.int p2), .val (.int (15 : Int32)), .val (.int (p2 * (-1640531527 : Int32))), .val (.int (((p2 * (-1640531527 : Int32)) ^^^ (((p2 * (-1640531527 : Int32)).toUInt32 >>> ((16 : Int32) &&& 31).toUInt32).toInt32)) &&& (15 : Int32)))]) rfl ?_
    exact kt
  have hst : (((p2 * (-1640531527 : Int32)) ^^^ (((p2 * (-1640531527 : Int32)).toUInt32 >>> ((16 : Int32) &&& 31).toUInt32).toInt32)) &&& (15 : Int32)) = Int32.ofNat (own_H 16 p2) := (own_H16 p2).2
  rw [hst] at pre3
  have loop : ∀ (f i : Nat), i < 16 → (∃ d, d < f ∧ L_c1.getD ((i + d) % 16) 0 = 0) → ∀ (Tq : State) (Lq : List Loc), Stand p l e ({ frames := 0, cells := 0, slots := 0, locals := 0 } : Room) s m #[(.ref a1), (.int p2)] below meth c Tq Lq 0 0 → Tq.heap = h0 → Fr n0 Lq → ∃ (T' : State) (L' : List Loc), Stand p l e ({ frames := 0, cells := 0, slots := 0, locals := 0 } : Room) s m #[(.ref a1), (.int p2)] below meth c T' L' 0 0 ∧ T'.heap = h0 ∧ Fr n0 L' ∧ ∀ t, Steps p.tables e below (T'.setTop (mkF m 57 #[.val (.ref a1), .val (.int p2), .val (.int (15 : Int32)), .val (.int (p2 * (-1640531527 : Int32))), .val (.int (Int32.ofNat (own_pr L_c1 p2 i f)))] [])) t → Steps p.tables e below (Tq.setTop (mkF m 23 #[.val (.ref a1), .val (.int p2), .val (.int (15 : Int32)), .val (.int (p2 * (-1640531527 : Int32))), .val (.int (Int32.ofNat i))] [])) t := by
    intro f
    induction f with
    | zero => rintro i hi ⟨d, hd, -⟩; omega
    | succ f ih =>
      rintro i hi ⟨d, hd, hzd⟩ Tq Lq Xq eq Nq
      have idq : ∀ t, Steps p.tables e below (Tq.setTop (mkF m 23 #[.val (.ref a1), .val (.int p2), .val (.int (15 : Int32)), .val (.int (p2 * (-1640531527 : Int32))), .val (.int (Int32.ofNat i))] [])) t → Steps p.tables e below (Tq.setTop (mkF m 23 #[.val (.ref a1), .val (.int p2), .val (.int (15 : Int32)), .val (.int (p2 * (-1640531527 : Int32))), .val (.int (Int32.ofNat i))] [])) t := fun t k => k
      obtain ⟨T4, X4, e4, st4⟩ := getF Xq hx hZ hown (host := "") (Or.inl (hw _ (List.mem_of_getElem? (i := 11) rfl))) Via.refl eq F_slots_a1 (g := (mkF m 24 #[.val (.ref a1), .val (.int p2), .val (.int (15 : Int32)), .val (.int (p2 * (-1640531527 : Int32))), .val (.int (Int32.ofNat i))] [(.ref a1)])) rfl rfl (hb hby d1004_24)
      obtain ⟨cl5, Ar5, aq5, S5, M5, H5, G5⟩ := id V_c1
      have hin5 : ¬ ((Int32.ofNat i) < 0 ∨ cl5.slots.size ≤ ((Int32.ofNat i)).toNatClampNeg) := inb_of S5 (side_1004_29_5 p2 L_c1 hl_c1 hz i hi)
      have hat5 : cl5.slots[((Int32.ofNat i)).toNatClampNeg]? = some (.int (own_at L_c1 (Int32.ofNat i))) := Has.at H5 hin5 (own_getD L_c1 ((Int32.ofNat i)).toNatClampNeg)
      have pre6 : ∀ t, Steps p.tables e below (T4.setTop (mkF m 30 #[.val (.ref a1), .val (.int p2), .val (.int (15 : Int32)), .val (.int (p2 * (-1640531527 : Int32))), .val (.int (Int32.ofNat i))] [(.int (own_at L_c1 (Int32.ofNat i)))])) t → Steps p.tables e below (Tq.setTop (mkF m 23 #[.val (.ref a1), .val (.int p2), .val (.int (15 : Int32)), .val (.int (p2 * (-1640531527 : Int32))), .val (.int (Int32.ofNat i))] [])) t := fun t kt => by
        refine idq t ?_
        show Steps p.tables e below (Tq.setTop (mkF m 23 #[.val (.ref a1), .val (.int p2), .val (.int (15 : Int32)), .val (.int (p2 * (-1640531527 : Int32))), .val (.int (Int32.ofNat i))] [])) _
        refine XS.aloadN Xq.here hx rfl (hb hby d1004_23) rfl rfl ?_
        show Steps p.tables e below (Tq.setTop (mkF m 24 #[.val (.ref a1), .val (.int p2), .val (.int (15 : Int32)), .val (.int (p2 * (-1640531527 : Int32))), .val (.int (Int32.ofNat i))] [(.ref a1)])) _
        refine st4 _ ?_
        show Steps p.tables e below (T4.setTop (mkF m 27 #[.val (.ref a1), .val (.int p2), .val (.int (15 : Int32)), .val (.int (p2 * (-1640531527 : Int32))), .val (.int (Int32.ofNat i))] [(.ref c1)])) _
        refine XS.iload X4.here hx rfl (hb hby d1004_27) rfl ?_
        show Steps p.tables e below (T4.setTop (mkF m 29 #[.val (.ref a1), .val (.int p2), .val (.int (15 : Int32)), .val (.int (p2 * (-1640531527 : Int32))), .val (.int (Int32.ofNat i))] [(.int (Int32.ofNat i)), (.ref c1)])) _
        refine X4.iaload hx (j := (Int32.ofNat i)) (v := (.int (own_at L_c1 (Int32.ofNat i)))) (by rw [e4]; exact Ar5.1) (State.isArrayOf_alike hZ.alike Ar5.2.1) Ar5.2.2 hin5 hat5 (g := (mkF m 29 #[.val (.ref a1), .val (.int p2), .val (.int (15 : Int32)), .val (.int (p2 * (-1640531527 : Int32))), .val (.int (Int32.ofNat i))] [(.int (Int32.ofNat i)), (.ref c1)])) rfl rfl (hb hby d1004_29) _ ?_
        exact kt
      by_cases hc7 : (own_at L_c1 (Int32.ofNat i)) = (0 : Int32)
      · have hat0 := own_atn L_c1 i (by omega)
        refine ⟨_, _, X4, e4, Nq, fun t kt => pre6 t ?_⟩
        rw [own_pr, if_pos (Or.inl (hat0 ▸ hc7))] at kt
        show Steps p.tables e below (T4.setTop (mkF m 30 #[.val (.ref a1), .val (.int p2), .val (.int (15 : Int32)), .val (.int (p2 * (-1640531527 : Int32))), .val (.int (Int32.ofNat i))] [(.int (own_at L_c1 (Int32.ofNat i)))])) _
        refine XS.ifYes X4.here hx rfl (pc0 := 30) (pc' := 57) rfl (hb hby d1004_30) rfl ((if0 _ _).trans (teq hc7).1) (by decide) (by decide) ?_
        exact kt
      · obtain ⟨T8, X8, e8, st8⟩ := getF X4 hx hZ hown (host := "") (Or.inl (hw _ (List.mem_of_getElem? (i := 11) rfl))) Via.refl e4 F_slots_a1 (g := (mkF m 34 #[.val (.ref a1), .val (.int p2), .val (.int (15 : Int32)), .val (.int (p2 * (-1640531527 : Int32))), .val (.int (Int32.ofNat i))] [(.ref a1)])) rfl rfl (hb hby d1004_34)
        obtain ⟨cl9, Ar9, aq9, S9, M9, H9, G9⟩ := id V_c1
        have hin9 : ¬ ((Int32.ofNat i) < 0 ∨ cl9.slots.size ≤ ((Int32.ofNat i)).toNatClampNeg) := inb_of S9 (side_1004_39_9 p2 L_c1 hl_c1 hz i hi hc7)
        have hat9 : cl9.slots[((Int32.ofNat i)).toNatClampNeg]? = some (.int (own_at L_c1 (Int32.ofNat i))) := Has.at H9 hin9 (own_getD L_c1 ((Int32.ofNat i)).toNatClampNeg)
        have pre10 : ∀ t, Steps p.tables e below (T8.setTop (mkF m 43 #[.val (.ref a1), .val (.int p2), .val (.int (15 : Int32)), .val (.int (p2 * (-1640531527 : Int32))), .val (.int (Int32.ofNat i))] [(.int (p2 + (1 : Int32))), (.int (own_at L_c1 (Int32.ofNat i)))])) t → Steps p.tables e below (Tq.setTop (mkF m 23 #[.val (.ref a1), .val (.int p2), .val (.int (15 : Int32)), .val (.int (p2 * (-1640531527 : Int32))), .val (.int (Int32.ofNat i))] [])) t := fun t kt => by
          refine pre6 t ?_
          show Steps p.tables e below (T4.setTop (mkF m 30 #[.val (.ref a1), .val (.int p2), .val (.int (15 : Int32)), .val (.int (p2 * (-1640531527 : Int32))), .val (.int (Int32.ofNat i))] [(.int (own_at L_c1 (Int32.ofNat i)))])) _
          refine XS.ifNo X4.here hx rfl (hb hby d1004_30) rfl ((if0 _ _).trans (feq hc7).1) ?_
          show Steps p.tables e below (T4.setTop (mkF m 33 #[.val (.ref a1), .val (.int p2), .val (.int (15 : Int32)), .val (.int (p2 * (-1640531527 : Int32))), .val (.int (Int32.ofNat i))] [])) _
          refine XS.aloadN X4.here hx rfl (hb hby d1004_33) rfl rfl ?_
          show Steps p.tables e below (T4.setTop (mkF m 34 #[.val (.ref a1), .val (.int p2), .val (.int (15 : Int32)), .val (.int (p2 * (-1640531527 : Int32))), .val (.int (Int32.ofNat i))] [(.ref a1)])) _
          refine st8 _ ?_
          show Steps p.tables e below (T8.setTop (mkF m 37 #[.val (.ref a1), .val (.int p2), .val (.int (15 : Int32)), .val (.int (p2 * (-1640531527 : Int32))), .val (.int (Int32.ofNat i))] [(.ref c1)])) _
          refine XS.iload X8.here hx rfl (hb hby d1004_37) rfl ?_
          show Steps p.tables e below (T8.setTop (mkF m 39 #[.val (.ref a1), .val (.int p2), .val (.int (15 : Int32)), .val (.int (p2 * (-1640531527 : Int32))), .val (.int (Int32.ofNat i))] [(.int (Int32.ofNat i)), (.ref c1)])) _
          refine X8.iaload hx (j := (Int32.ofNat i)) (v := (.int (own_at L_c1 (Int32.ofNat i)))) (by rw [e8]; exact Ar9.1) (State.isArrayOf_alike hZ.alike Ar9.2.1) Ar9.2.2 hin9 hat9 (g := (mkF m 39 #[.val (.ref a1), .val (.int p2), .val (.int (15 : Int32)), .val (.int (p2 * (-1640531527 : Int32))), .val (.int (Int32.ofNat i))] [(.int (Int32.ofNat i)), (.ref c1)])) rfl rfl (hb hby d1004_39) _ ?_
          show Steps p.tables e below (T8.setTop (mkF m 40 #[.val (.ref a1), .val (.int p2), .val (.int (15 : Int32)), .val (.int (p2 * (-1640531527 : Int32))), .val (.int (Int32.ofNat i))] [(.int (own_at L_c1 (Int32.ofNat i)))])) _
          refine XS.iloadN X8.here hx rfl (hb hby d1004_40) rfl ?_
          show Steps p.tables e below (T8.setTop (mkF m 41 #[.val (.ref a1), .val (.int p2), .val (.int (15 : Int32)), .val (.int (p2 * (-1640531527 : Int32))), .val (.int (Int32.ofNat i))] [(.int p2), (.int (own_at L_c1 (Int32.ofNat i)))])) _
          refine XS.iconst X8.here hx rfl (hb hby d1004_41) ?_
          show Steps p.tables e below (T8.setTop (mkF m 42 #[.val (.ref a1), .val (.int p2), .val (.int (15 : Int32)), .val (.int (p2 * (-1640531527 : Int32))), .val (.int (Int32.ofNat i))] [(.int (1 : Int32)), (.int p2), (.int (own_at L_c1 (Int32.ofNat i)))])) _
          refine XS.iadd X8.here hx rfl (hb hby d1004_42) rfl ?_
          exact kt
        by_cases hc11 : (own_at L_c1 (Int32.ofNat i)) = (p2 + (1 : Int32))
        · have hat0 := own_atn L_c1 i (by omega)
          refine ⟨_, _, X8, e8, Nq, fun t kt => pre10 t ?_⟩
          rw [own_pr, if_pos (Or.inr (hat0 ▸ hc11))] at kt
          show Steps p.tables e below (T8.setTop (mkF m 43 #[.val (.ref a1), .val (.int p2), .val (.int (15 : Int32)), .val (.int (p2 * (-1640531527 : Int32))), .val (.int (Int32.ofNat i))] [(.int (p2 + (1 : Int32))), (.int (own_at L_c1 (Int32.ofNat i)))])) _
          refine XS.icmpYes X8.here hx rfl (pc0 := 43) (pc' := 57) rfl (hb hby d1004_43) rfl (teq hc11).1 (by decide) (by decide) ?_
          exact kt
        · have hat0 := own_atn L_c1 i (by omega)
          have hno : ¬ (L_c1.getD i 0 = 0 ∨ L_c1.getD i 0 = p2 + 1) := fun w => w.elim (fun w => hc7 (hat0.trans w)) (fun w => hc11 (hat0.trans w))
          have hd0 : d ≠ 0 := by rintro rfl; rw [Nat.add_zero, Nat.mod_eq_of_lt hi] at hzd; exact hno (Or.inl hzd)
          obtain ⟨T2, L2, X2, e2, N2, st2⟩ := ih ((i + 1) % 16) (Nat.mod_lt _ (by decide)) ⟨d - 1, by omega, by rw [own_mod, show d - 1 + 1 = d by omega]; exact hzd⟩ _ _ X8 e8 Nq
          refine ⟨T2, L2, X2, e2, N2, fun t kt => pre10 t ?_⟩
          rw [own_pr, if_neg hno, hl_c1] at kt
          show Steps p.tables e below (T8.setTop (mkF m 43 #[.val (.ref a1), .val (.int p2), .val (.int (15 : Int32)), .val (.int (p2 * (-1640531527 : Int32))), .val (.int (Int32.ofNat i))] [(.int (p2 + (1 : Int32))), (.int (own_at L_c1 (Int32.ofNat i)))])) _
          refine XS.icmpNo X8.here hx rfl (hb hby d1004_43) rfl (feq hc11).1 ?_
          show Steps p.tables e below (T8.setTop (mkF m 46 #[.val (.ref a1), .val (.int p2), .val (.int (15 : Int32)), .val (.int (p2 * (-1640531527 : Int32))), .val (.int (Int32.ofNat i))] [])) _
          refine XS.iload X8.here hx rfl (hb hby d1004_46) rfl ?_
          show Steps p.tables e below (T8.setTop (mkF m 48 #[.val (.ref a1), .val (.int p2), .val (.int (15 : Int32)), .val (.int (p2 * (-1640531527 : Int32))), .val (.int (Int32.ofNat i))] [(.int (Int32.ofNat i))])) _
          refine XS.iconst X8.here hx rfl (hb hby d1004_48) ?_
          show Steps p.tables e below (T8.setTop (mkF m 49 #[.val (.ref a1), .val (.int p2), .val (.int (15 : Int32)), .val (.int (p2 * (-1640531527 : Int32))), .val (.int (Int32.ofNat i))] [(.int (1 : Int32)), (.int (Int32.ofNat i))])) _
          refine XS.iadd X8.here hx rfl (hb hby d1004_49) rfl ?_
          show Steps p.tables e below (T8.setTop (mkF m 50 #[.val (.ref a1), .val (.int p2), .val (.int (15 : Int32)), .val (.int (p2 * (-1640531527 : Int32))), .val (.int (Int32.ofNat i))] [(.int ((Int32.ofNat i) + (1 : Int32)))])) _
          refine XS.iloadN X8.here hx rfl (hb hby d1004_50) rfl ?_
          show Steps p.tables e below (T8.setTop (mkF m 51 #[.val (.ref a1), .val (.int p2), .val (.int (15 : Int32)), .val (.int (p2 * (-1640531527 : Int32))), .val (.int (Int32.ofNat i))] [(.int (15 : Int32)), (.int ((Int32.ofNat i) + (1 : Int32)))])) _
          refine XS.iand X8.here hx rfl (hb hby d1004_51) rfl ?_
          show Steps p.tables e below (T8.setTop (mkF m 52 #[.val (.ref a1), .val (.int p2), .val (.int (15 : Int32)), .val (.int (p2 * (-1640531527 : Int32))), .val (.int (Int32.ofNat i))] [(.int (((Int32.ofNat i) + (1 : Int32)) &&& (15 : Int32)))])) _
          refine XS.istore X8.here hx rfl (hb hby d1004_52) rfl (l' := #[.val (.ref a1), .val (.int p2), .val (.int (15 : Int32)), .val (.int (p2 * (-1640531527 : Int32))), .val (.int (((Int32.ofNat i) + (1 : Int32)) &&& (15 : Int32)))]) rfl ?_
          show Steps p.tables e below (T8.setTop (mkF m 54 #[.val (.ref a1), .val (.int p2), .val (.int (15 : Int32)), .val (.int (p2 * (-1640531527 : Int32))), .val (.int (((Int32.ofNat i) + (1 : Int32)) &&& (15 : Int32)))] [])) _
          refine XS.goto X8.here hx rfl (pc0 := 54) (pc' := 23) rfl (hb hby d1004_54) (by decide) (by decide) ?_
          show Steps p.tables e below (T8.setTop (mkF m 23 #[.val (.ref a1), .val (.int p2), .val (.int (15 : Int32)), .val (.int (p2 * (-1640531527 : Int32))), .val (.int (((Int32.ofNat i) + (1 : Int32)) &&& (15 : Int32)))] [])) _
          rw [own_next16 i hi]
          exact st2 t kt
  obtain ⟨T12, Lc12, X12, e12, N12, st12⟩ := loop 16 (own_H 16 p2) (own_H16 p2).1 hz _ _ X1 e1 N0
  obtain ⟨fs, hr, hrun, hended, hW, hsame⟩ := X12.leave (v := some (.int (Int32.ofNat (own_pr L_c1 p2 (own_H 16 p2) 16)))) (fun h => by rw [Bd.returns] at h; cases h)
  refine ⟨_, _, pre3 _ ?_, hrun, hended, _, _, rfl, ?_, ⟨_, rfl⟩, hW, hsame.mono (by decide) (by decide)⟩
  · show Steps p.tables e below (T1.setTop (mkF m 23 #[.val (.ref a1), .val (.int p2), .val (.int (15 : Int32)), .val (.int (p2 * (-1640531527 : Int32))), .val (.int (Int32.ofNat (own_H 16 p2)))] [])) _
    refine st12 _ ?_
    show Steps p.tables e below (T12.setTop (mkF m 57 #[.val (.ref a1), .val (.int p2), .val (.int (15 : Int32)), .val (.int (p2 * (-1640531527 : Int32))), .val (.int (Int32.ofNat (own_pr L_c1 p2 (own_H 16 p2) 16)))] [])) _
    refine XS.iload X12.here hx rfl (hb hby d1004_57) rfl ?_
    show Steps p.tables e below (T12.setTop (mkF m 59 #[.val (.ref a1), .val (.int p2), .val (.int (15 : Int32)), .val (.int (p2 * (-1640531527 : Int32))), .val (.int (Int32.ofNat (own_pr L_c1 p2 (own_H 16 p2) 16)))] [(.int (Int32.ofNat (own_pr L_c1 p2 (own_H 16 p2) 16)))])) _
    exact retI X12 hx Bd.returns (hb hby d1004_59) hr
  · show Q1004 Z a1 p2 c1 k_c1 L_c1 h0 n0 _ T12.heap _
    rw [e12]
    refine ⟨?_, N12, rfl⟩
    show (some (.int (Int32.ofNat (own_pr L_c1 p2 (own_H 16 p2) 16))) : Option Value) = some (.int (F1004 p2 L_c1))
    rw [F1004]

theorem own_bd_8 (p : Int32) (L : List Int32) (hl : L.length = 8) : ¬ (F4 p L < 0) ∧ F4 p L < (8 : Int32) := by
  have h := own_pr_lt L p 8 (own_H 8 p) (by rw [hl]; exact (own_H8 p).1)
  rw [hl] at h
  exact own_nb 8 (by decide) _ h
theorem own_cl_8 (p : Int32) (L : List Int32) (hl : L.length = 8) : (F4 p L).toNatClampNeg = own_pr L p (own_H 8 p) L.length := by
  have h := own_pr_lt L p 8 (own_H 8 p) (by rw [hl]; exact (own_H8 p).1)
  rw [hl] at h
  have e : F4 p L = Int32.ofNat (own_pr L p (own_H 8 p) 8) := rfl
  rw [e, hl]
  simp only [Int32.toNatClampNeg]; rw [Int32.toInt_ofNat_of_lt (by omega)]; rfl
theorem own_free_8 {L xs : List Int32} (hl : L.length = 8) (I : own_Inv (own_H 8) L xs) (hlen : xs.length < 8) (p : Int32) : own_Free 8 L p := by
  have := own_free I (by rw [hl]; exact hlen) (own_H 8 p) (by rw [hl]; exact (own_H8 p).1)
  rw [hl] at this; exact this
theorem own_found_8 {L xs : List Int32} (hl : L.length = 8) (I : own_Inv (own_H 8) L xs) (nn : own_nn xs) (hlen : xs.length < 8) (p : Int32) (hx : ¬ p + 1 = 0) :
    (own_at L (F4 p L) = 0 → ¬ p ∈ xs) ∧ (¬ own_at L (F4 p L) = 0 → p ∈ xs) := by
  have f := own_find I nn (by rw [hl]; exact hlen) p hx (by rw [hl]; exact (own_H8 p).1)
  rw [own_at, own_cl_8 p L hl]
  exact ⟨fun e hm => f.1 hm e, fun e => Classical.byContradiction fun hm => e (f.2 hm)⟩
theorem own_put_8 {L xs : List Int32} (hl : L.length = 8) (I : own_Inv (own_H 8) L xs) (nn : own_nn xs) (hlen : xs.length < 8) (p : Int32) (hx : ¬ p + 1 = 0) (hm : ¬ p ∈ xs) :
    own_Inv (own_H 8) (L.set (F4 p L).toNatClampNeg (p + 1)) (xs ++ [p]) := by
  rw [own_cl_8 p L hl]
  exact own_lay I nn (by rw [hl]; exact hlen) p hx (by rw [hl]; exact (own_H8 p).1) hm

theorem own_bd_16 (p : Int32) (L : List Int32) (hl : L.length = 16) : ¬ (F1004 p L < 0) ∧ F1004 p L < (16 : Int32) := by
  have h := own_pr_lt L p 16 (own_H 16 p) (by rw [hl]; exact (own_H16 p).1)
  rw [hl] at h
  exact own_nb 16 (by decide) _ h
theorem own_cl_16 (p : Int32) (L : List Int32) (hl : L.length = 16) : (F1004 p L).toNatClampNeg = own_pr L p (own_H 16 p) L.length := by
  have h := own_pr_lt L p 16 (own_H 16 p) (by rw [hl]; exact (own_H16 p).1)
  rw [hl] at h
  have e : F1004 p L = Int32.ofNat (own_pr L p (own_H 16 p) 16) := rfl
  rw [e, hl]
  simp only [Int32.toNatClampNeg]; rw [Int32.toInt_ofNat_of_lt (by omega)]; rfl
theorem own_free_16 {L xs : List Int32} (hl : L.length = 16) (I : own_Inv (own_H 16) L xs) (hlen : xs.length < 16) (p : Int32) : own_Free 16 L p := by
  have := own_free I (by rw [hl]; exact hlen) (own_H 16 p) (by rw [hl]; exact (own_H16 p).1)
  rw [hl] at this; exact this
theorem own_found_16 {L xs : List Int32} (hl : L.length = 16) (I : own_Inv (own_H 16) L xs) (nn : own_nn xs) (hlen : xs.length < 16) (p : Int32) (hx : ¬ p + 1 = 0) :
    (own_at L (F1004 p L) = 0 → ¬ p ∈ xs) ∧ (¬ own_at L (F1004 p L) = 0 → p ∈ xs) := by
  have f := own_find I nn (by rw [hl]; exact hlen) p hx (by rw [hl]; exact (own_H16 p).1)
  rw [own_at, own_cl_16 p L hl]
  exact ⟨fun e hm => f.1 hm e, fun e => Classical.byContradiction fun hm => e (f.2 hm)⟩
theorem own_put_16 {L xs : List Int32} (hl : L.length = 16) (I : own_Inv (own_H 16) L xs) (nn : own_nn xs) (hlen : xs.length < 16) (p : Int32) (hx : ¬ p + 1 = 0) (hm : ¬ p ∈ xs) :
    own_Inv (own_H 16) (L.set (F1004 p L).toNatClampNeg (p + 1)) (xs ++ [p]) := by
  rw [own_cl_16 p L hl]
  exact own_lay I nn (by rw [hl]; exact hlen) p hx (by rw [hl]; exact (own_H16 p).1) hm

def own_ins (xs : List Int32) (x : Int32) : List Int32 := if x ∈ xs then xs else xs ++ [x]
theorem own_inslen {xs : List Int32} {x : Int32} {n : Nat} (h : xs.length ≤ n) : (own_ins xs x).length ≤ n + 1 := by
  unfold own_ins; split
  · omega
  · rw [List.length_append]; simp; exact h
theorem own_insmem {xs : List Int32} {x q : Int32} : q ∈ own_ins xs x ↔ q ∈ xs ∨ q = x := by
  unfold own_ins; split
  · constructor
    · exact Or.inl
    · rintro (h | rfl)
      · exact h
      · assumption
  · simp
theorem own_nnS {xs : List Int32} {x : Int32} (h : own_nn xs) (hx : ¬ x + 1 = 0) : own_nn (xs ++ [x]) := fun y hy => by
  rcases List.mem_append.mp hy with q | q
  · exact h y q
  · rw [List.mem_singleton.mp q]; exact hx
theorem own_ndS {xs : List Int32} {x : Int32} (h : xs.Nodup) (hm : ¬ x ∈ xs) : (xs ++ [x]).Nodup := by
  rw [List.nodup_append]
  exact ⟨h, by simp, fun a ha b hb => by rw [List.mem_singleton.mp hb]; exact fun e => hm (e ▸ ha)⟩
def own_AS (Z : State) (h : Heap) (n0 : Nat) (a : Addr) (xs : List Int32) : Prop :=
  ∃ (c1 c2 : Addr) (k1 k2 : ClassId) (L E : List Int32), Exa Z h a "com/example/krel/krel/saturation/AtomSet" ∧ Fld Z h a "com/example/krel/krel/saturation/AtomSet" "slots" "[I" (.ref c1) ∧ Fld Z h a "com/example/krel/krel/saturation/AtomSet" "atoms" "[I" (.ref c2) ∧ Fld Z h a "com/example/krel/krel/saturation/AtomSet" "size" "I" (.int (Int32.ofNat xs.length)) ∧
    n0 ≤ a ∧ n0 ≤ c1 ∧ n0 ≤ c2 ∧ a ≠ c1 ∧ a ≠ c2 ∧ c1 ≠ c2 ∧ own_nn xs ∧ xs.Nodup ∧
    ((xs.length ≤ 4 ∧ L.length = 8 ∧ Arv Z h c1 k1 .int (8 : Int32) (L.map Value.int) (.int (0 : Int32)) ∧ own_Inv (own_H 8) L xs ∧ E.length = 4 ∧ Arv Z h c2 k2 .int (4 : Int32) (E.map Value.int) (.int (0 : Int32)) ∧ E.take xs.length = xs) ∨
     (xs.length = 5 ∧ L.length = 16 ∧ Arv Z h c1 k1 .int (16 : Int32) (L.map Value.int) (.int (0 : Int32)) ∧ own_Inv (own_H 16) L xs))
theorem own_ASexa {Z : State} {h : Heap} {n0 : Nat} {a : Addr} {xs : List Int32} (A : own_AS Z h n0 a xs) : Exa Z h a "com/example/krel/krel/saturation/AtomSet" := by
  obtain ⟨_, _, _, _, _, _, E, -⟩ := A; exact E

theorem d7_0 : decode jdk_29_method_69_code 0 = .ok (.iload_n 0, 1) := by decide +kernel
theorem d7_1 : decode jdk_29_method_69_code 1 = .ok (.iload_n 1, 1) := by decide +kernel
theorem d7_2 : decode jdk_29_method_69_code 2 = .ok (.if_icmp .gt 7, 3) := by decide +kernel
theorem d7_5 : decode jdk_29_method_69_code 5 = .ok (.iload_n 0, 1) := by decide +kernel
theorem d7_6 : decode jdk_29_method_69_code 6 = .ok (.goto 4, 3) := by decide +kernel
theorem d7_9 : decode jdk_29_method_69_code 9 = .ok (.iload_n 1, 1) := by decide +kernel
theorem d7_10 : decode jdk_29_method_69_code 10 = .ok (.ireturn, 1) := by decide +kernel
theorem ef_7 (m : MethodId) (p1 : Int32) (p2 : Int32) : entryFrame m #[(.int p1), (.int p2)] 2 = mkF m 0 #[.val (.int p1), .val (.int p2)] [] := by first | (simp [entryFrame, mkF, argsToLocals, Value.category]; done) | rfl

def F7 (p1 : Int32) (p2 : Int32) : Int32 := (if p2 < p1 then p2 else p1)
def Q7 (Z : State) (p1 : Int32) (p2 : Int32) (h0 : Heap) (n0 : Nat) (v : Option Value) (h : Heap) (L : List Loc) : Prop := v = some (.int (F7 p1 p2)) ∧ Fr n0 L ∧ h = h0
set_option maxRecDepth 65536 in
set_option maxHeartbeats 40000000 in
theorem rm7 (l : Launch) (Z : State) (a0 : Array Value) (hw : ∀ d ∈ tables_1, d.before a0 Z = true) (ws : List Jvm.Cond) (p1 : Int32) (p2 : Int32) (h0 : Heap) (n0 : Nat) (Z0 : n0 ≤ h0.size) :
    MetFree l (⟨"java/lang/Math", "min", "(II)I"⟩ : MethodName) (head1 (Jvm.Cond.code (⟨"java/lang/Math", "min", "(II)I"⟩ : MethodName) jdk_29_method_69_code 2 (some .int) :: ws) ({ frames := 0, cells := 0, slots := 0, locals := 0 } : Room)) (fun a U => a = #[(.int p1), (.int p2)] ∧ Z.Warmed39 U.vm ∧ U.heap = h0) (fun _ _ _ _ _ => True) (fun _ U o U' => ∃ v L, o = .returned v ∧ Q7 Z p1 p2 h0 n0 v U'.heap L ∧ FrameEnd U o U' L ({ frames := 0, cells := 0, slots := 0, locals := 0 } : Room).cells ({ frames := 0, cells := 0, slots := 0, locals := 0 } : Room).slots) := by
  refine MetFree.of_bodySF (Jvm.Free.JP.mathPlain rfl (by decide +kernel)) hisR ?_
  intro p e s m args below meth c s₁ Bd hml0 hP hK
  obtain ⟨rfl, hZ, hh⟩ := hP
  skip
  skip
  skip
  skip
  skip
  skip
  have hx := Bd.exec
  have hby := Bd.bytes
  have hml : c.maxLocals = 2 := hml0
  have hown : s.vm.findClass "java/lang/Math" = some m.cls := findClass_of_methodNamed Bd.named
  have hnm := (name_of_methodNamed Bd.named Bd.method).1
  have X0 : Stand p l e ({ frames := 0, cells := 0, slots := 0, locals := 0 } : Room) s m #[(.int p1), (.int p2)] below meth c s₁ [] 0 0 := Stand.of_body Bd
  have e0 : s₁.heap = h0 := by rw [← hh, Bd.state]; rfl
  have N0 := Fr.nil n0
  have pre0 : ∀ t, Steps p.tables e below (s₁.setTop (mkF m 0 #[.val (.int p1), .val (.int p2)] [])) t → Steps p.tables e below (s₁.setTop (entryFrame m #[(.int p1), (.int p2)] 2)) t := fun t k => castTop (ef_7 m p1 p2) k
  have pre1 : ∀ t, Steps p.tables e below (s₁.setTop (mkF m 2 #[.val (.int p1), .val (.int p2)] [(.int p2), (.int p1)])) t → Steps p.tables e below (s₁.setTop (entryFrame m #[(.int p1), (.int p2)] 2)) t := fun t kt => by
    refine pre0 t ?_
    show Steps p.tables e below (s₁.setTop (mkF m 0 #[.val (.int p1), .val (.int p2)] [])) _
    refine XS.iloadN X0.here hx rfl (hb hby d7_0) rfl ?_
    show Steps p.tables e below (s₁.setTop (mkF m 1 #[.val (.int p1), .val (.int p2)] [(.int p1)])) _
    refine XS.iloadN X0.here hx rfl (hb hby d7_1) rfl ?_
    exact kt
  by_cases hc2 : p2 < p1
  · obtain ⟨fs, hr, hrun, hended, hW, hsame⟩ := X0.leave (v := some (.int p2)) (fun h => by rw [Bd.returns] at h; cases h)
    refine ⟨_, _, pre1 _ ?_, hrun, hended, _, _, rfl, ?_, ⟨_, rfl⟩, hW, hsame.mono (by decide) (by decide)⟩
    · show Steps p.tables e below (s₁.setTop (mkF m 2 #[.val (.int p1), .val (.int p2)] [(.int p2), (.int p1)])) _
      refine XS.icmpYes X0.here hx rfl (pc0 := 2) (pc' := 9) rfl (hb hby d7_2) rfl (tlt hc2).2.2.1 (by decide) (by decide) ?_
      show Steps p.tables e below (s₁.setTop (mkF m 9 #[.val (.int p1), .val (.int p2)] [])) _
      refine XS.iloadN X0.here hx rfl (hb hby d7_9) rfl ?_
      show Steps p.tables e below (s₁.setTop (mkF m 10 #[.val (.int p1), .val (.int p2)] [(.int p2)])) _
      exact retI X0 hx Bd.returns (hb hby d7_10) hr
    · show Q7 Z p1 p2 h0 n0 _ s₁.heap _
      rw [e0]
      refine ⟨?_, N0, rfl⟩
      show (some (.int p2) : Option Value) = some (.int (F7 p1 p2))
      rw [F7, if_pos hc2]
  · obtain ⟨fs, hr, hrun, hended, hW, hsame⟩ := X0.leave (v := some (.int p1)) (fun h => by rw [Bd.returns] at h; cases h)
    refine ⟨_, _, pre1 _ ?_, hrun, hended, _, _, rfl, ?_, ⟨_, rfl⟩, hW, hsame.mono (by decide) (by decide)⟩
    · show Steps p.tables e below (s₁.setTop (mkF m 2 #[.val (.int p1), .val (.int p2)] [(.int p2), (.int p1)])) _
      refine XS.icmpNo X0.here hx rfl (hb hby d7_2) rfl (flt hc2).2.2.1 ?_
      show Steps p.tables e below (s₁.setTop (mkF m 5 #[.val (.int p1), .val (.int p2)] [])) _
      refine XS.iloadN X0.here hx rfl (hb hby d7_5) rfl ?_
      show Steps p.tables e below (s₁.setTop (mkF m 6 #[.val (.int p1), .val (.int p2)] [(.int p1)])) _
      refine XS.goto X0.here hx rfl (pc0 := 6) (pc' := 10) rfl (hb hby d7_6) (by decide) (by decide) ?_
      show Steps p.tables e below (s₁.setTop (mkF m 10 #[.val (.int p1), .val (.int p2)] [(.int p1)])) _
      exact retI X0 hx Bd.returns (hb hby d7_10) hr
    · show Q7 Z p1 p2 h0 n0 _ s₁.heap _
      rw [e0]
      refine ⟨?_, N0, rfl⟩
      show (some (.int p1) : Option Value) = some (.int (F7 p1 p2))
      rw [F7, if_neg hc2]
theorem d6_0 : decode jdk_65_method_123_code 0 = .ok (.iload_n 1, 1) := by decide +kernel
theorem d6_1 : decode jdk_65_method_123_code 1 = .ok (.aload_n 0, 1) := by decide +kernel
theorem d6_2 : decode jdk_65_method_123_code 2 = .ok (.arraylength, 1) := by decide +kernel
theorem d6_3 : decode jdk_65_method_123_code 3 = .ok (.if_icmp .ne 11, 3) := by decide +kernel
theorem d6_14 : decode jdk_65_method_123_code 14 = .ok (.iload_n 1, 1) := by decide +kernel
theorem d6_15 : decode jdk_65_method_123_code 15 = .ok (.newarray .int, 2) := by decide +kernel
theorem d6_17 : decode jdk_65_method_123_code 17 = .ok (.astore_n 2, 1) := by decide +kernel
theorem d6_18 : decode jdk_65_method_123_code 18 = .ok (.aload_n 0, 1) := by decide +kernel
theorem d6_19 : decode jdk_65_method_123_code 19 = .ok (.iconst 0, 1) := by decide +kernel
theorem d6_20 : decode jdk_65_method_123_code 20 = .ok (.aload_n 2, 1) := by decide +kernel
theorem d6_21 : decode jdk_65_method_123_code 21 = .ok (.iconst 0, 1) := by decide +kernel
theorem d6_22 : decode jdk_65_method_123_code 22 = .ok (.aload_n 0, 1) := by decide +kernel
theorem d6_23 : decode jdk_65_method_123_code 23 = .ok (.arraylength, 1) := by decide +kernel
theorem d6_24 : decode jdk_65_method_123_code 24 = .ok (.iload_n 1, 1) := by decide +kernel
theorem d6_25 : decode jdk_65_method_123_code 25 = .ok (.invokestatic 304, 3) := by decide +kernel
theorem d6_28 : decode jdk_65_method_123_code 28 = .ok (.invokestatic 150, 3) := by decide +kernel
theorem d6_31 : decode jdk_65_method_123_code 31 = .ok (.aload_n 2, 1) := by decide +kernel
theorem d6_32 : decode jdk_65_method_123_code 32 = .ok (.areturn, 1) := by decide +kernel
theorem pn_6 : plainName "java/util/Arrays" = true := by first | (simp [plainName, overriddenIn]; done) | decide +kernel
theorem pd_6_4 : parseMethodDescriptor "(II)I" = some ⟨[.int, .int], some .int⟩ := by decide +kernel
theorem ef_6 (m : MethodId) (a1 : Addr) : entryFrame m #[(.ref a1), (.int (8 : Int32))] 3 = mkF m 0 #[.val (.ref a1), .val (.int (8 : Int32)), .unset] [] := by first | (simp [entryFrame, mkF, argsToLocals, Value.category]; done) | rfl

def Q6 (Z : State) (a1 : Addr) (k_a1 : ClassId) (e_a1_0 : Int32) (e_a1_1 : Int32) (e_a1_2 : Int32) (e_a1_3 : Int32) (h0 : Heap) (n0 : Nat) (v : Option Value) (h : Heap) (L : List Loc) : Prop := ∃ (rb0 : Addr) (kb0 : ClassId) , v = some (.ref rb0) ∧ Fr n0 L ∧ n0 ≤ rb0 ∧ h0.size ≤ rb0 ∧ Keep h0 h [] ∧ Arv Z h rb0 kb0 .int (8 : Int32) [(.int e_a1_0), (.int e_a1_1), (.int e_a1_2), (.int e_a1_3), (.int (0 : Int32)), (.int (0 : Int32)), (.int (0 : Int32)), (.int (0 : Int32))] (.int (0 : Int32))
set_option maxRecDepth 65536 in
set_option maxHeartbeats 40000000 in
theorem rm6 (l : Launch) (Z : State) (a0 : Array Value) (hw : ∀ d ∈ tables_1, d.before a0 Z = true) (ws : List Jvm.Cond) (a1 : Addr) (k_a1 : ClassId) (e_a1_0 : Int32) (e_a1_1 : Int32) (e_a1_2 : Int32) (e_a1_3 : Int32) (h0 : Heap) (n0 : Nat) (Z0 : n0 ≤ h0.size) (V_a1 : Arv Z h0 a1 k_a1 .int (4 : Int32) [(.int e_a1_0), (.int e_a1_1), (.int e_a1_2), (.int e_a1_3)] (.int (0 : Int32))) :
    MetFree l (⟨"java/util/Arrays", "copyOf", "([II)[I"⟩ : MethodName) (head1 (Jvm.Cond.code (⟨"java/util/Arrays", "copyOf", "([II)[I"⟩ : MethodName) jdk_65_method_123_code 3 (some (.array .int)) :: ws) ({ frames := 1, cells := 1, slots := 8, locals := 51 } : Room)) (fun a U => a = #[(.ref a1), (.int (8 : Int32))] ∧ Z.Warmed39 U.vm ∧ U.heap = h0) (fun _ _ _ _ _ => True) (fun _ U o U' => ∃ v L, o = .returned v ∧ Q6 Z a1 k_a1 e_a1_0 e_a1_1 e_a1_2 e_a1_3 h0 n0 v U'.heap L ∧ FrameEnd U o U' L ({ frames := 1, cells := 1, slots := 8, locals := 51 } : Room).cells ({ frames := 1, cells := 1, slots := 8, locals := 51 } : Room).slots) := by
  refine MetFree.of_bodySF (plainFor_of_name pn_6) hisR ?_
  intro p e s m args below meth c s₁ Bd hml0 hP hK
  obtain ⟨rfl, hZ, hh⟩ := hP
  skip
  skip
  skip
  skip
  skip
  skip
  have hx := Bd.exec
  have hby := Bd.bytes
  have hml : c.maxLocals = 3 := hml0
  have hown : s.vm.findClass "java/util/Arrays" = some m.cls := findClass_of_methodNamed Bd.named
  have hnm := (name_of_methodNamed Bd.named Bd.method).1
  have X0 : Stand p l e ({ frames := 1, cells := 1, slots := 8, locals := 51 } : Room) s m #[(.ref a1), (.int (8 : Int32))] below meth c s₁ [] 0 0 := Stand.of_body Bd
  have e0 : s₁.heap = h0 := by rw [← hh, Bd.state]; rfl
  have N0 := Fr.nil n0
  have pre0 : ∀ t, Steps p.tables e below (s₁.setTop (mkF m 0 #[.val (.ref a1), .val (.int (8 : Int32)), .unset] [])) t → Steps p.tables e below (s₁.setTop (entryFrame m #[(.ref a1), (.int (8 : Int32))] 3)) t := fun t k => castTop (ef_6 m a1) k
  obtain ⟨cl1, Ar1, aq1, S1, M1, H1, G1⟩ := id V_a1
  obtain ⟨b2, g2⟩ : ∃ z, z = h0.size := ⟨_, rfl⟩
  obtain ⟨T2, h2, k2, X2, e2, E2, A2, st2⟩ := newP X0 hx hZ (hw _ (List.mem_of_getElem? (i := 10) rfl)) e0 (g := (mkF m 15 #[.val (.ref a1), .val (.int (8 : Int32)), .unset] [(.int (8 : Int32))])) rfl (hb hby d6_15) rfl (by decide) (cap := 8) (by decide) (by decide) (by decide) (by decide)
  rw [← g2] at A2 st2
  have g_b2 : n0 ≤ b2 := Nat.le_trans Z0 (Nat.le_of_eq g2.symm)
  have sz_b2 : h0.size ≤ b2 := Nat.le_trans (Keep.refl h0 ([] : List Addr)).1 (Nat.le_of_eq g2.symm)
  have ne_a1_b2 : a1 ≠ b2 := Nat.ne_of_lt (Nat.lt_of_lt_of_le V_a1.lt (Nat.le_of_eq g2.symm))
  have V2 : Arv Z h2 b2 k2 .int (8 : Int32) [(.int (0 : Int32)), (.int (0 : Int32)), (.int (0 : Int32)), (.int (0 : Int32)), (.int (0 : Int32)), (.int (0 : Int32)), (.int (0 : Int32)), (.int (0 : Int32))] (.int (0 : Int32)) := (Arv.new A2 (by decide)).pad (pad_rep [] (.int (0 : Int32)) 8)
  have fq3 := (V_a1.ext E2)
  obtain ⟨cl4, Ar4, aq4, S4, M4, H4, G4⟩ := id fq3
  have z6 : n0 ≤ h2.size := (Nat.le_trans Z0 E2.1)
  obtain ⟨_, _, ⟨T5, L5, k5, n5⟩, -, X5, ⟨Lc5, hQ5, l5, y5, z5⟩, st5⟩ := Jvm.LawKit.callS X2 hx (y := (⟨"java/lang/Math", "min", "(II)I"⟩ : MethodName)) hown (mvT hZ (hw _ (List.mem_of_getElem? (i := 36) rfl))) (mvT hZ (hw _ (List.mem_of_getElem? (i := 37) rfl))) (mvT hZ (hw _ (List.mem_of_getElem? (i := 38) rfl))) (mvT hZ (hw _ (List.mem_of_getElem? (i := 39) rfl))) (by decide) (backOf (W := 4) (rm7 l Z a0 hw [] (4 : Int32) (8 : Int32) h2 n0 z6) hZ (hw _ (List.mem_of_getElem? (i := 39) rfl)) (hw _ (List.mem_of_getElem? (i := 38) rfl)) (by decide) (by decide)) (g := (mkF m 25 #[.val (.ref a1), .val (.int (8 : Int32)), .val (.ref b2)] [(.int (8 : Int32)), (.int (4 : Int32)), (.int (0 : Int32)), (.ref b2), (.int (0 : Int32)), (.ref a1)])) rfl (by rw [hml]; rfl) (argsL := [(.int (4 : Int32)), (.int (8 : Int32))]) (rest := [(.int (0 : Int32)), (.ref b2), (.int (0 : Int32)), (.ref a1)]) (lenOf pd_6_4 rfl) rfl (by show 2 * 0 + _ ≤ _; exact Nat.le_of_eq rfl) (hb hby d6_25) (fun _ _ => ⟨rfl, e2, (by decide : 1 + 0 ≤ _), (by decide : 8 + 0 ≤ _)⟩)
  dsimp only [Pt.U, Pt.locs, Pt.cells, Pt.slots] at X5 l5 y5 z5 st5 hQ5
  subst l5 y5 z5
  obtain ⟨rfl, N5q, e5⟩ := hQ5
  rw [show (F7 (4 : Int32) (8 : Int32)) = (4 : Int32) from by first | decide | (unfold F7; repeat' split) <;> first | rfl | simp_all] at st5
  have N5 := Fr.app N0 N5q
  obtain ⟨T7, h7, L7, X7, e7, N7, K7, V7', st7⟩ := cpA X5 hx hZ hown (hw _ (List.mem_of_getElem? (i := 40) rfl)) (hw _ (List.mem_of_getElem? (i := 43) rfl)) (hw _ (List.mem_of_getElem? (i := 41) rfl)) (hw _ (List.mem_of_getElem? (i := 42) rfl)) e5 fq3 V2 (us := [(.int e_a1_0), (.int e_a1_1), (.int e_a1_2), (.int e_a1_3)]) (Or.inl ⟨rfl, rfl⟩) (by decide) (by decide) (by decide) (by decide) (by decide) rfl (by decide) N5 g_b2 (g := (mkF m 28 #[.val (.ref a1), .val (.int (8 : Int32)), .val (.ref b2)] [(.int (4 : Int32)), (.int (0 : Int32)), (.ref b2), (.int (0 : Int32)), (.ref a1)])) rfl (by rw [hml]; rfl) rfl (hb hby d6_28) (by decide) (W := 0) (by show 2 * 0 + _ ≤ _; exact Nat.le_of_eq rfl) (by decide)
  have V7 : Arv Z h7 b2 k2 .int (8 : Int32) [(.int e_a1_0), (.int e_a1_1), (.int e_a1_2), (.int e_a1_3), (.int (0 : Int32)), (.int (0 : Int32)), (.int (0 : Int32)), (.int (0 : Int32))] (.int (0 : Int32)) := V7'
  have k8 : Keep h0 h7 [] := (((Keep.refl h0 []).ext E2).trans K7 (allS (Or.inr sz_b2) all0))
  obtain ⟨fs, hr, hrun, hended, hW, hsame⟩ := X7.leave (v := some (.ref b2)) (fun h => by rw [Bd.returns] at h; cases h)
  refine ⟨_, _, pre0 _ ?_, hrun, hended, _, _, rfl, ?_, ⟨_, rfl⟩, hW, hsame.mono (by decide) (by decide)⟩
  · show Steps p.tables e below (s₁.setTop (mkF m 0 #[.val (.ref a1), .val (.int (8 : Int32)), .unset] [])) _
    refine XS.iloadN X0.here hx rfl (hb hby d6_0) rfl ?_
    show Steps p.tables e below (s₁.setTop (mkF m 1 #[.val (.ref a1), .val (.int (8 : Int32)), .unset] [(.int (8 : Int32))])) _
    refine XS.aloadN X0.here hx rfl (hb hby d6_1) rfl rfl ?_
    show Steps p.tables e below (s₁.setTop (mkF m 2 #[.val (.ref a1), .val (.int (8 : Int32)), .unset] [(.ref a1), (.int (8 : Int32))])) _
    refine X0.arraylength hx (by rw [e0]; exact Ar1.1) (State.isArrayOf_alike hZ.alike Ar1.2.1) (g := (mkF m 2 #[.val (.ref a1), .val (.int (8 : Int32)), .unset] [(.ref a1), (.int (8 : Int32))])) rfl rfl (hb hby d6_2) _ ?_
    rw [len_of S1 M1]
    show Steps p.tables e below (s₁.setTop (mkF m 3 #[.val (.ref a1), .val (.int (8 : Int32)), .unset] [(.int (4 : Int32)), (.int (8 : Int32))])) _
    refine XS.icmpYes X0.here hx rfl (pc0 := 3) (pc' := 14) rfl (hb hby d6_3) rfl (feq (by decide : ¬ ((8 : Int32) = (4 : Int32)))).2 (by decide) (by decide) ?_
    show Steps p.tables e below (s₁.setTop (mkF m 14 #[.val (.ref a1), .val (.int (8 : Int32)), .unset] [])) _
    refine XS.iloadN X0.here hx rfl (hb hby d6_14) rfl ?_
    show Steps p.tables e below (s₁.setTop (mkF m 15 #[.val (.ref a1), .val (.int (8 : Int32)), .unset] [(.int (8 : Int32))])) _
    refine st2 _ ?_
    show Steps p.tables e below (T2.setTop (mkF m 17 #[.val (.ref a1), .val (.int (8 : Int32)), .unset] [(.ref b2)])) _
    refine XS.astoreN X2.here hx rfl (hb hby d6_17) rfl rfl (l' := #[.val (.ref a1), .val (.int (8 : Int32)), .val (.ref b2)]) rfl ?_
    show Steps p.tables e below (T2.setTop (mkF m 18 #[.val (.ref a1), .val (.int (8 : Int32)), .val (.ref b2)] [])) _
    refine XS.aloadN X2.here hx rfl (hb hby d6_18) rfl rfl ?_
    show Steps p.tables e below (T2.setTop (mkF m 19 #[.val (.ref a1), .val (.int (8 : Int32)), .val (.ref b2)] [(.ref a1)])) _
    refine XS.iconst X2.here hx rfl (hb hby d6_19) ?_
    show Steps p.tables e below (T2.setTop (mkF m 20 #[.val (.ref a1), .val (.int (8 : Int32)), .val (.ref b2)] [(.int (0 : Int32)), (.ref a1)])) _
    refine XS.aloadN X2.here hx rfl (hb hby d6_20) rfl rfl ?_
    show Steps p.tables e below (T2.setTop (mkF m 21 #[.val (.ref a1), .val (.int (8 : Int32)), .val (.ref b2)] [(.ref b2), (.int (0 : Int32)), (.ref a1)])) _
    refine XS.iconst X2.here hx rfl (hb hby d6_21) ?_
    show Steps p.tables e below (T2.setTop (mkF m 22 #[.val (.ref a1), .val (.int (8 : Int32)), .val (.ref b2)] [(.int (0 : Int32)), (.ref b2), (.int (0 : Int32)), (.ref a1)])) _
    refine XS.aloadN X2.here hx rfl (hb hby d6_22) rfl rfl ?_
    show Steps p.tables e below (T2.setTop (mkF m 23 #[.val (.ref a1), .val (.int (8 : Int32)), .val (.ref b2)] [(.ref a1), (.int (0 : Int32)), (.ref b2), (.int (0 : Int32)), (.ref a1)])) _
    refine X2.arraylength hx (by rw [e2]; exact Ar4.1) (State.isArrayOf_alike hZ.alike Ar4.2.1) (g := (mkF m 23 #[.val (.ref a1), .val (.int (8 : Int32)), .val (.ref b2)] [(.ref a1), (.int (0 : Int32)), (.ref b2), (.int (0 : Int32)), (.ref a1)])) rfl rfl (hb hby d6_23) _ ?_
    rw [len_of S4 M4]
    show Steps p.tables e below (T2.setTop (mkF m 24 #[.val (.ref a1), .val (.int (8 : Int32)), .val (.ref b2)] [(.int (4 : Int32)), (.int (0 : Int32)), (.ref b2), (.int (0 : Int32)), (.ref a1)])) _
    refine XS.iloadN X2.here hx rfl (hb hby d6_24) rfl ?_
    show Steps p.tables e below (T2.setTop (mkF m 25 #[.val (.ref a1), .val (.int (8 : Int32)), .val (.ref b2)] [(.int (8 : Int32)), (.int (4 : Int32)), (.int (0 : Int32)), (.ref b2), (.int (0 : Int32)), (.ref a1)])) _
    refine st5 _ ?_
    show Steps p.tables e below (T5.setTop (mkF m 28 #[.val (.ref a1), .val (.int (8 : Int32)), .val (.ref b2)] [(.int (4 : Int32)), (.int (0 : Int32)), (.ref b2), (.int (0 : Int32)), (.ref a1)])) _
    refine st7 _ ?_
    show Steps p.tables e below (T7.setTop (mkF m 31 #[.val (.ref a1), .val (.int (8 : Int32)), .val (.ref b2)] [])) _
    refine XS.aloadN X7.here hx rfl (hb hby d6_31) rfl rfl ?_
    show Steps p.tables e below (T7.setTop (mkF m 32 #[.val (.ref a1), .val (.int (8 : Int32)), .val (.ref b2)] [(.ref b2)])) _
    jvm_step X7.here [X7.here.top, hx, (hb hby d6_32), X7.method', Bd.returns, Value.isRef, FieldType.isReference]
    first | (intro acts; rw [hr _ acts rfl rfl rfl]) | rw [hr _ _ rfl rfl rfl]
    exact Steps.refl _
  · show Q6 Z a1 k_a1 e_a1_0 e_a1_1 e_a1_2 e_a1_3 h0 n0 _ T7.heap _
    rw [e7]
    exact ⟨b2, k2, rfl, N7, g_b2, sz_b2, k8, V7⟩
theorem d8_0 : decode prog_40_method_7_code 0 = .ok (.aload_n 0, 1) := by decide +kernel
theorem d8_1 : decode prog_40_method_7_code 1 = .ok (.iload_n 1, 1) := by decide +kernel
theorem d8_2 : decode prog_40_method_7_code 2 = .ok (.newarray .int, 2) := by decide +kernel
theorem d8_4 : decode prog_40_method_7_code 4 = .ok (.putfield 7, 3) := by decide +kernel
theorem d8_7 : decode prog_40_method_7_code 7 = .ok (.iconst 0, 1) := by decide +kernel
theorem d8_8 : decode prog_40_method_7_code 8 = .ok (.istore_n 2, 1) := by decide +kernel
theorem d8_9 : decode prog_40_method_7_code 9 = .ok (.iload_n 2, 1) := by decide +kernel
theorem d8_10 : decode prog_40_method_7_code 10 = .ok (.aload_n 0, 1) := by decide +kernel
theorem d8_11 : decode prog_40_method_7_code 11 = .ok (.getfield 20, 3) := by decide +kernel
theorem d8_14 : decode prog_40_method_7_code 14 = .ok (.if_icmp .ge 32, 3) := by decide +kernel
theorem d8_17 : decode prog_40_method_7_code 17 = .ok (.aload_n 0, 1) := by decide +kernel
theorem d8_18 : decode prog_40_method_7_code 18 = .ok (.getfield 7, 3) := by decide +kernel
theorem d8_21 : decode prog_40_method_7_code 21 = .ok (.aload_n 0, 1) := by decide +kernel
theorem d8_22 : decode prog_40_method_7_code 22 = .ok (.aload_n 0, 1) := by decide +kernel
theorem d8_23 : decode prog_40_method_7_code 23 = .ok (.getfield 13, 3) := by decide +kernel
theorem d8_26 : decode prog_40_method_7_code 26 = .ok (.iload_n 2, 1) := by decide +kernel
theorem d8_27 : decode prog_40_method_7_code 27 = .ok (.iaload, 1) := by decide +kernel
theorem d8_28 : decode prog_40_method_7_code 28 = .ok (.invokevirtual 16, 3) := by decide +kernel
theorem d8_31 : decode prog_40_method_7_code 31 = .ok (.aload_n 0, 1) := by decide +kernel
theorem d8_32 : decode prog_40_method_7_code 32 = .ok (.getfield 13, 3) := by decide +kernel
theorem d8_35 : decode prog_40_method_7_code 35 = .ok (.iload_n 2, 1) := by decide +kernel
theorem d8_36 : decode prog_40_method_7_code 36 = .ok (.iaload, 1) := by decide +kernel
theorem d8_37 : decode prog_40_method_7_code 37 = .ok (.iconst 1, 1) := by decide +kernel
theorem d8_38 : decode prog_40_method_7_code 38 = .ok (.iadd, 1) := by decide +kernel
theorem d8_39 : decode prog_40_method_7_code 39 = .ok (.iastore, 1) := by decide +kernel
theorem d8_40 : decode prog_40_method_7_code 40 = .ok (.iinc 2 1, 3) := by decide +kernel
theorem d8_43 : decode prog_40_method_7_code 43 = .ok (.goto (-34), 3) := by decide +kernel
theorem d8_46 : decode prog_40_method_7_code 46 = .ok (.return_, 1) := by decide +kernel
theorem pn_8 : plainName "com/example/krel/krel/saturation/AtomSet" = true := by first | (simp [plainName, overriddenIn]; done) | decide +kernel
theorem pd_8_2 : parseMethodDescriptor "(I)I" = some ⟨[.int], some .int⟩ := by decide +kernel
theorem ef_8 (m : MethodId) (a1 : Addr) : entryFrame m #[(.ref a1), (.int (16 : Int32))] 3 = mkF m 0 #[.val (.ref a1), .val (.int (16 : Int32)), .unset] [] := by first | (simp [entryFrame, mkF, argsToLocals, Value.category]; done) | rfl
def own_L8_0 (e_c2_0 : Int32) (e_c2_1 : Int32) (e_c2_2 : Int32) (e_c2_3 : Int32) (e_c2_4 : Int32) (e_c2_5 : Int32) (e_c2_6 : Int32) (e_c2_7 : Int32) : List Int32 := ([(0 : Int32), (0 : Int32), (0 : Int32), (0 : Int32), (0 : Int32), (0 : Int32), (0 : Int32), (0 : Int32), (0 : Int32), (0 : Int32), (0 : Int32), (0 : Int32), (0 : Int32), (0 : Int32), (0 : Int32), (0 : Int32)] : List Int32).set ((F1004 e_c2_0 ([(0 : Int32), (0 : Int32), (0 : Int32), (0 : Int32), (0 : Int32), (0 : Int32), (0 : Int32), (0 : Int32), (0 : Int32), (0 : Int32), (0 : Int32), (0 : Int32), (0 : Int32), (0 : Int32), (0 : Int32), (0 : Int32)] : List Int32))).toNatClampNeg (e_c2_0 + (1 : Int32))
def own_L8_1 (e_c2_0 : Int32) (e_c2_1 : Int32) (e_c2_2 : Int32) (e_c2_3 : Int32) (e_c2_4 : Int32) (e_c2_5 : Int32) (e_c2_6 : Int32) (e_c2_7 : Int32) : List Int32 := (own_L8_0 e_c2_0 e_c2_1 e_c2_2 e_c2_3 e_c2_4 e_c2_5 e_c2_6 e_c2_7).set ((F1004 e_c2_1 (own_L8_0 e_c2_0 e_c2_1 e_c2_2 e_c2_3 e_c2_4 e_c2_5 e_c2_6 e_c2_7))).toNatClampNeg (e_c2_1 + (1 : Int32))
def own_L8_2 (e_c2_0 : Int32) (e_c2_1 : Int32) (e_c2_2 : Int32) (e_c2_3 : Int32) (e_c2_4 : Int32) (e_c2_5 : Int32) (e_c2_6 : Int32) (e_c2_7 : Int32) : List Int32 := (own_L8_1 e_c2_0 e_c2_1 e_c2_2 e_c2_3 e_c2_4 e_c2_5 e_c2_6 e_c2_7).set ((F1004 e_c2_2 (own_L8_1 e_c2_0 e_c2_1 e_c2_2 e_c2_3 e_c2_4 e_c2_5 e_c2_6 e_c2_7))).toNatClampNeg (e_c2_2 + (1 : Int32))
def own_L8_3 (e_c2_0 : Int32) (e_c2_1 : Int32) (e_c2_2 : Int32) (e_c2_3 : Int32) (e_c2_4 : Int32) (e_c2_5 : Int32) (e_c2_6 : Int32) (e_c2_7 : Int32) : List Int32 := (own_L8_2 e_c2_0 e_c2_1 e_c2_2 e_c2_3 e_c2_4 e_c2_5 e_c2_6 e_c2_7).set ((F1004 e_c2_3 (own_L8_2 e_c2_0 e_c2_1 e_c2_2 e_c2_3 e_c2_4 e_c2_5 e_c2_6 e_c2_7))).toNatClampNeg (e_c2_3 + (1 : Int32))
def own_L8_4 (e_c2_0 : Int32) (e_c2_1 : Int32) (e_c2_2 : Int32) (e_c2_3 : Int32) (e_c2_4 : Int32) (e_c2_5 : Int32) (e_c2_6 : Int32) (e_c2_7 : Int32) : List Int32 := (own_L8_3 e_c2_0 e_c2_1 e_c2_2 e_c2_3 e_c2_4 e_c2_5 e_c2_6 e_c2_7).set ((F1004 e_c2_4 (own_L8_3 e_c2_0 e_c2_1 e_c2_2 e_c2_3 e_c2_4 e_c2_5 e_c2_6 e_c2_7))).toNatClampNeg (e_c2_4 + (1 : Int32))

theorem own_len8_0 (e_c2_0 e_c2_1 e_c2_2 e_c2_3 e_c2_4 e_c2_5 e_c2_6 e_c2_7 : Int32) : (own_L8_0 e_c2_0 e_c2_1 e_c2_2 e_c2_3 e_c2_4 e_c2_5 e_c2_6 e_c2_7).length = 16 := (List.length_set ..).trans rfl
theorem own_len8_1 (e_c2_0 e_c2_1 e_c2_2 e_c2_3 e_c2_4 e_c2_5 e_c2_6 e_c2_7 : Int32) : (own_L8_1 e_c2_0 e_c2_1 e_c2_2 e_c2_3 e_c2_4 e_c2_5 e_c2_6 e_c2_7).length = 16 := (List.length_set ..).trans (own_len8_0 e_c2_0 e_c2_1 e_c2_2 e_c2_3 e_c2_4 e_c2_5 e_c2_6 e_c2_7)
theorem own_len8_2 (e_c2_0 e_c2_1 e_c2_2 e_c2_3 e_c2_4 e_c2_5 e_c2_6 e_c2_7 : Int32) : (own_L8_2 e_c2_0 e_c2_1 e_c2_2 e_c2_3 e_c2_4 e_c2_5 e_c2_6 e_c2_7).length = 16 := (List.length_set ..).trans (own_len8_1 e_c2_0 e_c2_1 e_c2_2 e_c2_3 e_c2_4 e_c2_5 e_c2_6 e_c2_7)
theorem own_len8_3 (e_c2_0 e_c2_1 e_c2_2 e_c2_3 e_c2_4 e_c2_5 e_c2_6 e_c2_7 : Int32) : (own_L8_3 e_c2_0 e_c2_1 e_c2_2 e_c2_3 e_c2_4 e_c2_5 e_c2_6 e_c2_7).length = 16 := (List.length_set ..).trans (own_len8_2 e_c2_0 e_c2_1 e_c2_2 e_c2_3 e_c2_4 e_c2_5 e_c2_6 e_c2_7)
theorem own_len8 (e_c2_0 e_c2_1 e_c2_2 e_c2_3 e_c2_4 e_c2_5 e_c2_6 e_c2_7 : Int32) : (own_L8_4 e_c2_0 e_c2_1 e_c2_2 e_c2_3 e_c2_4 e_c2_5 e_c2_6 e_c2_7).length = 16 := (List.length_set ..).trans (own_len8_3 e_c2_0 e_c2_1 e_c2_2 e_c2_3 e_c2_4 e_c2_5 e_c2_6 e_c2_7)
def own_Ok (e_c2_0 e_c2_1 e_c2_2 e_c2_3 e_c2_4 : Int32) : Prop := own_nn [e_c2_0, e_c2_1, e_c2_2, e_c2_3, e_c2_4] ∧ [e_c2_0, e_c2_1, e_c2_2, e_c2_3, e_c2_4].Nodup
theorem own_I8_0 (e_c2_0 e_c2_1 e_c2_2 e_c2_3 e_c2_4 e_c2_5 e_c2_6 e_c2_7 : Int32) (h : own_Ok e_c2_0 e_c2_1 e_c2_2 e_c2_3 e_c2_4) : own_Inv (own_H 16) (own_L8_0 e_c2_0 e_c2_1 e_c2_2 e_c2_3 e_c2_4 e_c2_5 e_c2_6 e_c2_7) [e_c2_0] :=
  own_put_16 (L := [0, 0, 0, 0, 0, 0, 0, 0, 0, 0, 0, 0, 0, 0, 0, 0]) (xs := []) rfl (own_empty _ 16 (by decide)) (fun y hy => by simp at hy) (by decide) e_c2_0 (h.1 _ (by simp)) (by simp)
theorem own_I8_1 (e_c2_0 e_c2_1 e_c2_2 e_c2_3 e_c2_4 e_c2_5 e_c2_6 e_c2_7 : Int32) (h : own_Ok e_c2_0 e_c2_1 e_c2_2 e_c2_3 e_c2_4) : own_Inv (own_H 16) (own_L8_1 e_c2_0 e_c2_1 e_c2_2 e_c2_3 e_c2_4 e_c2_5 e_c2_6 e_c2_7) [e_c2_0, e_c2_1] :=
  own_put_16 (own_len8_0 e_c2_0 e_c2_1 e_c2_2 e_c2_3 e_c2_4 e_c2_5 e_c2_6 e_c2_7) (own_I8_0 e_c2_0 e_c2_1 e_c2_2 e_c2_3 e_c2_4 e_c2_5 e_c2_6 e_c2_7 h) (fun y hy => h.1 y (by simp at hy ⊢; simp [hy])) (by simp) e_c2_1 (h.1 _ (by simp)) (by have := h.2; simp [List.nodup_cons] at this ⊢; intro e; simp_all)
theorem own_I8_2 (e_c2_0 e_c2_1 e_c2_2 e_c2_3 e_c2_4 e_c2_5 e_c2_6 e_c2_7 : Int32) (h : own_Ok e_c2_0 e_c2_1 e_c2_2 e_c2_3 e_c2_4) : own_Inv (own_H 16) (own_L8_2 e_c2_0 e_c2_1 e_c2_2 e_c2_3 e_c2_4 e_c2_5 e_c2_6 e_c2_7) [e_c2_0, e_c2_1, e_c2_2] :=
  own_put_16 (own_len8_1 e_c2_0 e_c2_1 e_c2_2 e_c2_3 e_c2_4 e_c2_5 e_c2_6 e_c2_7) (own_I8_1 e_c2_0 e_c2_1 e_c2_2 e_c2_3 e_c2_4 e_c2_5 e_c2_6 e_c2_7 h) (fun y hy => h.1 y (by simp at hy ⊢; rcases hy with q | q <;> simp [q])) (by simp) e_c2_2 (h.1 _ (by simp)) (by have := h.2; simp [List.nodup_cons] at this ⊢; refine ⟨fun e => ?_, fun e => ?_⟩ <;> simp_all)
theorem own_I8_3 (e_c2_0 e_c2_1 e_c2_2 e_c2_3 e_c2_4 e_c2_5 e_c2_6 e_c2_7 : Int32) (h : own_Ok e_c2_0 e_c2_1 e_c2_2 e_c2_3 e_c2_4) : own_Inv (own_H 16) (own_L8_3 e_c2_0 e_c2_1 e_c2_2 e_c2_3 e_c2_4 e_c2_5 e_c2_6 e_c2_7) [e_c2_0, e_c2_1, e_c2_2, e_c2_3] :=
  own_put_16 (own_len8_2 e_c2_0 e_c2_1 e_c2_2 e_c2_3 e_c2_4 e_c2_5 e_c2_6 e_c2_7) (own_I8_2 e_c2_0 e_c2_1 e_c2_2 e_c2_3 e_c2_4 e_c2_5 e_c2_6 e_c2_7 h) (fun y hy => h.1 y (by simp at hy ⊢; rcases hy with q | q | q <;> simp [q])) (by simp) e_c2_3 (h.1 _ (by simp)) (by have := h.2; simp [List.nodup_cons] at this ⊢; refine ⟨fun e => ?_, fun e => ?_, fun e => ?_⟩ <;> simp_all)
theorem own_I8_4 (e_c2_0 e_c2_1 e_c2_2 e_c2_3 e_c2_4 e_c2_5 e_c2_6 e_c2_7 : Int32) (h : own_Ok e_c2_0 e_c2_1 e_c2_2 e_c2_3 e_c2_4) : own_Inv (own_H 16) (own_L8_4 e_c2_0 e_c2_1 e_c2_2 e_c2_3 e_c2_4 e_c2_5 e_c2_6 e_c2_7) [e_c2_0, e_c2_1, e_c2_2, e_c2_3, e_c2_4] :=
  own_put_16 (own_len8_3 e_c2_0 e_c2_1 e_c2_2 e_c2_3 e_c2_4 e_c2_5 e_c2_6 e_c2_7) (own_I8_3 e_c2_0 e_c2_1 e_c2_2 e_c2_3 e_c2_4 e_c2_5 e_c2_6 e_c2_7 h) (fun y hy => h.1 y (by simp at hy ⊢; rcases hy with q | q | q | q <;> simp [q])) (by simp) e_c2_4 (h.1 _ (by simp)) (by have := h.2; simp [List.nodup_cons] at this ⊢; refine ⟨fun e => ?_, fun e => ?_, fun e => ?_, fun e => ?_⟩ <;> simp_all)

set_option maxRecDepth 65536 in
set_option maxHeartbeats 40000000 in
theorem side_8_28 (e_c2_0 : Int32) (e_c2_1 : Int32) (e_c2_2 : Int32) (e_c2_3 : Int32) (e_c2_4 : Int32) (e_c2_5 : Int32) (e_c2_6 : Int32) (e_c2_7 : Int32) (hok : own_Ok e_c2_0 e_c2_1 e_c2_2 e_c2_3 e_c2_4) : own_Free 16 ([(0 : Int32), (0 : Int32), (0 : Int32), (0 : Int32), (0 : Int32), (0 : Int32), (0 : Int32), (0 : Int32), (0 : Int32), (0 : Int32), (0 : Int32), (0 : Int32), (0 : Int32), (0 : Int32), (0 : Int32), (0 : Int32)] : List Int32) e_c2_0 := by
  exact own_free_16 (xs := []) rfl (own_empty _ 16 (by decide)) (by decide) _
set_option maxRecDepth 65536 in
set_option maxHeartbeats 40000000 in
theorem side_8_39_18 (e_c2_0 : Int32) (e_c2_1 : Int32) (e_c2_2 : Int32) (e_c2_3 : Int32) (e_c2_4 : Int32) (e_c2_5 : Int32) (e_c2_6 : Int32) (e_c2_7 : Int32) (hok : own_Ok e_c2_0 e_c2_1 e_c2_2 e_c2_3 e_c2_4) : ¬ ((F1004 e_c2_0 ([(0 : Int32), (0 : Int32), (0 : Int32), (0 : Int32), (0 : Int32), (0 : Int32), (0 : Int32), (0 : Int32), (0 : Int32), (0 : Int32), (0 : Int32), (0 : Int32), (0 : Int32), (0 : Int32), (0 : Int32), (0 : Int32)] : List Int32)) < 0) ∧ (F1004 e_c2_0 ([(0 : Int32), (0 : Int32), (0 : Int32), (0 : Int32), (0 : Int32), (0 : Int32), (0 : Int32), (0 : Int32), (0 : Int32), (0 : Int32), (0 : Int32), (0 : Int32), (0 : Int32), (0 : Int32), (0 : Int32), (0 : Int32)] : List Int32)) < (16 : Int32) := by
  exact own_bd_16 _ _ rfl
set_option maxRecDepth 65536 in
set_option maxHeartbeats 40000000 in
theorem side_8_28_2 (e_c2_0 : Int32) (e_c2_1 : Int32) (e_c2_2 : Int32) (e_c2_3 : Int32) (e_c2_4 : Int32) (e_c2_5 : Int32) (e_c2_6 : Int32) (e_c2_7 : Int32) (hok : own_Ok e_c2_0 e_c2_1 e_c2_2 e_c2_3 e_c2_4) : own_Free 16 (own_L8_0 e_c2_0 e_c2_1 e_c2_2 e_c2_3 e_c2_4 e_c2_5 e_c2_6 e_c2_7) e_c2_1 := by
  exact own_free_16 (own_len8_0 e_c2_0 e_c2_1 e_c2_2 e_c2_3 e_c2_4 e_c2_5 e_c2_6 e_c2_7) (own_I8_0 e_c2_0 e_c2_1 e_c2_2 e_c2_3 e_c2_4 e_c2_5 e_c2_6 e_c2_7 hok) (by simp) _
set_option maxRecDepth 65536 in
set_option maxHeartbeats 40000000 in
theorem side_8_39_32 (e_c2_0 : Int32) (e_c2_1 : Int32) (e_c2_2 : Int32) (e_c2_3 : Int32) (e_c2_4 : Int32) (e_c2_5 : Int32) (e_c2_6 : Int32) (e_c2_7 : Int32) (hok : own_Ok e_c2_0 e_c2_1 e_c2_2 e_c2_3 e_c2_4) : ¬ ((F1004 e_c2_1 (own_L8_0 e_c2_0 e_c2_1 e_c2_2 e_c2_3 e_c2_4 e_c2_5 e_c2_6 e_c2_7)) < 0) ∧ (F1004 e_c2_1 (own_L8_0 e_c2_0 e_c2_1 e_c2_2 e_c2_3 e_c2_4 e_c2_5 e_c2_6 e_c2_7)) < (16 : Int32) := by
  exact own_bd_16 _ _ (own_len8_0 e_c2_0 e_c2_1 e_c2_2 e_c2_3 e_c2_4 e_c2_5 e_c2_6 e_c2_7)
set_option maxRecDepth 65536 in
set_option maxHeartbeats 40000000 in
theorem side_8_28_3 (e_c2_0 : Int32) (e_c2_1 : Int32) (e_c2_2 : Int32) (e_c2_3 : Int32) (e_c2_4 : Int32) (e_c2_5 : Int32) (e_c2_6 : Int32) (e_c2_7 : Int32) (hok : own_Ok e_c2_0 e_c2_1 e_c2_2 e_c2_3 e_c2_4) : own_Free 16 (own_L8_1 e_c2_0 e_c2_1 e_c2_2 e_c2_3 e_c2_4 e_c2_5 e_c2_6 e_c2_7) e_c2_2 := by
  exact own_free_16 (own_len8_1 e_c2_0 e_c2_1 e_c2_2 e_c2_3 e_c2_4 e_c2_5 e_c2_6 e_c2_7) (own_I8_1 e_c2_0 e_c2_1 e_c2_2 e_c2_3 e_c2_4 e_c2_5 e_c2_6 e_c2_7 hok) (by simp) _
set_option maxRecDepth 65536 in
set_option maxHeartbeats 40000000 in
theorem side_8_39_46 (e_c2_0 : Int32) (e_c2_1 : Int32) (e_c2_2 : Int32) (e_c2_3 : Int32) (e_c2_4 : Int32) (e_c2_5 : Int32) (e_c2_6 : Int32) (e_c2_7 : Int32) (hok : own_Ok e_c2_0 e_c2_1 e_c2_2 e_c2_3 e_c2_4) : ¬ ((F1004 e_c2_2 (own_L8_1 e_c2_0 e_c2_1 e_c2_2 e_c2_3 e_c2_4 e_c2_5 e_c2_6 e_c2_7)) < 0) ∧ (F1004 e_c2_2 (own_L8_1 e_c2_0 e_c2_1 e_c2_2 e_c2_3 e_c2_4 e_c2_5 e_c2_6 e_c2_7)) < (16 : Int32) := by
  exact own_bd_16 _ _ (own_len8_1 e_c2_0 e_c2_1 e_c2_2 e_c2_3 e_c2_4 e_c2_5 e_c2_6 e_c2_7)
set_option maxRecDepth 65536 in
set_option maxHeartbeats 40000000 in
theorem side_8_28_4 (e_c2_0 : Int32) (e_c2_1 : Int32) (e_c2_2 : Int32) (e_c2_3 : Int32) (e_c2_4 : Int32) (e_c2_5 : Int32) (e_c2_6 : Int32) (e_c2_7 : Int32) (hok : own_Ok e_c2_0 e_c2_1 e_c2_2 e_c2_3 e_c2_4) : own_Free 16 (own_L8_2 e_c2_0 e_c2_1 e_c2_2 e_c2_3 e_c2_4 e_c2_5 e_c2_6 e_c2_7) e_c2_3 := by
  exact own_free_16 (own_len8_2 e_c2_0 e_c2_1 e_c2_2 e_c2_3 e_c2_4 e_c2_5 e_c2_6 e_c2_7) (own_I8_2 e_c2_0 e_c2_1 e_c2_2 e_c2_3 e_c2_4 e_c2_5 e_c2_6 e_c2_7 hok) (by simp) _
set_option maxRecDepth 65536 in
set_option maxHeartbeats 40000000 in
theorem side_8_39_60 (e_c2_0 : Int32) (e_c2_1 : Int32) (e_c2_2 : Int32) (e_c2_3 : Int32) (e_c2_4 : Int32) (e_c2_5 : Int32) (e_c2_6 : Int32) (e_c2_7 : Int32) (hok : own_Ok e_c2_0 e_c2_1 e_c2_2 e_c2_3 e_c2_4) : ¬ ((F1004 e_c2_3 (own_L8_2 e_c2_0 e_c2_1 e_c2_2 e_c2_3 e_c2_4 e_c2_5 e_c2_6 e_c2_7)) < 0) ∧ (F1004 e_c2_3 (own_L8_2 e_c2_0 e_c2_1 e_c2_2 e_c2_3 e_c2_4 e_c2_5 e_c2_6 e_c2_7)) < (16 : Int32) := by
  exact own_bd_16 _ _ (own_len8_2 e_c2_0 e_c2_1 e_c2_2 e_c2_3 e_c2_4 e_c2_5 e_c2_6 e_c2_7)
set_option maxRecDepth 65536 in
set_option maxHeartbeats 40000000 in
theorem side_8_28_5 (e_c2_0 : Int32) (e_c2_1 : Int32) (e_c2_2 : Int32) (e_c2_3 : Int32) (e_c2_4 : Int32) (e_c2_5 : Int32) (e_c2_6 : Int32) (e_c2_7 : Int32) (hok : own_Ok e_c2_0 e_c2_1 e_c2_2 e_c2_3 e_c2_4) : own_Free 16 (own_L8_3 e_c2_0 e_c2_1 e_c2_2 e_c2_3 e_c2_4 e_c2_5 e_c2_6 e_c2_7) e_c2_4 := by
  exact own_free_16 (own_len8_3 e_c2_0 e_c2_1 e_c2_2 e_c2_3 e_c2_4 e_c2_5 e_c2_6 e_c2_7) (own_I8_3 e_c2_0 e_c2_1 e_c2_2 e_c2_3 e_c2_4 e_c2_5 e_c2_6 e_c2_7 hok) (by simp) _
set_option maxRecDepth 65536 in
set_option maxHeartbeats 40000000 in
theorem side_8_39_74 (e_c2_0 : Int32) (e_c2_1 : Int32) (e_c2_2 : Int32) (e_c2_3 : Int32) (e_c2_4 : Int32) (e_c2_5 : Int32) (e_c2_6 : Int32) (e_c2_7 : Int32) (hok : own_Ok e_c2_0 e_c2_1 e_c2_2 e_c2_3 e_c2_4) : ¬ ((F1004 e_c2_4 (own_L8_3 e_c2_0 e_c2_1 e_c2_2 e_c2_3 e_c2_4 e_c2_5 e_c2_6 e_c2_7)) < 0) ∧ (F1004 e_c2_4 (own_L8_3 e_c2_0 e_c2_1 e_c2_2 e_c2_3 e_c2_4 e_c2_5 e_c2_6 e_c2_7)) < (16 : Int32) := by
  exact own_bd_16 _ _ (own_len8_3 e_c2_0 e_c2_1 e_c2_2 e_c2_3 e_c2_4 e_c2_5 e_c2_6 e_c2_7)
def Q8 (Z : State) (a1 : Addr) (c2 : Addr) (k_c2 : ClassId) (e_c2_0 : Int32) (e_c2_1 : Int32) (e_c2_2 : Int32) (e_c2_3 : Int32) (e_c2_4 : Int32) (e_c2_5 : Int32) (e_c2_6 : Int32) (e_c2_7 : Int32) (u_slots_a1 : Value) (h0 : Heap) (n0 : Nat) (v : Option Value) (h : Heap) (L : List Loc) : Prop := ∃ (rb0 : Addr) (kb0 : ClassId) , v = none ∧ Fr n0 L ∧ n0 ≤ rb0 ∧ h0.size ≤ rb0 ∧ Keep h0 h [a1] ∧ Exa Z h a1 "com/example/krel/krel/saturation/AtomSet" ∧ Fld Z h a1 "com/example/krel/krel/saturation/AtomSet" "atoms" "[I" (.ref c2) ∧ Fld Z h a1 "com/example/krel/krel/saturation/AtomSet" "size" "I" (.int (5 : Int32)) ∧ Fld Z h a1 "com/example/krel/krel/saturation/AtomSet" "slots" "[I" (.ref rb0) ∧ Arv Z h rb0 kb0 .int (16 : Int32) ((own_L8_4 e_c2_0 e_c2_1 e_c2_2 e_c2_3 e_c2_4 e_c2_5 e_c2_6 e_c2_7).map Value.int) (.int (0 : Int32))
set_option maxRecDepth 65536 in
set_option maxHeartbeats 40000000 in
theorem rm8 (l : Launch) (Z : State) (a0 : Array Value) (hw : ∀ d ∈ tables_1, d.before a0 Z = true) (ws : List Jvm.Cond) (a1 : Addr) (c2 : Addr) (k_c2 : ClassId) (e_c2_0 : Int32) (e_c2_1 : Int32) (e_c2_2 : Int32) (e_c2_3 : Int32) (e_c2_4 : Int32) (e_c2_5 : Int32) (e_c2_6 : Int32) (e_c2_7 : Int32) (u_slots_a1 : Value) (h0 : Heap) (n0 : Nat) (Z0 : n0 ≤ h0.size) (E_a1 : Exa Z h0 a1 "com/example/krel/krel/saturation/AtomSet") (F_size_a1 : Fld Z h0 a1 "com/example/krel/krel/saturation/AtomSet" "size" "I" (.int (5 : Int32))) (F_atoms_a1 : Fld Z h0 a1 "com/example/krel/krel/saturation/AtomSet" "atoms" "[I" (.ref c2)) (V_c2 : Arv Z h0 c2 k_c2 .int (8 : Int32) [(.int e_c2_0), (.int e_c2_1), (.int e_c2_2), (.int e_c2_3), (.int e_c2_4), (.int e_c2_5), (.int e_c2_6), (.int e_c2_7)] (.int (0 : Int32))) (hok : own_Ok e_c2_0 e_c2_1 e_c2_2 e_c2_3 e_c2_4) (F_slots_a1 : Fld Z h0 a1 "com/example/krel/krel/saturation/AtomSet" "slots" "[I" u_slots_a1) (g_a1 : n0 ≤ a1) (ne_c2_a1 : c2 ≠ a1) :
    MetFree l (⟨"com/example/krel/krel/saturation/AtomSet", "rehash", "(I)V"⟩ : MethodName) (head1 (Jvm.Cond.code (⟨"com/example/krel/krel/saturation/AtomSet", "rehash", "(I)V"⟩ : MethodName) prog_40_method_7_code 3 none :: ws) ({ frames := 1, cells := 1, slots := 16, locals := 17 } : Room)) (fun a U => a = #[(.ref a1), (.int (16 : Int32))] ∧ Z.Warmed39 U.vm ∧ U.heap = h0) (fun _ _ _ _ _ => True) (fun _ U o U' => ∃ v L, o = .returned v ∧ Q8 Z a1 c2 k_c2 e_c2_0 e_c2_1 e_c2_2 e_c2_3 e_c2_4 e_c2_5 e_c2_6 e_c2_7 u_slots_a1 h0 n0 v U'.heap L ∧ FrameEnd U o U' L ({ frames := 1, cells := 1, slots := 16, locals := 17 } : Room).cells ({ frames := 1, cells := 1, slots := 16, locals := 17 } : Room).slots) := by
  refine MetFree.of_bodySF (plainFor_of_name pn_8) hisR ?_
  intro p e s m args below meth c s₁ Bd hml0 hP hK
  obtain ⟨rfl, hZ, hh⟩ := hP
  skip
  skip
  skip
  skip
  skip
  skip
  have hx := Bd.exec
  have hby := Bd.bytes
  have hml : c.maxLocals = 3 := hml0
  have hown : s.vm.findClass "com/example/krel/krel/saturation/AtomSet" = some m.cls := findClass_of_methodNamed Bd.named
  have hnm := (name_of_methodNamed Bd.named Bd.method).1
  have X0 : Stand p l e ({ frames := 1, cells := 1, slots := 16, locals := 17 } : Room) s m #[(.ref a1), (.int (16 : Int32))] below meth c s₁ [] 0 0 := Stand.of_body Bd
  have e0 : s₁.heap = h0 := by rw [← hh, Bd.state]; rfl
  have N0 := Fr.nil n0
  have pre0 : ∀ t, Steps p.tables e below (s₁.setTop (mkF m 0 #[.val (.ref a1), .val (.int (16 : Int32)), .unset] [])) t → Steps p.tables e below (s₁.setTop (entryFrame m #[(.ref a1), (.int (16 : Int32))] 3)) t := fun t k => castTop (ef_8 m a1) k
  obtain ⟨b1, g1⟩ : ∃ z, z = h0.size := ⟨_, rfl⟩
  obtain ⟨T1, h1, k1, X1, e1, E1, A1, st1⟩ := newP X0 hx hZ (hw _ (List.mem_of_getElem? (i := 10) rfl)) e0 (g := (mkF m 2 #[.val (.ref a1), .val (.int (16 : Int32)), .unset] [(.int (16 : Int32)), (.ref a1)])) rfl (hb hby d8_2) rfl (by decide) (cap := 16) (by decide) (by decide) (by decide) (by decide)
  rw [← g1] at A1 st1
  have g_b1 : n0 ≤ b1 := Nat.le_trans Z0 (Nat.le_of_eq g1.symm)
  have sz_b1 : h0.size ≤ b1 := Nat.le_trans (Keep.refl h0 ([] : List Addr)).1 (Nat.le_of_eq g1.symm)
  have ne_a1_b1 : a1 ≠ b1 := Nat.ne_of_lt (Nat.lt_of_lt_of_le E_a1.lt (Nat.le_of_eq g1.symm))
  have ne_c2_b1 : c2 ≠ b1 := Nat.ne_of_lt (Nat.lt_of_lt_of_le V_c2.lt (Nat.le_of_eq g1.symm))
  have V1 : Arv Z h1 b1 k1 .int (16 : Int32) [(.int (0 : Int32)), (.int (0 : Int32)), (.int (0 : Int32)), (.int (0 : Int32)), (.int (0 : Int32)), (.int (0 : Int32)), (.int (0 : Int32)), (.int (0 : Int32)), (.int (0 : Int32)), (.int (0 : Int32)), (.int (0 : Int32)), (.int (0 : Int32)), (.int (0 : Int32)), (.int (0 : Int32)), (.int (0 : Int32)), (.int (0 : Int32))] (.int (0 : Int32)) := (Arv.new A1 (by decide)).pad (pad_rep [] (.int (0 : Int32)) 16)
  have fq2 := (Exa.ext E1 E_a1)
  have fq3 := (Fld.ext E1 F_slots_a1)
  obtain ⟨T4, h4, X4, e4, W4, st4⟩ := putF X1 hx hZ hown (host := "") (Or.inl (hw _ (List.mem_of_getElem? (i := 11) rfl))) Via.refl e1 fq3 fq2 (Or.inl (hw _ (List.mem_of_getElem? (i := 12) rfl))) (hw _ (List.mem_of_getElem? (i := 2) rfl)) (ty := (.array .int)) (by decide) rfl rfl (g := (mkF m 4 #[.val (.ref a1), .val (.int (16 : Int32)), .unset] [(.ref b1), (.ref a1)])) rfl rfl (hb hby d8_4)
  have Fw4 := Fld.same W4 fq3
  have N4 := Fr.snoc X4 N0 g_a1
  have fq5 := (Fld.other W4 (Fld.ext E1 F_size_a1) (Or.inr (slot_ne (Or.inl (hw _ (List.mem_of_getElem? (i := 31) rfl))) (Or.inl (hw _ (List.mem_of_getElem? (i := 12) rfl))) (by decide) (t := .int) (t' := (.array .int)) (by decide) (by decide))))
  obtain ⟨T6, X6, e6, st6⟩ := getF X4 hx hZ hown (host := "") (Or.inl (hw _ (List.mem_of_getElem? (i := 30) rfl))) Via.refl e4 fq5 (g := (mkF m 11 #[.val (.ref a1), .val (.int (16 : Int32)), .val (.int (0 : Int32))] [(.ref a1), (.int (0 : Int32))])) rfl rfl (hb hby d8_11)
  obtain ⟨T7, X7, e7, st7⟩ := getF X6 hx hZ hown (host := "") (Or.inl (hw _ (List.mem_of_getElem? (i := 11) rfl))) Via.refl e6 Fw4 (g := (mkF m 18 #[.val (.ref a1), .val (.int (16 : Int32)), .val (.int (0 : Int32))] [(.ref a1)])) rfl rfl (hb hby d8_18)
  have fq8 := (Fld.other W4 (Fld.ext E1 F_atoms_a1) (Or.inr (slot_ne (Or.inl (hw _ (List.mem_of_getElem? (i := 14) rfl))) (Or.inl (hw _ (List.mem_of_getElem? (i := 12) rfl))) (by decide) (t := (.array .int)) (t' := (.array .int)) (by decide) (by decide))))
  obtain ⟨T9, X9, e9, st9⟩ := getF X7 hx hZ hown (host := "") (Or.inl (hw _ (List.mem_of_getElem? (i := 13) rfl))) Via.refl e7 fq8 (g := (mkF m 23 #[.val (.ref a1), .val (.int (16 : Int32)), .val (.int (0 : Int32))] [(.ref a1), (.ref a1), (.ref b1)])) rfl rfl (hb hby d8_23)
  have fq10 := ((V_c2.ext E1).other W4 ne_c2_a1)
  obtain ⟨cl11, Ar11, aq11, S11, M11, H11, G11⟩ := id fq10
  have hin11 : ¬ ((0 : Int32) < 0 ∨ cl11.slots.size ≤ ((0 : Int32)).toNatClampNeg) := inb_of S11 ⟨by decide, by decide⟩
  have hat11 : cl11.slots[((0 : Int32)).toNatClampNeg]? = some (.int e_c2_0) := Has.at H11 hin11 rfl
  have fq13 := (Exa.wr W4 fq2)
  have fq14 := (V1.other W4 (Ne.symm ne_a1_b1))
  have z15 : n0 ≤ h4.size := (Nat.le_trans (Nat.le_trans Z0 E1.1) (Keep.of_wr W4).1)
  obtain ⟨cq12, iq12, iq12'⟩ := fq13.cell
  obtain ⟨_, _, ⟨T12, L12, k12, n12⟩, -, X12, ⟨Lc12, hQ12, l12, y12, z12⟩, st12⟩ := X9.privateBack hx (y := (⟨"com/example/krel/krel/saturation/AtomSet", "slotOf", "(I)I"⟩ : MethodName)) hown (mvT hZ (hw _ (List.mem_of_getElem? (i := 20) rfl))) (mvT hZ (hw _ (List.mem_of_getElem? (i := 21) rfl))) (own_selp (z := (⟨"com/example/krel/krel/saturation/AtomSet", "contains", "(I)Z"⟩ : MethodName)) (mvT hZ (hw _ (List.mem_of_getElem? (i := 18) rfl))) rfl (Cond.privateMethod_at (mvP hZ (hw _ (List.mem_of_getElem? (i := 22) rfl)) (args := #[]))) (mvT hZ (hw _ (List.mem_of_getElem? (i := 21) rfl))) (by decide)) (Cond.privateMethod_at (mvP hZ (hw _ (List.mem_of_getElem? (i := 22) rfl)) (args := #[]))) (mvT hZ (hw _ (List.mem_of_getElem? (i := 23) rfl))) (by decide) (backOf (W := 1) (rm1004 l Z a0 hw [] a1 e_c2_0 b1 k1 ([(0 : Int32), (0 : Int32), (0 : Int32), (0 : Int32), (0 : Int32), (0 : Int32), (0 : Int32), (0 : Int32), (0 : Int32), (0 : Int32), (0 : Int32), (0 : Int32), (0 : Int32), (0 : Int32), (0 : Int32), (0 : Int32)] : List Int32) h4 n0 z15 fq13 Fw4 fq14 rfl (side_8_28 e_c2_0 e_c2_1 e_c2_2 e_c2_3 e_c2_4 e_c2_5 e_c2_6 e_c2_7 hok)) hZ (hw _ (List.mem_of_getElem? (i := 23) rfl)) (hw _ (List.mem_of_getElem? (i := 3) rfl)) (by decide) (by decide)) (g := (mkF m 28 #[.val (.ref a1), .val (.int (16 : Int32)), .val (.int (0 : Int32))] [(.int e_c2_0), (.ref a1), (.ref b1)])) rfl (by rw [hml]; rfl) (Steps.refl _) (a := a1) (by rw [e9]; exact iq12) iq12' (argsL := [(.int e_c2_0)]) (rest := [(.ref b1)]) (lenOf pd_8_2 rfl) rfl (by show 2 * 0 + _ ≤ _; exact Nat.le_of_eq rfl) (hb hby d8_28) (fun _ _ => ⟨rfl, e9, (by decide : 1 + 0 ≤ _), (by decide : 16 + 0 ≤ _)⟩)
  dsimp only [Pt.U, Pt.locs, Pt.cells, Pt.slots] at X12 l12 y12 z12 st12 hQ12
  subst l12 y12 z12
  obtain ⟨rfl, N12q, e12⟩ := hQ12
  have N12 := Fr.app N4 N12q
  obtain ⟨T16, X16, e16, st16⟩ := getF X12 hx hZ hown (host := "") (Or.inl (hw _ (List.mem_of_getElem? (i := 13) rfl))) Via.refl e12 fq8 (g := (mkF m 32 #[.val (.ref a1), .val (.int (16 : Int32)), .val (.int (0 : Int32))] [(.ref a1), (.int (F1004 e_c2_0 ([(0 : Int32), (0 : Int32), (0 : Int32), (0 : Int32), (0 : Int32), (0 : Int32), (0 : Int32), (0 : Int32), (0 : Int32), (0 : Int32), (0 : Int32), (0 : Int32), (0 : Int32), (0 : Int32), (0 : Int32), (0 : Int32)] : List Int32))), (.ref b1)])) rfl rfl (hb hby d8_32)
  obtain ⟨cl17, Ar17, aq17, S17, M17, H17, G17⟩ := id fq10
  have hin17 : ¬ ((0 : Int32) < 0 ∨ cl17.slots.size ≤ ((0 : Int32)).toNatClampNeg) := inb_of S17 ⟨by decide, by decide⟩
  have hat17 : cl17.slots[((0 : Int32)).toNatClampNeg]? = some (.int e_c2_0) := Has.at H17 hin17 rfl
  have sd18 : ¬ ((F1004 e_c2_0 ([(0 : Int32), (0 : Int32), (0 : Int32), (0 : Int32), (0 : Int32), (0 : Int32), (0 : Int32), (0 : Int32), (0 : Int32), (0 : Int32), (0 : Int32), (0 : Int32), (0 : Int32), (0 : Int32), (0 : Int32), (0 : Int32)] : List Int32)) < 0) ∧ (F1004 e_c2_0 ([(0 : Int32), (0 : Int32), (0 : Int32), (0 : Int32), (0 : Int32), (0 : Int32), (0 : Int32), (0 : Int32), (0 : Int32), (0 : Int32), (0 : Int32), (0 : Int32), (0 : Int32), (0 : Int32), (0 : Int32), (0 : Int32)] : List Int32)) < (16 : Int32) := (side_8_39_18 e_c2_0 e_c2_1 e_c2_2 e_c2_3 e_c2_4 e_c2_5 e_c2_6 e_c2_7 hok)
  have Vo18 : Arv Z h4 b1 k1 .int (16 : Int32) (([(0 : Int32), (0 : Int32), (0 : Int32), (0 : Int32), (0 : Int32), (0 : Int32), (0 : Int32), (0 : Int32), (0 : Int32), (0 : Int32), (0 : Int32), (0 : Int32), (0 : Int32), (0 : Int32), (0 : Int32), (0 : Int32)] : List Int32).map Value.int) (.int (0 : Int32)) := fq14
  obtain ⟨cl18, Ar18, aq18, S18, M18, H18, G18⟩ := id fq14
  obtain ⟨T18, h18, X18, e18, W18, st18⟩ := stI X16 hx hZ e16 Ar18 (j := (F1004 e_c2_0 ([(0 : Int32), (0 : Int32), (0 : Int32), (0 : Int32), (0 : Int32), (0 : Int32), (0 : Int32), (0 : Int32), (0 : Int32), (0 : Int32), (0 : Int32), (0 : Int32), (0 : Int32), (0 : Int32), (0 : Int32), (0 : Int32)] : List Int32))) (inb_of S18 sd18) (g := (mkF m 39 #[.val (.ref a1), .val (.int (16 : Int32)), .val (.int (0 : Int32))] [(.int (e_c2_0 + (1 : Int32))), (.int (F1004 e_c2_0 ([(0 : Int32), (0 : Int32), (0 : Int32), (0 : Int32), (0 : Int32), (0 : Int32), (0 : Int32), (0 : Int32), (0 : Int32), (0 : Int32), (0 : Int32), (0 : Int32), (0 : Int32), (0 : Int32), (0 : Int32), (0 : Int32)] : List Int32))), (.ref b1)])) rfl rfl (hb hby d8_39)
  have hl18 : (own_L8_0 e_c2_0 e_c2_1 e_c2_2 e_c2_3 e_c2_4 e_c2_5 e_c2_6 e_c2_7).length = 16 := (List.length_set ..).trans rfl
  have V18 : Arv Z h18 b1 k1 .int (16 : Int32) ((own_L8_0 e_c2_0 e_c2_1 e_c2_2 e_c2_3 e_c2_4 e_c2_5 e_c2_6 e_c2_7).map Value.int) (.int (0 : Int32)) := own_setL Vo18 rfl W18 sd18
  have N18 := Fr.snoc X18 N12 g_b1
  have fq19 := (Fld.other W18 fq5 (Or.inl ne_a1_b1))
  obtain ⟨T20, X20, e20, st20⟩ := getF X18 hx hZ hown (host := "") (Or.inl (hw _ (List.mem_of_getElem? (i := 30) rfl))) Via.refl e18 fq19 (g := (mkF m 11 #[.val (.ref a1), .val (.int (16 : Int32)), .val (.int (1 : Int32))] [(.ref a1), (.int (1 : Int32))])) rfl rfl (hb hby d8_11)
  have fq21 := (Fld.other W18 Fw4 (Or.inl ne_a1_b1))
  obtain ⟨T22, X22, e22, st22⟩ := getF X20 hx hZ hown (host := "") (Or.inl (hw _ (List.mem_of_getElem? (i := 11) rfl))) Via.refl e20 fq21 (g := (mkF m 18 #[.val (.ref a1), .val (.int (16 : Int32)), .val (.int (1 : Int32))] [(.ref a1)])) rfl rfl (hb hby d8_18)
  have fq23 := (Fld.other W18 fq8 (Or.inl ne_a1_b1))
  obtain ⟨T24, X24, e24, st24⟩ := getF X22 hx hZ hown (host := "") (Or.inl (hw _ (List.mem_of_getElem? (i := 13) rfl))) Via.refl e22 fq23 (g := (mkF m 23 #[.val (.ref a1), .val (.int (16 : Int32)), .val (.int (1 : Int32))] [(.ref a1), (.ref a1), (.ref b1)])) rfl rfl (hb hby d8_23)
  have fq25 := (fq10.other W18 ne_c2_b1)
  obtain ⟨cl26, Ar26, aq26, S26, M26, H26, G26⟩ := id fq25
  have hin26 : ¬ ((1 : Int32) < 0 ∨ cl26.slots.size ≤ ((1 : Int32)).toNatClampNeg) := inb_of S26 ⟨by decide, by decide⟩
  have hat26 : cl26.slots[((1 : Int32)).toNatClampNeg]? = some (.int e_c2_1) := Has.at H26 hin26 rfl
  have fq28 := (Exa.wr W18 fq13)
  have z29 : n0 ≤ h18.size := (Nat.le_trans z15 (Keep.of_wr W18).1)
  obtain ⟨cq27, iq27, iq27'⟩ := fq28.cell
  obtain ⟨_, _, ⟨T27, L27, k27, n27⟩, -, X27, ⟨Lc27, hQ27, l27, y27, z27⟩, st27⟩ := X24.privateBack hx (y := (⟨"com/example/krel/krel/saturation/AtomSet", "slotOf", "(I)I"⟩ : MethodName)) hown (mvT hZ (hw _ (List.mem_of_getElem? (i := 20) rfl))) (mvT hZ (hw _ (List.mem_of_getElem? (i := 21) rfl))) (own_selp (z := (⟨"com/example/krel/krel/saturation/AtomSet", "contains", "(I)Z"⟩ : MethodName)) (mvT hZ (hw _ (List.mem_of_getElem? (i := 18) rfl))) rfl (Cond.privateMethod_at (mvP hZ (hw _ (List.mem_of_getElem? (i := 22) rfl)) (args := #[]))) (mvT hZ (hw _ (List.mem_of_getElem? (i := 21) rfl))) (by decide)) (Cond.privateMethod_at (mvP hZ (hw _ (List.mem_of_getElem? (i := 22) rfl)) (args := #[]))) (mvT hZ (hw _ (List.mem_of_getElem? (i := 23) rfl))) (by decide) (backOf (W := 1) (rm1004 l Z a0 hw [] a1 e_c2_1 b1 k1 (own_L8_0 e_c2_0 e_c2_1 e_c2_2 e_c2_3 e_c2_4 e_c2_5 e_c2_6 e_c2_7) h18 n0 z29 fq28 fq21 V18 hl18 (side_8_28_2 e_c2_0 e_c2_1 e_c2_2 e_c2_3 e_c2_4 e_c2_5 e_c2_6 e_c2_7 hok)) hZ (hw _ (List.mem_of_getElem? (i := 23) rfl)) (hw _ (List.mem_of_getElem? (i := 3) rfl)) (by decide) (by decide)) (g := (mkF m 28 #[.val (.ref a1), .val (.int (16 : Int32)), .val (.int (1 : Int32))] [(.int e_c2_1), (.ref a1), (.ref b1)])) rfl (by rw [hml]; rfl) (Steps.refl _) (a := a1) (by rw [e24]; exact iq27) iq27' (argsL := [(.int e_c2_1)]) (rest := [(.ref b1)]) (lenOf pd_8_2 rfl) rfl (by show 2 * 0 + _ ≤ _; exact Nat.le_of_eq rfl) (hb hby d8_28) (fun _ _ => ⟨rfl, e24, (by decide : 1 + 0 ≤ _), (by decide : 16 + 0 ≤ _)⟩)
  dsimp only [Pt.U, Pt.locs, Pt.cells, Pt.slots] at X27 l27 y27 z27 st27 hQ27
  subst l27 y27 z27
  obtain ⟨rfl, N27q, e27⟩ := hQ27
  have N27 := Fr.app N18 N27q
  obtain ⟨T30, X30, e30, st30⟩ := getF X27 hx hZ hown (host := "") (Or.inl (hw _ (List.mem_of_getElem? (i := 13) rfl))) Via.refl e27 fq23 (g := (mkF m 32 #[.val (.ref a1), .val (.int (16 : Int32)), .val (.int (1 : Int32))] [(.ref a1), (.int (F1004 e_c2_1 (own_L8_0 e_c2_0 e_c2_1 e_c2_2 e_c2_3 e_c2_4 e_c2_5 e_c2_6 e_c2_7))), (.ref b1)])) rfl rfl (hb hby d8_32)
  obtain ⟨cl31, Ar31, aq31, S31, M31, H31, G31⟩ := id fq25
  have hin31 : ¬ ((1 : Int32) < 0 ∨ cl31.slots.size ≤ ((1 : Int32)).toNatClampNeg) := inb_of S31 ⟨by decide, by decide⟩
  have hat31 : cl31.slots[((1 : Int32)).toNatClampNeg]? = some (.int e_c2_1) := Has.at H31 hin31 rfl
  have sd32 : ¬ ((F1004 e_c2_1 (own_L8_0 e_c2_0 e_c2_1 e_c2_2 e_c2_3 e_c2_4 e_c2_5 e_c2_6 e_c2_7)) < 0) ∧ (F1004 e_c2_1 (own_L8_0 e_c2_0 e_c2_1 e_c2_2 e_c2_3 e_c2_4 e_c2_5 e_c2_6 e_c2_7)) < (16 : Int32) := (side_8_39_32 e_c2_0 e_c2_1 e_c2_2 e_c2_3 e_c2_4 e_c2_5 e_c2_6 e_c2_7 hok)
  have Vo32 : Arv Z h18 b1 k1 .int (16 : Int32) ((own_L8_0 e_c2_0 e_c2_1 e_c2_2 e_c2_3 e_c2_4 e_c2_5 e_c2_6 e_c2_7).map Value.int) (.int (0 : Int32)) := V18
  obtain ⟨cl32, Ar32, aq32, S32, M32, H32, G32⟩ := id V18
  obtain ⟨T32, h32, X32, e32, W32, st32⟩ := stI X30 hx hZ e30 Ar32 (j := (F1004 e_c2_1 (own_L8_0 e_c2_0 e_c2_1 e_c2_2 e_c2_3 e_c2_4 e_c2_5 e_c2_6 e_c2_7))) (inb_of S32 sd32) (g := (mkF m 39 #[.val (.ref a1), .val (.int (16 : Int32)), .val (.int (1 : Int32))] [(.int (e_c2_1 + (1 : Int32))), (.int (F1004 e_c2_1 (own_L8_0 e_c2_0 e_c2_1 e_c2_2 e_c2_3 e_c2_4 e_c2_5 e_c2_6 e_c2_7))), (.ref b1)])) rfl rfl (hb hby d8_39)
  have hl32 : (own_L8_1 e_c2_0 e_c2_1 e_c2_2 e_c2_3 e_c2_4 e_c2_5 e_c2_6 e_c2_7).length = 16 := (List.length_set ..).trans hl18
  have V32 : Arv Z h32 b1 k1 .int (16 : Int32) ((own_L8_1 e_c2_0 e_c2_1 e_c2_2 e_c2_3 e_c2_4 e_c2_5 e_c2_6 e_c2_7).map Value.int) (.int (0 : Int32)) := own_setL Vo32 hl18 W32 sd32
  have N32 := Fr.snoc X32 N27 g_b1
  have fq33 := (Fld.other W32 fq19 (Or.inl ne_a1_b1))
  obtain ⟨T34, X34, e34, st34⟩ := getF X32 hx hZ hown (host := "") (Or.inl (hw _ (List.mem_of_getElem? (i := 30) rfl))) Via.refl e32 fq33 (g := (mkF m 11 #[.val (.ref a1), .val (.int (16 : Int32)), .val (.int (2 : Int32))] [(.ref a1), (.int (2 : Int32))])) rfl rfl (hb hby d8_11)
  have fq35 := (Fld.other W32 fq21 (Or.inl ne_a1_b1))
  obtain ⟨T36, X36, e36, st36⟩ := getF X34 hx hZ hown (host := "") (Or.inl (hw _ (List.mem_of_getElem? (i := 11) rfl))) Via.refl e34 fq35 (g := (mkF m 18 #[.val (.ref a1), .val (.int (16 : Int32)), .val (.int (2 : Int32))] [(.ref a1)])) rfl rfl (hb hby d8_18)
  have fq37 := (Fld.other W32 fq23 (Or.inl ne_a1_b1))
  obtain ⟨T38, X38, e38, st38⟩ := getF X36 hx hZ hown (host := "") (Or.inl (hw _ (List.mem_of_getElem? (i := 13) rfl))) Via.refl e36 fq37 (g := (mkF m 23 #[.val (.ref a1), .val (.int (16 : Int32)), .val (.int (2 : Int32))] [(.ref a1), (.ref a1), (.ref b1)])) rfl rfl (hb hby d8_23)
  have fq39 := (fq25.other W32 ne_c2_b1)
  obtain ⟨cl40, Ar40, aq40, S40, M40, H40, G40⟩ := id fq39
  have hin40 : ¬ ((2 : Int32) < 0 ∨ cl40.slots.size ≤ ((2 : Int32)).toNatClampNeg) := inb_of S40 ⟨by decide, by decide⟩
  have hat40 : cl40.slots[((2 : Int32)).toNatClampNeg]? = some (.int e_c2_2) := Has.at H40 hin40 rfl
  have fq42 := (Exa.wr W32 fq28)
  have z43 : n0 ≤ h32.size := (Nat.le_trans z29 (Keep.of_wr W32).1)
  obtain ⟨cq41, iq41, iq41'⟩ := fq42.cell
  obtain ⟨_, _, ⟨T41, L41, k41, n41⟩, -, X41, ⟨Lc41, hQ41, l41, y41, z41⟩, st41⟩ := X38.privateBack hx (y := (⟨"com/example/krel/krel/saturation/AtomSet", "slotOf", "(I)I"⟩ : MethodName)) hown (mvT hZ (hw _ (List.mem_of_getElem? (i := 20) rfl))) (mvT hZ (hw _ (List.mem_of_getElem? (i := 21) rfl))) (own_selp (z := (⟨"com/example/krel/krel/saturation/AtomSet", "contains", "(I)Z"⟩ : MethodName)) (mvT hZ (hw _ (List.mem_of_getElem? (i := 18) rfl))) rfl (Cond.privateMethod_at (mvP hZ (hw _ (List.mem_of_getElem? (i := 22) rfl)) (args := #[]))) (mvT hZ (hw _ (List.mem_of_getElem? (i := 21) rfl))) (by decide)) (Cond.privateMethod_at (mvP hZ (hw _ (List.mem_of_getElem? (i := 22) rfl)) (args := #[]))) (mvT hZ (hw _ (List.mem_of_getElem? (i := 23) rfl))) (by decide) (backOf (W := 1) (rm1004 l Z a0 hw [] a1 e_c2_2 b1 k1 (own_L8_1 e_c2_0 e_c2_1 e_c2_2 e_c2_3 e_c2_4 e_c2_5 e_c2_6 e_c2_7) h32 n0 z43 fq42 fq35 V32 hl32 (side_8_28_3 e_c2_0 e_c2_1 e_c2_2 e_c2_3 e_c2_4 e_c2_5 e_c2_6 e_c2_7 hok)) hZ (hw _ (List.mem_of_getElem? (i := 23) rfl)) (hw _ (List.mem_of_getElem? (i := 3) rfl)) (by decide) (by decide)) (g := (mkF m 28 #[.val (.ref a1), .val (.int (16 : Int32)), .val (.int (2 : Int32))] [(.int e_c2_2), (.ref a1), (.ref b1)])) rfl (by rw [hml]; rfl) (Steps.refl _) (a := a1) (by rw [e38]; exact iq41) iq41' (argsL := [(.int e_c2_2)]) (rest := [(.ref b1)]) (lenOf pd_8_2 rfl) rfl (by show 2 * 0 + _ ≤ _; exact Nat.le_of_eq rfl) (hb hby d8_28) (fun _ _ => ⟨rfl, e38, (by decide : 1 + 0 ≤ _), (by decide : 16 + 0 ≤ _)⟩)
  dsimp only [Pt.U, Pt.locs, Pt.cells, Pt.slots] at X41 l41 y41 z41 st41 hQ41
  subst l41 y41 z41
  obtain ⟨rfl, N41q, e41⟩ := hQ41
  have N41 := Fr.app N32 N41q
  obtain ⟨T44, X44, e44, st44⟩ := getF X41 hx hZ hown (host := "") (Or.inl (hw _ (List.mem_of_getElem? (i := 13) rfl))) Via.refl e41 fq37 (g := (mkF m 32 #[.val (.ref a1), .val (.int (16 : Int32)), .val (.int (2 : Int32))] [(.ref a1), (.int (F1004 e_c2_2 (own_L8_1 e_c2_0 e_c2_1 e_c2_2 e_c2_3 e_c2_4 e_c2_5 e_c2_6 e_c2_7))), (.ref b1)])) rfl rfl (hb hby d8_32)
  obtain ⟨cl45, Ar45, aq45, S45, M45, H45, G45⟩ := id fq39
  have hin45 : ¬ ((2 : Int32) < 0 ∨ cl45.slots.size ≤ ((2 : Int32)).toNatClampNeg) := inb_of S45 ⟨by decide, by decide⟩
  have hat45 : cl45.slots[((2 : Int32)).toNatClampNeg]? = some (.int e_c2_2) := Has.at H45 hin45 rfl
  have sd46 : ¬ ((F1004 e_c2_2 (own_L8_1 e_c2_0 e_c2_1 e_c2_2 e_c2_3 e_c2_4 e_c2_5 e_c2_6 e_c2_7)) < 0) ∧ (F1004 e_c2_2 (own_L8_1 e_c2_0 e_c2_1 e_c2_2 e_c2_3 e_c2_4 e_c2_5 e_c2_6 e_c2_7)) < (16 : Int32) := (side_8_39_46 e_c2_0 e_c2_1 e_c2_2 e_c2_3 e_c2_4 e_c2_5 e_c2_6 e_c2_7 hok)
  have Vo46 : Arv Z h32 b1 k1 .int (16 : Int32) ((own_L8_1 e_c2_0 e_c2_1 e_c2_2 e_c2_3 e_c2_4 e_c2_5 e_c2_6 e_c2_7).map Value.int) (.int (0 : Int32)) := V32
  obtain ⟨cl46, Ar46, aq46, S46, M46, H46, G46⟩ := id V32
  obtain ⟨T46, h46, X46, e46, W46, st46⟩ := stI X44 hx hZ e44 Ar46 (j := (F1004 e_c2_2 (own_L8_1 e_c2_0 e_c2_1 e_c2_2 e_c2_3 e_c2_4 e_c2_5 e_c2_6 e_c2_7))) (inb_of S46 sd46) (g := (mkF m 39 #[.val (.ref a1), .val (.int (16 : Int32)), .val (.int (2 : Int32))] [(.int (e_c2_2 + (1 : Int32))), (.int (F1004 e_c2_2 (own_L8_1 e_c2_0 e_c2_1 e_c2_2 e_c2_3 e_c2_4 e_c2_5 e_c2_6 e_c2_7))), (.ref b1)])) rfl rfl (hb hby d8_39)
  have hl46 : (own_L8_2 e_c2_0 e_c2_1 e_c2_2 e_c2_3 e_c2_4 e_c2_5 e_c2_6 e_c2_7).length = 16 := (List.length_set ..).trans hl32
  have V46 : Arv Z h46 b1 k1 .int (16 : Int32) ((own_L8_2 e_c2_0 e_c2_1 e_c2_2 e_c2_3 e_c2_4 e_c2_5 e_c2_6 e_c2_7).map Value.int) (.int (0 : Int32)) := own_setL Vo46 hl32 W46 sd46
  have N46 := Fr.snoc X46 N41 g_b1
  have fq47 := (Fld.other W46 fq33 (Or.inl ne_a1_b1))
  obtain ⟨T48, X48, e48, st48⟩ := getF X46 hx hZ hown (host := "") (Or.inl (hw _ (List.mem_of_getElem? (i := 30) rfl))) Via.refl e46 fq47 (g := (mkF m 11 #[.val (.ref a1), .val (.int (16 : Int32)), .val (.int (3 : Int32))] [(.ref a1), (.int (3 : Int32))])) rfl rfl (hb hby d8_11)
  have fq49 := (Fld.other W46 fq35 (Or.inl ne_a1_b1))
  obtain ⟨T50, X50, e50, st50⟩ := getF X48 hx hZ hown (host := "") (Or.inl (hw _ (List.mem_of_getElem? (i := 11) rfl))) Via.refl e48 fq49 (g := (mkF m 18 #[.val (.ref a1), .val (.int (16 : Int32)), .val (.int (3 : Int32))] [(.ref a1)])) rfl rfl (hb hby d8_18)
  have fq51 := (Fld.other W46 fq37 (Or.inl ne_a1_b1))
  obtain ⟨T52, X52, e52, st52⟩ := getF X50 hx hZ hown (host := "") (Or.inl (hw _ (List.mem_of_getElem? (i := 13) rfl))) Via.refl e50 fq51 (g := (mkF m 23 #[.val (.ref a1), .val (.int (16 : Int32)), .val (.int (3 : Int32))] [(.ref a1), (.ref a1), (.ref b1)])) rfl rfl (hb hby d8_23)
  have fq53 := (fq39.other W46 ne_c2_b1)
  obtain ⟨cl54, Ar54, aq54, S54, M54, H54, G54⟩ := id fq53
  have hin54 : ¬ ((3 : Int32) < 0 ∨ cl54.slots.size ≤ ((3 : Int32)).toNatClampNeg) := inb_of S54 ⟨by decide, by decide⟩
  have hat54 : cl54.slots[((3 : Int32)).toNatClampNeg]? = some (.int e_c2_3) := Has.at H54 hin54 rfl
  have fq56 := (Exa.wr W46 fq42)
  have z57 : n0 ≤ h46.size := (Nat.le_trans z43 (Keep.of_wr W46).1)
  obtain ⟨cq55, iq55, iq55'⟩ := fq56.cell
  obtain ⟨_, _, ⟨T55, L55, k55, n55⟩, -, X55, ⟨Lc55, hQ55, l55, y55, z55⟩, st55⟩ := X52.privateBack hx (y := (⟨"com/example/krel/krel/saturation/AtomSet", "slotOf", "(I)I"⟩ : MethodName)) hown (mvT hZ (hw _ (List.mem_of_getElem? (i := 20) rfl))) (mvT hZ (hw _ (List.mem_of_getElem? (i := 21) rfl))) (own_selp (z := (⟨"com/example/krel/krel/saturation/AtomSet", "contains", "(I)Z"⟩ : MethodName)) (mvT hZ (hw _ (List.mem_of_getElem? (i := 18) rfl))) rfl (Cond.privateMethod_at (mvP hZ (hw _ (List.mem_of_getElem? (i := 22) rfl)) (args := #[]))) (mvT hZ (hw _ (List.mem_of_getElem? (i := 21) rfl))) (by decide)) (Cond.privateMethod_at (mvP hZ (hw _ (List.mem_of_getElem? (i := 22) rfl)) (args := #[]))) (mvT hZ (hw _ (List.mem_of_getElem? (i := 23) rfl))) (by decide) (backOf (W := 1) (rm1004 l Z a0 hw [] a1 e_c2_3 b1 k1 (own_L8_2 e_c2_0 e_c2_1 e_c2_2 e_c2_3 e_c2_4 e_c2_5 e_c2_6 e_c2_7) h46 n0 z57 fq56 fq49 V46 hl46 (side_8_28_4 e_c2_0 e_c2_1 e_c2_2 e_c2_3 e_c2_4 e_c2_5 e_c2_6 e_c2_7 hok)) hZ (hw _ (List.mem_of_getElem? (i := 23) rfl)) (hw _ (List.mem_of_getElem? (i := 3) rfl)) (by decide) (by decide)) (g := (mkF m 28 #[.val (.ref a1), .val (.int (16 : Int32)), .val (.int (3 : Int32))] [(.int e_c2_3), (.ref a1), (.ref b1)])) rfl (by rw [hml]; rfl) (Steps.refl _) (a := a1) (by rw [e52]; exact iq55) iq55' (argsL := [(.int e_c2_3)]) (rest := [(.ref b1)]) (lenOf pd_8_2 rfl) rfl (by show 2 * 0 + _ ≤ _; exact Nat.le_of_eq rfl) (hb hby d8_28) (fun _ _ => ⟨rfl, e52, (by decide : 1 + 0 ≤ _), (by decide : 16 + 0 ≤ _)⟩)
  dsimp only [Pt.U, Pt.locs, Pt.cells, Pt.slots] at X55 l55 y55 z55 st55 hQ55
  subst l55 y55 z55
  obtain ⟨rfl, N55q, e55⟩ := hQ55
  have N55 := Fr.app N46 N55q
  obtain ⟨T58, X58, e58, st58⟩ := getF X55 hx hZ hown (host := "") (Or.inl (hw _ (List.mem_of_getElem? (i := 13) rfl))) Via.refl e55 fq51 (g := (mkF m 32 #[.val (.ref a1), .val (.int (16 : Int32)), .val (.int (3 : Int32))] [(.ref a1), (.int (F1004 e_c2_3 (own_L8_2 e_c2_0 e_c2_1 e_c2_2 e_c2_3 e_c2_4 e_c2_5 e_c2_6 e_c2_7))), (.ref b1)])) rfl rfl (hb hby d8_32)
  obtain ⟨cl59, Ar59, aq59, S59, M59, H59, G59⟩ := id fq53
  have hin59 : ¬ ((3 : Int32) < 0 ∨ cl59.slots.size ≤ ((3 : Int32)).toNatClampNeg) := inb_of S59 ⟨by decide, by decide⟩
  have hat59 : cl59.slots[((3 : Int32)).toNatClampNeg]? = some (.int e_c2_3) := Has.at H59 hin59 rfl
  have sd60 : ¬ ((F1004 e_c2_3 (own_L8_2 e_c2_0 e_c2_1 e_c2_2 e_c2_3 e_c2_4 e_c2_5 e_c2_6 e_c2_7)) < 0) ∧ (F1004 e_c2_3 (own_L8_2 e_c2_0 e_c2_1 e_c2_2 e_c2_3 e_c2_4 e_c2_5 e_c2_6 e_c2_7)) < (16 : Int32) := (side_8_39_60 e_c2_0 e_c2_1 e_c2_2 e_c2_3 e_c2_4 e_c2_5 e_c2_6 e_c2_7 hok)
  have Vo60 : Arv Z h46 b1 k1 .int (16 : Int32) ((own_L8_2 e_c2_0 e_c2_1 e_c2_2 e_c2_3 e_c2_4 e_c2_5 e_c2_6 e_c2_7).map Value.int) (.int (0 : Int32)) := V46
  obtain ⟨cl60, Ar60, aq60, S60, M60, H60, G60⟩ := id V46
  obtain ⟨T60, h60, X60, e60, W60, st60⟩ := stI X58 hx hZ e58 Ar60 (j := (F1004 e_c2_3 (own_L8_2 e_c2_0 e_c2_1 e_c2_2 e_c2_3 e_c2_4 e_c2_5 e_c2_6 e_c2_7))) (inb_of S60 sd60) (g := (mkF m 39 #[.val (.ref a1), .val (.int (16 : Int32)), .val (.int (3 : Int32))] [(.int (e_c2_3 + (1 : Int32))), (.int (F1004 e_c2_3 (own_L8_2 e_c2_0 e_c2_1 e_c2_2 e_c2_3 e_c2_4 e_c2_5 e_c2_6 e_c2_7))), (.ref b1)])) rfl rfl (hb hby d8_39)
  have hl60 : (own_L8_3 e_c2_0 e_c2_1 e_c2_2 e_c2_3 e_c2_4 e_c2_5 e_c2_6 e_c2_7).length = 16 := (List.length_set ..).trans hl46
  have V60 : Arv Z h60 b1 k1 .int (16 : Int32) ((own_L8_3 e_c2_0 e_c2_1 e_c2_2 e_c2_3 e_c2_4 e_c2_5 e_c2_6 e_c2_7).map Value.int) (.int (0 : Int32)) := own_setL Vo60 hl46 W60 sd60
  have N60 := Fr.snoc X60 N55 g_b1
  have fq61 := (Fld.other W60 fq47 (Or.inl ne_a1_b1))
  obtain ⟨T62, X62, e62, st62⟩ := getF X60 hx hZ hown (host := "") (Or.inl (hw _ (List.mem_of_getElem? (i := 30) rfl))) Via.refl e60 fq61 (g := (mkF m 11 #[.val (.ref a1), .val (.int (16 : Int32)), .val (.int (4 : Int32))] [(.ref a1), (.int (4 : Int32))])) rfl rfl (hb hby d8_11)
  have fq63 := (Fld.other W60 fq49 (Or.inl ne_a1_b1))
  obtain ⟨T64, X64, e64, st64⟩ := getF X62 hx hZ hown (host := "") (Or.inl (hw _ (List.mem_of_getElem? (i := 11) rfl))) Via.refl e62 fq63 (g := (mkF m 18 #[.val (.ref a1), .val (.int (16 : Int32)), .val (.int (4 : Int32))] [(.ref a1)])) rfl rfl (hb hby d8_18)
  have fq65 := (Fld.other W60 fq51 (Or.inl ne_a1_b1))
  obtain ⟨T66, X66, e66, st66⟩ := getF X64 hx hZ hown (host := "") (Or.inl (hw _ (List.mem_of_getElem? (i := 13) rfl))) Via.refl e64 fq65 (g := (mkF m 23 #[.val (.ref a1), .val (.int (16 : Int32)), .val (.int (4 : Int32))] [(.ref a1), (.ref a1), (.ref b1)])) rfl rfl (hb hby d8_23)
  have fq67 := (fq53.other W60 ne_c2_b1)
  obtain ⟨cl68, Ar68, aq68, S68, M68, H68, G68⟩ := id fq67
  have hin68 : ¬ ((4 : Int32) < 0 ∨ cl68.slots.size ≤ ((4 : Int32)).toNatClampNeg) := inb_of S68 ⟨by decide, by decide⟩
  have hat68 : cl68.slots[((4 : Int32)).toNatClampNeg]? = some (.int e_c2_4) := Has.at H68 hin68 rfl
  have fq70 := (Exa.wr W60 fq56)
  have z71 : n0 ≤ h60.size := (Nat.le_trans z57 (Keep.of_wr W60).1)
  obtain ⟨cq69, iq69, iq69'⟩ := fq70.cell
  obtain ⟨_, _, ⟨T69, L69, k69, n69⟩, -, X69, ⟨Lc69, hQ69, l69, y69, z69⟩, st69⟩ := X66.privateBack hx (y := (⟨"com/example/krel/krel/saturation/AtomSet", "slotOf", "(I)I"⟩ : MethodName)) hown (mvT hZ (hw _ (List.mem_of_getElem? (i := 20) rfl))) (mvT hZ (hw _ (List.mem_of_getElem? (i := 21) rfl))) (own_selp (z := (⟨"com/example/krel/krel/saturation/AtomSet", "contains", "(I)Z"⟩ : MethodName)) (mvT hZ (hw _ (List.mem_of_getElem? (i := 18) rfl))) rfl (Cond.privateMethod_at (mvP hZ (hw _ (List.mem_of_getElem? (i := 22) rfl)) (args := #[]))) (mvT hZ (hw _ (List.mem_of_getElem? (i := 21) rfl))) (by decide)) (Cond.privateMethod_at (mvP hZ (hw _ (List.mem_of_getElem? (i := 22) rfl)) (args := #[]))) (mvT hZ (hw _ (List.mem_of_getElem? (i := 23) rfl))) (by decide) (backOf (W := 1) (rm1004 l Z a0 hw [] a1 e_c2_4 b1 k1 (own_L8_3 e_c2_0 e_c2_1 e_c2_2 e_c2_3 e_c2_4 e_c2_5 e_c2_6 e_c2_7) h60 n0 z71 fq70 fq63 V60 hl60 (side_8_28_5 e_c2_0 e_c2_1 e_c2_2 e_c2_3 e_c2_4 e_c2_5 e_c2_6 e_c2_7 hok)) hZ (hw _ (List.mem_of_getElem? (i := 23) rfl)) (hw _ (List.mem_of_getElem? (i := 3) rfl)) (by decide) (by decide)) (g := (mkF m 28 #[.val (.ref a1), .val (.int (16 : Int32)), .val (.int (4 : Int32))] [(.int e_c2_4), (.ref a1), (.ref b1)])) rfl (by rw [hml]; rfl) (Steps.refl _) (a := a1) (by rw [e66]; exact iq69) iq69' (argsL := [(.int e_c2_4)]) (rest := [(.ref b1)]) (lenOf pd_8_2 rfl) rfl (by show 2 * 0 + _ ≤ _; exact Nat.le_of_eq rfl) (hb hby d8_28) (fun _ _ => ⟨rfl, e66, (by decide : 1 + 0 ≤ _), (by decide : 16 + 0 ≤ _)⟩)
  dsimp only [Pt.U, Pt.locs, Pt.cells, Pt.slots] at X69 l69 y69 z69 st69 hQ69
  subst l69 y69 z69
  obtain ⟨rfl, N69q, e69⟩ := hQ69
  have N69 := Fr.app N60 N69q
  obtain ⟨T72, X72, e72, st72⟩ := getF X69 hx hZ hown (host := "") (Or.inl (hw _ (List.mem_of_getElem? (i := 13) rfl))) Via.refl e69 fq65 (g := (mkF m 32 #[.val (.ref a1), .val (.int (16 : Int32)), .val (.int (4 : Int32))] [(.ref a1), (.int (F1004 e_c2_4 (own_L8_3 e_c2_0 e_c2_1 e_c2_2 e_c2_3 e_c2_4 e_c2_5 e_c2_6 e_c2_7))), (.ref b1)])) rfl rfl (hb hby d8_32)
  obtain ⟨cl73, Ar73, aq73, S73, M73, H73, G73⟩ := id fq67
  have hin73 : ¬ ((4 : Int32) < 0 ∨ cl73.slots.size ≤ ((4 : Int32)).toNatClampNeg) := inb_of S73 ⟨by decide, by decide⟩
  have hat73 : cl73.slots[((4 : Int32)).toNatClampNeg]? = some (.int e_c2_4) := Has.at H73 hin73 rfl
  have sd74 : ¬ ((F1004 e_c2_4 (own_L8_3 e_c2_0 e_c2_1 e_c2_2 e_c2_3 e_c2_4 e_c2_5 e_c2_6 e_c2_7)) < 0) ∧ (F1004 e_c2_4 (own_L8_3 e_c2_0 e_c2_1 e_c2_2 e_c2_3 e_c2_4 e_c2_5 e_c2_6 e_c2_7)) < (16 : Int32) := (side_8_39_74 e_c2_0 e_c2_1 e_c2_2 e_c2_3 e_c2_4 e_c2_5 e_c2_6 e_c2_7 hok)
  have Vo74 : Arv Z h60 b1 k1 .int (16 : Int32) ((own_L8_3 e_c2_0 e_c2_1 e_c2_2 e_c2_3 e_c2_4 e_c2_5 e_c2_6 e_c2_7).map Value.int) (.int (0 : Int32)) := V60
  obtain ⟨cl74, Ar74, aq74, S74, M74, H74, G74⟩ := id V60
  obtain ⟨T74, h74, X74, e74, W74, st74⟩ := stI X72 hx hZ e72 Ar74 (j := (F1004 e_c2_4 (own_L8_3 e_c2_0 e_c2_1 e_c2_2 e_c2_3 e_c2_4 e_c2_5 e_c2_6 e_c2_7))) (inb_of S74 sd74) (g := (mkF m 39 #[.val (.ref a1), .val (.int (16 : Int32)), .val (.int (4 : Int32))] [(.int (e_c2_4 + (1 : Int32))), (.int (F1004 e_c2_4 (own_L8_3 e_c2_0 e_c2_1 e_c2_2 e_c2_3 e_c2_4 e_c2_5 e_c2_6 e_c2_7))), (.ref b1)])) rfl rfl (hb hby d8_39)
  have hl74 : (own_L8_4 e_c2_0 e_c2_1 e_c2_2 e_c2_3 e_c2_4 e_c2_5 e_c2_6 e_c2_7).length = 16 := (List.length_set ..).trans hl60
  have V74 : Arv Z h74 b1 k1 .int (16 : Int32) ((own_L8_4 e_c2_0 e_c2_1 e_c2_2 e_c2_3 e_c2_4 e_c2_5 e_c2_6 e_c2_7).map Value.int) (.int (0 : Int32)) := own_setL Vo74 hl60 W74 sd74
  have N74 := Fr.snoc X74 N69 g_b1
  have fq75 := (Fld.other W74 fq61 (Or.inl ne_a1_b1))
  obtain ⟨T76, X76, e76, st76⟩ := getF X74 hx hZ hown (host := "") (Or.inl (hw _ (List.mem_of_getElem? (i := 30) rfl))) Via.refl e74 fq75 (g := (mkF m 11 #[.val (.ref a1), .val (.int (16 : Int32)), .val (.int (5 : Int32))] [(.ref a1), (.int (5 : Int32))])) rfl rfl (hb hby d8_11)
  have k77 : Keep h0 h74 [a1] := ((((((((Keep.refl h0 [a1]).ext E1).wr W4 (Or.inl (by simp))).wr W18 (Or.inr sz_b1)).wr W32 (Or.inr sz_b1)).wr W46 (Or.inr sz_b1)).wr W60 (Or.inr sz_b1)).wr W74 (Or.inr sz_b1))
  have fq78 := (Exa.wr W74 fq70)
  have fq79 := (Fld.other W74 fq65 (Or.inl ne_a1_b1))
  have fq80 := (Fld.other W74 fq63 (Or.inl ne_a1_b1))
  obtain ⟨fs, hr, hrun, hended, hW, hsame⟩ := X76.leave (v := none) (fun _ => rfl)
  refine ⟨_, _, pre0 _ ?_, hrun, hended, _, _, rfl, ?_, ⟨_, rfl⟩, hW, hsame.mono (by decide) (by decide)⟩
  · show Steps p.tables e below (s₁.setTop (mkF m 0 #[.val (.ref a1), .val (.int (16 : Int32)), .unset] [])) _
    refine XS.aloadN X0.here hx rfl (hb hby d8_0) rfl rfl ?_
    show Steps p.tables e below (s₁.setTop (mkF m 1 #[.val (.ref a1), .val (.int (16 : Int32)), .unset] [(.ref a1)])) _
    refine XS.iloadN X0.here hx rfl (hb hby d8_1) rfl ?_
    show Steps p.tables e below (s₁.setTop (mkF m 2 #[.val (.ref a1), .val (.int (16 : Int32)), .unset] [(.int (16 : Int32)), (.ref a1)])) _
    refine st1 _ ?_
    show Steps p.tables e below (T1.setTop (mkF m 4 #[.val (.ref a1), .val (.int (16 : Int32)), .unset] [(.ref b1), (.ref a1)])) _
    refine st4 _ ?_
    show Steps p.tables e below (T4.setTop (mkF m 7 #[.val (.ref a1), .val (.int (16 : Int32)), .unset] [])) _
    refine XS.iconst X4.here hx rfl (hb hby d8_7) ?_
    show Steps p.tables e below (T4.setTop (mkF m 8 #[.val (.ref a1), .val (.int (16 : Int32)), .unset] [(.int (0 : Int32))])) _
    refine XS.istoreN X4.here hx rfl (hb hby d8_8) rfl (l' := #[.val (.ref a1), .val (.int (16 : Int32)), .val (.int (0 : Int32))]) rfl ?_
    show Steps p.tables e below (T4.setTop (mkF m 9 #[.val (.ref a1), .val (.int (16 : Int32)), .val (.int (0 : Int32))] [])) _
    refine XS.iloadN X4.here hx rfl (hb hby d8_9) rfl ?_
    show Steps p.tables e below (T4.setTop (mkF m 10 #[.val (.ref a1), .val (.int (16 : Int32)), .val (.int (0 : Int32))] [(.int (0 : Int32))])) _
    refine XS.aloadN X4.here hx rfl (hb hby d8_10) rfl rfl ?_
    show Steps p.tables e below (T4.setTop (mkF m 11 #[.val (.ref a1), .val (.int (16 : Int32)), .val (.int (0 : Int32))] [(.ref a1), (.int (0 : Int32))])) _
    refine st6 _ ?_
    show Steps p.tables e below (T6.setTop (mkF m 14 #[.val (.ref a1), .val (.int (16 : Int32)), .val (.int (0 : Int32))] [(.int (5 : Int32)), (.int (0 : Int32))])) _
    refine XS.icmpNo X6.here hx rfl (hb hby d8_14) rfl (tlt (by decide : (0 : Int32) < (5 : Int32))).2.1 ?_
    show Steps p.tables e below (T6.setTop (mkF m 17 #[.val (.ref a1), .val (.int (16 : Int32)), .val (.int (0 : Int32))] [])) _
    refine XS.aloadN X6.here hx rfl (hb hby d8_17) rfl rfl ?_
    show Steps p.tables e below (T6.setTop (mkF m 18 #[.val (.ref a1), .val (.int (16 : Int32)), .val (.int (0 : Int32))] [(.ref a1)])) _
    refine st7 _ ?_
    show Steps p.tables e below (T7.setTop (mkF m 21 #[.val (.ref a1), .val (.int (16 : Int32)), .val (.int (0 : Int32))] [(.ref b1)])) _
    refine XS.aloadN X7.here hx rfl (hb hby d8_21) rfl rfl ?_
    show Steps p.tables e below (T7.setTop (mkF m 22 #[.val (.ref a1), .val (.int (16 : Int32)), .val (.int (0 : Int32))] [(.ref a1), (.ref b1)])) _
    refine XS.aloadN X7.here hx rfl (hb hby d8_22) rfl rfl ?_
    show Steps p.tables e below (T7.setTop (mkF m 23 #[.val (.ref a1), .val (.int (16 : Int32)), .val (.int (0 : Int32))] [(.ref a1), (.ref a1), (.ref b1)])) _
    refine st9 _ ?_
    show Steps p.tables e below (T9.setTop (mkF m 26 #[.val (.ref a1), .val (.int (16 : Int32)), .val (.int (0 : Int32))] [(.ref c2), (.ref a1), (.ref b1)])) _
    refine XS.iloadN X9.here hx rfl (hb hby d8_26) rfl ?_
    show Steps p.tables e below (T9.setTop (mkF m 27 #[.val (.ref a1), .val (.int (16 : Int32)), .val (.int (0 : Int32))] [(.int (0 : Int32)), (.ref c2), (.ref a1), (.ref b1)])) _
    refine X9.iaload hx (j := (0 : Int32)) (v := (.int e_c2_0)) (by rw [e9]; exact Ar11.1) (State.isArrayOf_alike hZ.alike Ar11.2.1) Ar11.2.2 hin11 hat11 (g := (mkF m 27 #[.val (.ref a1), .val (.int (16 : Int32)), .val (.int (0 : Int32))] [(.int (0 : Int32)), (.ref c2), (.ref a1), (.ref b1)])) rfl rfl (hb hby d8_27) _ ?_
    show Steps p.tables e below (T9.setTop (mkF m 28 #[.val (.ref a1), .val (.int (16 : Int32)), .val (.int (0 : Int32))] [(.int e_c2_0), (.ref a1), (.ref b1)])) _
    refine st12.trans ?_
    show Steps p.tables e below (T12.setTop (mkF m 31 #[.val (.ref a1), .val (.int (16 : Int32)), .val (.int (0 : Int32))] [(.int (F1004 e_c2_0 ([(0 : Int32), (0 : Int32), (0 : Int32), (0 : Int32), (0 : Int32), (0 : Int32), (0 : Int32), (0 : Int32), (0 : Int32), (0 : Int32), (0 : Int32), (0 : Int32), (0 : Int32), (0 : Int32), (0 : Int32), (0 : Int32)] : List Int32))), (.ref b1)])) _
    refine XS.aloadN X12.here hx rfl (hb hby d8_31) rfl rfl ?_
    show Steps p.tables e below (T12.setTop (mkF m 32 #[.val (.ref a1), .val (.int (16 : Int32)), .val (.int (0 : Int32))] [(.ref a1), (.int (F1004 e_c2_0 ([(0 : Int32), (0 : Int32), (0 : Int32), (0 : Int32), (0 : Int32), (0 : Int32), (0 : Int32), (0 : Int32), (0 : Int32), (0 : Int32), (0 : Int32), (0 : Int32), (0 : Int32), (0 : Int32), (0 : Int32), (0 : Int32)] : List Int32))), (.ref b1)])) _
    refine st16 _ ?_
    show Steps p.tables e below (T16.setTop (mkF m 35 #[.val (.ref a1), .val (.int (16 : Int32)), .val (.int (0 : Int32))] [(.ref c2), (.int (F1004 e_c2_0 ([(0 : Int32), (0 : Int32), (0 : Int32), (0 : Int32), (0 : Int32), (0 : Int32), (0 : Int32), (0 : Int32), (0 : Int32), (0 : Int32), (0 : Int32), (0 : Int32), (0 : Int32), (0 : Int32), (0 : Int32), (0 : Int32)] : List Int32))), (.ref b1)])) _
    refine XS.iloadN X16.here hx rfl (hb hby d8_35) rfl ?_
    show Steps p.tables e below (T16.setTop (mkF m 36 #[.val (.ref a1), .val (.int (16 : Int32)), .val (.int (0 : Int32))] [(.int (0 : Int32)), (.ref c2), (.int (F1004 e_c2_0 ([(0 : Int32), (0 : Int32), (0 : Int32), (0 : Int32), (0 : Int32), (0 : Int32), (0 : Int32), (0 : Int32), (0 : Int32), (0 : Int32), (0 : Int32), (0 : Int32), (0 : Int32), (0 : Int32), (0 : Int32), (0 : Int32)] : List Int32))), (.ref b1)])) _
    refine X16.iaload hx (j := (0 : Int32)) (v := (.int e_c2_0)) (by rw [e16]; exact Ar17.1) (State.isArrayOf_alike hZ.alike Ar17.2.1) Ar17.2.2 hin17 hat17 (g := (mkF m 36 #[.val (.ref a1), .val (.int (16 : Int32)), .val (.int (0 : Int32))] [(.int (0 : Int32)), (.ref c2), (.int (F1004 e_c2_0 ([(0 : Int32), (0 : Int32), (0 : Int32), (0 : Int32), (0 : Int32), (0 : Int32), (0 : Int32), (0 : Int32), (0 : Int32), (0 : Int32), (0 : Int32), (0 : Int32), (0 : Int32), (0 : Int32), (0 : Int32), (0 : Int32)] : List Int32))), (.ref b1)])) rfl rfl (hb hby d8_36) _ ?_
    show Steps p.tables e below (T16.setTop (mkF m 37 #[.val (.ref a1), .val (.int (16 : Int32)), .val (.int (0 : Int32))] [(.int e_c2_0), (.int (F1004 e_c2_0 ([(0 : Int32), (0 : Int32), (0 : Int32), (0 : Int32), (0 : Int32), (0 : Int32), (0 : Int32), (0 : Int32), (0 : Int32), (0 : Int32), (0 : Int32), (0 : Int32), (0 : Int32), (0 : Int32), (0 : Int32), (0 : Int32)] : List Int32))), (.ref b1)])) _
    refine XS.iconst X16.here hx rfl (hb hby d8_37) ?_
    show Steps p.tables e below (T16.setTop (mkF m 38 #[.val (.ref a1), .val (.int (16 : Int32)), .val (.int (0 : Int32))] [(.int (1 : Int32)), (.int e_c2_0), (.int (F1004 e_c2_0 ([(0 : Int32), (0 : Int32), (0 : Int32), (0 : Int32), (0 : Int32), (0 : Int32), (0 : Int32), (0 : Int32), (0 : Int32), (0 : Int32), (0 : Int32), (0 : Int32), (0 : Int32), (0 : Int32), (0 : Int32), (0 : Int32)] : List Int32))), (.ref b1)])) _
    refine XS.iadd X16.here hx rfl (hb hby d8_38) rfl ?_
    show Steps p.tables e below (T16.setTop (mkF m 39 #[.val (.ref a1), .val (.int (16 : Int32)), .val (.int (0 : Int32))] [(.int (e_c2_0 + (1 : Int32))), (.int (F1004 e_c2_0 ([(0 : Int32), (0 : Int32), (0 : Int32), (0 : Int32), (0 : Int32), (0 : Int32), (0 : Int32), (0 : Int32), (0 : Int32), (0 : Int32), (0 : Int32), (0 : Int32), (0 : Int32), (0 : Int32), (0 : Int32), (0 : Int32)] : List Int32))), (.ref b1)])) _
    refine st18 _ ?_
    show Steps p.tables e below (T18.setTop (mkF m 40 #[.val (.ref a1), .val (.int (16 : Int32)), .val (.int (0 : Int32))] [])) _
    refine XS.iinc X18.here hx rfl (hb hby d8_40) rfl (l' := #[.val (.ref a1), .val (.int (16 : Int32)), .val (.int (1 : Int32))]) rfl ?_
    show Steps p.tables e below (T18.setTop (mkF m 43 #[.val (.ref a1), .val (.int (16 : Int32)), .val (.int (1 : Int32))] [])) _
    refine XS.goto X18.here hx rfl (pc0 := 43) (pc' := 9) rfl (hb hby d8_43) (by decide) (by decide) ?_
    show Steps p.tables e below (T18.setTop (mkF m 9 #[.val (.ref a1), .val (.int (16 : Int32)), .val (.int (1 : Int32))] [])) _
    refine XS.iloadN X18.here hx rfl (hb hby d8_9) rfl ?_
    show Steps p.tables e below (T18.setTop (mkF m 10 #[.val (.ref a1), .val (.int (16 : Int32)), .val (.int (1 : Int32))] [(.int (1 : Int32))])) _
    refine XS.aloadN X18.here hx rfl (hb hby d8_10) rfl rfl ?_
    show Steps p.tables e below (T18.setTop (mkF m 11 #[.val (.ref a1), .val (.int (16 : Int32)), .val (.int (1 : Int32))] [(.ref a1), (.int (1 : Int32))])) _
    refine st20 _ ?_
    show Steps p.tables e below (T20.setTop (mkF m 14 #[.val (.ref a1), .val (.int (16 : Int32)), .val (.int (1 : Int32))] [(.int (5 : Int32)), (.int (1 : Int32))])) _
    refine XS.icmpNo X20.here hx rfl (hb hby d8_14) rfl (tlt (by decide : (1 : Int32) < (5 : Int32))).2.1 ?_
    show Steps p.tables e below (T20.setTop (mkF m 17 #[.val (.ref a1), .val (.int (16 : Int32)), .val (.int (1 : Int32))] [])) _
    refine XS.aloadN X20.here hx rfl (hb hby d8_17) rfl rfl ?_
    show Steps p.tables e below (T20.setTop (mkF m 18 #[.val (.ref a1), .val (.int (16 : Int32)), .val (.int (1 : Int32))] [(.ref a1)])) _
    refine st22 _ ?_
    show Steps p.tables e below (T22.setTop (mkF m 21 #[.val (.ref a1), .val (.int (16 : Int32)), .val (.int (1 : Int32))] [(.ref b1)])) _
    refine XS.aloadN X22.here hx rfl (hb hby d8_21) rfl rfl ?_
    show Steps p.tables e below (T22.setTop (mkF m 22 #[.val (.ref a1), .val (.int (16 : Int32)), .val (.int (1 : Int32))] [(.ref a1), (.ref b1)])) _
    refine XS.aloadN X22.here hx rfl (hb hby d8_22) rfl rfl ?_
    show Steps p.tables e below (T22.setTop (mkF m 23 #[.val (.ref a1), .val (.int (16 : Int32)), .val (.int (1 : Int32))] [(.ref a1), (.ref a1), (.ref b1)])) _
    refine st24 _ ?_
    show Steps p.tables e below (T24.setTop (mkF m 26 #[.val (.ref a1), .val (.int (16 : Int32)), .val (.int (1 : Int32))] [(.ref c2), (.ref a1), (.ref b1)])) _
    refine XS.iloadN X24.here hx rfl (hb hby d8_26) rfl ?_
    show Steps p.tables e below (T24.setTop (mkF m 27 #[.val (.ref a1), .val (.int (16 : Int32)), .val (.int (1 : Int32))] [(.int (1 : Int32)), (.ref c2), (.ref a1), (.ref b1)])) _
    refine X24.iaload hx (j := (1 : Int32)) (v := (.int e_c2_1)) (by rw [e24]; exact Ar26.1) (State.isArrayOf_alike hZ.alike Ar26.2.1) Ar26.2.2 hin26 hat26 (g := (mkF m 27 #[.val (.ref a1), .val (.int (16 : Int32)), .val (.int (1 : Int32))] [(.int (1 : Int32)), (.ref c2), (.ref a1), (.ref b1)])) rfl rfl (hb hby d8_27) _ ?_
    show Steps p.tables e below (T24.setTop (mkF m 28 #[.val (.ref a1), .val (.int (16 : Int32)), .val (.int (1 : Int32))] [(.int e_c2_1), (.ref a1), (.ref b1)])) _
    refine st27.trans ?_
    show Steps p.tables e below (T27.setTop (mkF m 31 #[.val (.ref a1), .val (.int (16 : Int32)), .val (.int (1 : Int32))] [(.int (F1004 e_c2_1 (own_L8_0 e_c2_0 e_c2_1 e_c2_2 e_c2_3 e_c2_4 e_c2_5 e_c2_6 e_c2_7))), (.ref b1)])) _
    refine XS.aloadN X27.here hx rfl (hb hby d8_31) rfl rfl ?_
    show Steps p.tables e below (T27.setTop (mkF m 32 #[.val (.ref a1), .val (.int (16 : Int32)), .val (.int (1 : Int32))] [(.ref a1), (.int (F1004 e_c2_1 (own_L8_0 e_c2_0 e_c2_1 e_c2_2 e_c2_3 e_c2_4 e_c2_5 e_c2_6 e_c2_7))), (.ref b1)])) _
    refine st30 _ ?_
    show Steps p.tables e below (T30.setTop (mkF m 35 #[.val (.ref a1), .val (.int (16 : Int32)), .val (.int (1 : Int32))] [(.ref c2), (.int (F1004 e_c2_1 (own_L8_0 e_c2_0 e_c2_1 e_c2_2 e_c2_3 e_c2_4 e_c2_5 e_c2_6 e_c2_7))), (.ref b1)])) _
    refine XS.iloadN X30.here hx rfl (hb hby d8_35) rfl ?_
    show Steps p.tables e below (T30.setTop (mkF m 36 #[.val (.ref a1), .val (.int (16 : Int32)), .val (.int (1 : Int32))] [(.int (1 : Int32)), (.ref c2), (.int (F1004 e_c2_1 (own_L8_0 e_c2_0 e_c2_1 e_c2_2 e_c2_3 e_c2_4 e_c2_5 e_c2_6 e_c2_7))), (.ref b1)])) _
    refine X30.iaload hx (j := (1 : Int32)) (v := (.int e_c2_1)) (by rw [e30]; exact Ar31.1) (State.isArrayOf_alike hZ.alike Ar31.2.1) Ar31.2.2 hin31 hat31 (g := (mkF m 36 #[.val (.ref a1), .val (.int (16 : Int32)), .val (.int (1 : Int32))] [(.int (1 : Int32)), (.ref c2), (.int (F1004 e_c2_1 (own_L8_0 e_c2_0 e_c2_1 e_c2_2 e_c2_3 e_c2_4 e_c2_5 e_c2_6 e_c2_7))), (.ref b1)])) rfl rfl (hb hby d8_36) _ ?_
    show Steps p.tables e below (T30.setTop (mkF m 37 #[.val (.ref a1), .val (.int (16 : Int32)), .val (.int (1 : Int32))] [(.int e_c2_1), (.int (F1004 e_c2_1 (own_L8_0 e_c2_0 e_c2_1 e_c2_2 e_c2_3 e_c2_4 e_c2_5 e_c2_6 e_c2_7))), (.ref b1)])) _
    refine XS.iconst X30.here hx rfl (hb hby d8_37) ?_
    show Steps p.tables e below (T30.setTop (mkF m 38 #[.val (.ref a1), .val (.int (16 : Int32)), .val (.int (1 : Int32))] [(.int (1 : Int32)), (.int e_c2_1), (.int (F1004 e_c2_1 (own_L8_0 e_c2_0 e_c2_1 e_c2_2 e_c2_3 e_c2_4 e_c2_5 e_c2_6 e_c2_7))), (.ref b1)])) _
    refine XS.iadd X30.here hx rfl (hb hby d8_38) rfl ?_
    show Steps p.tables e below (T30.setTop (mkF m 39 #[.val (.ref a1), .val (.int (16 : Int32)), .val (.int (1 : Int32))] [(.int (e_c2_1 + (1 : Int32))), (.int (F1004 e_c2_1 (own_L8_0 e_c2_0 e_c2_1 e_c2_2 e_c2_3 e_c2_4 e_c2_5 e_c2_6 e_c2_7))), (.ref b1)])) _
    refine st32 _ ?_
    show Steps p.tables e below (T32.setTop (mkF m 40 #[.val (.ref a1), .val (.int (16 : Int32)), .val (.int (1 : Int32))] [])) _
    refine XS.iinc X32.here hx rfl (hb hby d8_40) rfl (l' := #[.val (.ref a1), .val (.int (16 : Int32)), .val (.int (2 : Int32))]) rfl ?_
    show Steps p.tables e below (T32.setTop (mkF m 43 #[.val (.ref a1), .val (.int (16 : Int32)), .val (.int (2 : Int32))] [])) _
    refine XS.goto X32.here hx rfl (pc0 := 43) (pc' := 9) rfl (hb hby d8_43) (by decide) (by decide) ?_
    show Steps p.tables e below (T32.setTop (mkF m 9 #[.val (.ref a1), .val (.int (16 : Int32)), .val (.int (2 : Int32))] [])) _
    refine XS.iloadN X32.here hx rfl (hb hby d8_9) rfl ?_
    show Steps p.tables e below (T32.setTop (mkF m 10 #[.val (.ref a1), .val (.int (16 : Int32)), .val (.int (2 : Int32))] [(.int (2 : Int32))])) _
    refine XS.aloadN X32.here hx rfl (hb hby d8_10) rfl rfl ?_
    show Steps p.tables e below (T32.setTop (mkF m 11 #[.val (.ref a1), .val (.int (16 : Int32)), .val (.int (2 : Int32))] [(.ref a1), (.int (2 : Int32))])) _
    refine st34 _ ?_
    show Steps p.tables e below (T34.setTop (mkF m 14 #[.val (.ref a1), .val (.int (16 : Int32)), .val (.int (2 : Int32))] [(.int (5 : Int32)), (.int (2 : Int32))])) _
    refine XS.icmpNo X34.here hx rfl (hb hby d8_14) rfl (tlt (by decide : (2 : Int32) < (5 : Int32))).2.1 ?_
    show Steps p.tables e below (T34.setTop (mkF m 17 #[.val (.ref a1), .val (.int (16 : Int32)), .val (.int (2 : Int32))] [])) _
    refine XS.aloadN X34.here hx rfl (hb hby d8_17) rfl rfl ?_
    show Steps p.tables e below (T34.setTop (mkF m 18 #[.val (.ref a1), .val (.int (16 : Int32)), .val (.int (2 : Int32))] [(.ref a1)])) _
    refine st36 _ ?_
    show Steps p.tables e below (T36.setTop (mkF m 21 #[.val (.ref a1), .val (.int (16 : Int32)), .val (.int (2 : Int32))] [(.ref b1)])) _
    refine XS.aloadN X36.here hx rfl (hb hby d8_21) rfl rfl ?_
    show Steps p.tables e below (T36.setTop (mkF m 22 #[.val (.ref a1), .val (.int (16 : Int32)), .val (.int (2 : Int32))] [(.ref a1), (.ref b1)])) _
    refine XS.aloadN X36.here hx rfl (hb hby d8_22) rfl rfl ?_
    show Steps p.tables e below (T36.setTop (mkF m 23 #[.val (.ref a1), .val (.int (16 : Int32)), .val (.int (2 : Int32))] [(.ref a1), (.ref a1), (.ref b1)])) _
    refine st38 _ ?_
    show Steps p.tables e below (T38.setTop (mkF m 26 #[.val (.ref a1), .val (.int (16 : Int32)), .val (.int (2 : Int32))] [(.ref c2), (.ref a1), (.ref b1)])) _
    refine XS.iloadN X38.here hx rfl (hb hby d8_26) rfl ?_
    show Steps p.tables e below (T38.setTop (mkF m 27 #[.val (.ref a1), .val (.int (16 : Int32)), .val (.int (2 : Int32))] [(.int (2 : Int32)), (.ref c2), (.ref a1), (.ref b1)])) _
    refine X38.iaload hx (j := (2 : Int32)) (v := (.int e_c2_2)) (by rw [e38]; exact Ar40.1) (State.isArrayOf_alike hZ.alike Ar40.2.1) Ar40.2.2 hin40 hat40 (g := (mkF m 27 #[.val (.ref a1), .val (.int (16 : Int32)), .val (.int (2 : Int32))] [(.int (2 : Int32)), (.ref c2), (.ref a1), (.ref b1)])) rfl rfl (hb hby d8_27) _ ?_
    show Steps p.tables e below (T38.setTop (mkF m 28 #[.val (.ref a1), .val (.int (16 : Int32)), .val (.int (2 : Int32))] [(.int e_c2_2), (.ref a1), (.ref b1)])) _
    refine st41.trans ?_
    show Steps p.tables e below (T41.setTop (mkF m 31 #[.val (.ref a1), .val (.int (16 : Int32)), .val (.int (2 : Int32))] [(.int (F1004 e_c2_2 (own_L8_1 e_c2_0 e_c2_1 e_c2_2 e_c2_3 e_c2_4 e_c2_5 e_c2_6 e_c2_7))), (.ref b1)])) _
    refine XS.aloadN X41.here hx rfl (hb hby d8_31) rfl rfl ?_
    show Steps p.tables e below (T41.setTop (mkF m 32 #[.val (.ref a1), .val (.int (16 : Int32)), .val (.int (2 : Int32))] [(.ref a1), (.int (F1004 e_c2_2 (own_L8_1 e_c2_0 e_c2_1 e_c2_2 e_c2_3 e_c2_4 e_c2_5 e_c2_6 e_c2_7))), (.ref b1)])) _
    refine st44 _ ?_
    show Steps p.tables e below (T44.setTop (mkF m 35 #[.val (.ref a1), .val (.int (16 : Int32)), .val (.int (2 : Int32))] [(.ref c2), (.int (F1004 e_c2_2 (own_L8_1 e_c2_0 e_c2_1 e_c2_2 e_c2_3 e_c2_4 e_c2_5 e_c2_6 e_c2_7))), (.ref b1)])) _
    refine XS.iloadN X44.here hx rfl (hb hby d8_35) rfl ?_
    show Steps p.tables e below (T44.setTop (mkF m 36 #[.val (.ref a1), .val (.int (16 : Int32)), .val (.int (2 : Int32))] [(.int (2 : Int32)), (.ref c2), (.int (F1004 e_c2_2 (own_L8_1 e_c2_0 e_c2_1 e_c2_2 e_c2_3 e_c2_4 e_c2_5 e_c2_6 e_c2_7))), (.ref b1)])) _
    refine X44.iaload hx (j := (2 : Int32)) (v := (.int e_c2_2)) (by rw [e44]; exact Ar45.1) (State.isArrayOf_alike hZ.alike Ar45.2.1) Ar45.2.2 hin45 hat45 (g := (mkF m 36 #[.val (.ref a1), .val (.int (16 : Int32)), .val (.int (2 : Int32))] [(.int (2 : Int32)), (.ref c2), (.int (F1004 e_c2_2 (own_L8_1 e_c2_0 e_c2_1 e_c2_2 e_c2_3 e_c2_4 e_c2_5 e_c2_6 e_c2_7))), (.ref b1)])) rfl rfl (hb hby d8_36) _ ?_
    show Steps p.tables e below (T44.setTop (mkF m 37 #[.val (.ref a1), .val (.int (16 : Int32)), .val (.int (2 : Int32))] [(.int e_c2_2), (.int (F1004 e_c2_2 (own_L8_1 e_c2_0 e_c2_1 e_c2_2 e_c2_3 e_c2_4 e_c2_5 e_c2_6 e_c2_7))), (.ref b1)])) _
    refine XS.iconst X44.here hx rfl (hb hby d8_37) ?_
    show Steps p.tables e below (T44.setTop (mkF m 38 #[.val (.ref a1), .val (.int (16 : Int32)), .val (.int (2 : Int32))] [(.int (1 : Int32)), (.int e_c2_2), (.int (F1004 e_c2_2 (own_L8_1 e_c2_0 e_c2_1 e_c2_2 e_c2_3 e_c2_4 e_c2_5 e_c2_6 e_c2_7))), (.ref b1)])) _
    refine XS.iadd X44.here hx rfl (hb hby d8_38) rfl ?_
    show Steps p.tables e below (T44.setTop (mkF m 39 #[.val (.ref a1), .val (.int (16 : Int32)), .val (.int (2 : Int32))] [(.int (e_c2_2 + (1 : Int32))), (.int (F1004 e_c2_2 (own_L8_1 e_c2_0 e_c2_1 e_c2_2 e_c2_3 e_c2_4 e_c2_5 e_c2_6 e_c2_7))), (.ref b1)])) _
    refine st46 _ ?_
    show Steps p.tables e below (T46.setTop (mkF m 40 #[.val (.ref a1), .val (.int (16 : Int32)), .val (.int (2 : Int32))] [])) _
    refine XS.iinc X46.here hx rfl (hb hby d8_40) rfl (l' := #[.val (.ref a1), .val (.int (16 : Int32)), .val (.int (3 : Int32))]) rfl ?_
    show Steps p.tables e below (T46.setTop (mkF m 43 #[.val (.ref a1), .val (.int (16 : Int32)), .val (.int (3 : Int32))] [])) _
    refine XS.goto X46.here hx rfl (pc0 := 43) (pc' := 9) rfl (hb hby d8_43) (by decide) (by decide) ?_
    show Steps p.tables e below (T46.setTop (mkF m 9 #[.val (.ref a1), .val (.int (16 : Int32)), .val (.int (3 : Int32))] [])) _
    refine XS.iloadN X46.here hx rfl (hb hby d8_9) rfl ?_
    show Steps p.tables e below (T46.setTop (mkF m 10 #[.val (.ref a1), .val (.int (16 : Int32)), .val (.int (3 : Int32))] [(.int (3 : Int32))])) _
    refine XS.aloadN X46.here hx rfl (hb hby d8_10) rfl rfl ?_
    show Steps p.tables e below (T46.setTop (mkF m 11 #[.val (.ref a1), .val (.int (16 : Int32)), .val (.int (3 : Int32))] [(.ref a1), (.int (3 : Int32))])) _
    refine st48 _ ?_
    show Steps p.tables e below (T48.setTop (mkF m 14 #[.val (.ref a1), .val (.int (16 : Int32)), .val (.int (3 : Int32))] [(.int (5 : Int32)), (.int (3 : Int32))])) _
    refine XS.icmpNo X48.here hx rfl (hb hby d8_14) rfl (tlt (by decide : (3 : Int32) < (5 : Int32))).2.1 ?_
    show Steps p.tables e below (T48.setTop (mkF m 17 #[.val (.ref a1), .val (.int (16 : Int32)), .val (.int (3 : Int32))] [])) _
    refine XS.aloadN X48.here hx rfl (hb hby d8_17) rfl rfl ?_
    show Steps p.tables e below (T48.setTop (mkF m 18 #[.val (.ref a1), .val (.int (16 : Int32)), .val (.int (3 : Int32))] [(.ref a1)])) _
    refine st50 _ ?_
    show Steps p.tables e below (T50.setTop (mkF m 21 #[.val (.ref a1), .val (.int (16 : Int32)), .val (.int (3 : Int32))] [(.ref b1)])) _
    refine XS.aloadN X50.here hx rfl (hb hby d8_21) rfl rfl ?_
    show Steps p.tables e below (T50.setTop (mkF m 22 #[.val (.ref a1), .val (.int (16 : Int32)), .val (.int (3 : Int32))] [(.ref a1), (.ref b1)])) _
    refine XS.aloadN X50.here hx rfl (hb hby d8_22) rfl rfl ?_
    show Steps p.tables e below (T50.setTop (mkF m 23 #[.val (.ref a1), .val (.int (16 : Int32)), .val (.int (3 : Int32))] [(.ref a1), (.ref a1), (.ref b1)])) _
    refine st52 _ ?_
    show Steps p.tables e below (T52.setTop (mkF m 26 #[.val (.ref a1), .val (.int (16 : Int32)), .val (.int (3 : Int32))] [(.ref c2), (.ref a1), (.ref b1)])) _
    refine XS.iloadN X52.here hx rfl (hb hby d8_26) rfl ?_
    show Steps p.tables e below (T52.setTop (mkF m 27 #[.val (.ref a1), .val (.int (16 : Int32)), .val (.int (3 : Int32))] [(.int (3 : Int32)), (.ref c2), (.ref a1), (.ref b1)])) _
    refine X52.iaload hx (j := (3 : Int32)) (v := (.int e_c2_3)) (by rw [e52]; exact Ar54.1) (State.isArrayOf_alike hZ.alike Ar54.2.1) Ar54.2.2 hin54 hat54 (g := (mkF m 27 #[.val (.ref a1), .val (.int (16 : Int32)), .val (.int (3 : Int32))] [(.int (3 : Int32)), (.ref c2), (.ref a1), (.ref b1)])) rfl rfl (hb hby d8_27) _ ?_
    show Steps p.tables e below (T52.setTop (mkF m 28 #[.val (.ref a1), .val (.int (16 : Int32)), .val (.int (3 : Int32))] [(.int e_c2_3), (.ref a1), (.ref b1)])) _
    refine st55.trans ?_
    show Steps p.tables e below (T55.setTop (mkF m 31 #[.val (.ref a1), .val (.int (16 : Int32)), .val (.int (3 : Int32))] [(.int (F1004 e_c2_3 (own_L8_2 e_c2_0 e_c2_1 e_c2_2 e_c2_3 e_c2_4 e_c2_5 e_c2_6 e_c2_7))), (.ref b1)])) _
    refine XS.aloadN X55.here hx rfl (hb hby d8_31) rfl rfl ?_
    show Steps p.tables e below (T55.setTop (mkF m 32 #[.val (.ref a1), .val (.int (16 : Int32)), .val (.int (3 : Int32))] [(.ref a1), (.int (F1004 e_c2_3 (own_L8_2 e_c2_0 e_c2_1 e_c2_2 e_c2_3 e_c2_4 e_c2_5 e_c2_6 e_c2_7))), (.ref b1)])) _
    refine st58 _ ?_
    show Steps p.tables e below (T58.setTop (mkF m 35 #[.val (.ref a1), .val (.int (16 : Int32)), .val (.int (3 : Int32))] [(.ref c2), (.int (F1004 e_c2_3 (own_L8_2 e_c2_0 e_c2_1 e_c2_2 e_c2_3 e_c2_4 e_c2_5 e_c2_6 e_c2_7))), (.ref b1)])) _
    refine XS.iloadN X58.here hx rfl (hb hby d8_35) rfl ?_
    show Steps p.tables e below (T58.setTop (mkF m 36 #[.val (.ref a1), .val (.int (16 : Int32)), .val (.int (3 : Int32))] [(.int (3 : Int32)), (.ref c2), (.int (F1004 e_c2_3 (own_L8_2 e_c2_0 e_c2_1 e_c2_2 e_c2_3 e_c2_4 e_c2_5 e_c2_6 e_c2_7))), (.ref b1)])) _
    refine X58.iaload hx (j := (3 : Int32)) (v := (.int e_c2_3)) (by rw [e58]; exact Ar59.1) (State.isArrayOf_alike hZ.alike Ar59.2.1) Ar59.2.2 hin59 hat59 (g := (mkF m 36 #[.val (.ref a1), .val (.int (16 : Int32)), .val (.int (3 : Int32))] [(.int (3 : Int32)), (.ref c2), (.int (F1004 e_c2_3 (own_L8_2 e_c2_0 e_c2_1 e_c2_2 e_c2_3 e_c2_4 e_c2_5 e_c2_6 e_c2_7))), (.ref b1)])) rfl rfl (hb hby d8_36) _ ?_
    show Steps p.tables e below (T58.setTop (mkF m 37 #[.val (.ref a1), .val (.int (16 : Int32)), .val (.int (3 : Int32))] [(.int e_c2_3), (.int (F1004 e_c2_3 (own_L8_2 e_c2_0 e_c2_1 e_c2_2 e_c2_3 e_c2_4 e_c2_5 e_c2_6 e_c2_7))), (.ref b1)])) _
    refine XS.iconst X58.here hx rfl (hb hby d8_37) ?_
    show Steps p.tables e below (T58.setTop (mkF m 38 #[.val (.ref a1), .val (.int (16 : Int32)), .val (.int (3 : Int32))] [(.int (1 : Int32)), (.int e_c2_3), (.int (F1004 e_c2_3 (own_L8_2 e_c2_0 e_c2_1 e_c2_2 e_c2_3 e_c2_4 e_c2_5 e_c2_6 e_c2_7))), (.ref b1)])) _
    refine XS.iadd X58.here hx rfl (hb hby d8_38) rfl ?_
    show Steps p.tables e below (T58.setTop (mkF m 39 #[.val (.ref a1), .val (.int (16 : Int32)), .val (.int (3 : Int32))] [(.int (e_c2_3 + (1 : Int32))), (.int (F1004 e_c2_3 (own_L8_2 e_c2_0 e_c2_1 e_c2_2 e_c2_3 e_c2_4 e_c2_5 e_c2_6 e_c2_7))), (.ref b1)])) _
    refine st60 _ ?_
    show Steps p.tables e below (T60.setTop (mkF m 40 #[.val (.ref a1), .val (.int (16 : Int32)), .val (.int (3 : Int32))] [])) _
    refine XS.iinc X60.here hx rfl (hb hby d8_40) rfl (l' := #[.val (.ref a1), .val (.int (16 : Int32)), .val (.int (4 : Int32))]) rfl ?_
    show Steps p.tables e below (T60.setTop (mkF m 43 #[.val (.ref a1), .val (.int (16 : Int32)), .val (.int (4 : Int32))] [])) _
    refine XS.goto X60.here hx rfl (pc0 := 43) (pc' := 9) rfl (hb hby d8_43) (by decide) (by decide) ?_
    show Steps p.tables e below (T60.setTop (mkF m 9 #[.val (.ref a1), .val (.int (16 : Int32)), .val (.int (4 : Int32))] [])) _
    refine XS.iloadN X60.here hx rfl (hb hby d8_9) rfl ?_
    show Steps p.tables e below (T60.setTop (mkF m 10 #[.val (.ref a1), .val (.int (16 : Int32)), .val (.int (4 : Int32))] [(.int (4 : Int32))])) _
    refine XS.aloadN X60.here hx rfl (hb hby d8_10) rfl rfl ?_
    show Steps p.tables e below (T60.setTop (mkF m 11 #[.val (.ref a1), .val (.int (16 : Int32)), .val (.int (4 : Int32))] [(.ref a1), (.int (4 : Int32))])) _
    refine st62 _ ?_
    show Steps p.tables e below (T62.setTop (mkF m 14 #[.val (.ref a1), .val (.int (16 : Int32)), .val (.int (4 : Int32))] [(.int (5 : Int32)), (.int (4 : Int32))])) _
    refine XS.icmpNo X62.here hx rfl (hb hby d8_14) rfl (tlt (by decide : (4 : Int32) < (5 : Int32))).2.1 ?_
    show Steps p.tables e below (T62.setTop (mkF m 17 #[.val (.ref a1), .val (.int (16 : Int32)), .val (.int (4 : Int32))] [])) _
    refine XS.aloadN X62.here hx rfl (hb hby d8_17) rfl rfl ?_
    show Steps p.tables e below (T62.setTop (mkF m 18 #[.val (.ref a1), .val (.int (16 : Int32)), .val (.int (4 : Int32))] [(.ref a1)])) _
    refine st64 _ ?_
    show Steps p.tables e below (T64.setTop (mkF m 21 #[.val (.ref a1), .val (.int (16 : Int32)), .val (.int (4 : Int32))] [(.ref b1)])) _
    refine XS.aloadN X64.here hx rfl (hb hby d8_21) rfl rfl ?_
    show Steps p.tables e below (T64.setTop (mkF m 22 #[.val (.ref a1), .val (.int (16 : Int32)), .val (.int (4 : Int32))] [(.ref a1), (.ref b1)])) _
    refine XS.aloadN X64.here hx rfl (hb hby d8_22) rfl rfl ?_
    show Steps p.tables e below (T64.setTop (mkF m 23 #[.val (.ref a1), .val (.int (16 : Int32)), .val (.int (4 : Int32))] [(.ref a1), (.ref a1), (.ref b1)])) _
    refine st66 _ ?_
    show Steps p.tables e below (T66.setTop (mkF m 26 #[.val (.ref a1), .val (.int (16 : Int32)), .val (.int (4 : Int32))] [(.ref c2), (.ref a1), (.ref b1)])) _
    refine XS.iloadN X66.here hx rfl (hb hby d8_26) rfl ?_
    show Steps p.tables e below (T66.setTop (mkF m 27 #[.val (.ref a1), .val (.int (16 : Int32)), .val (.int (4 : Int32))] [(.int (4 : Int32)), (.ref c2), (.ref a1), (.ref b1)])) _
    refine X66.iaload hx (j := (4 : Int32)) (v := (.int e_c2_4)) (by rw [e66]; exact Ar68.1) (State.isArrayOf_alike hZ.alike Ar68.2.1) Ar68.2.2 hin68 hat68 (g := (mkF m 27 #[.val (.ref a1), .val (.int (16 : Int32)), .val (.int (4 : Int32))] [(.int (4 : Int32)), (.ref c2), (.ref a1), (.ref b1)])) rfl rfl (hb hby d8_27) _ ?_
    show Steps p.tables e below (T66.setTop (mkF m 28 #[.val (.ref a1), .val (.int (16 : Int32)), .val (.int (4 : Int32))] [(.int e_c2_4), (.ref a1), (.ref b1)])) _
    refine st69.trans ?_
    show Steps p.tables e below (T69.setTop (mkF m 31 #[.val (.ref a1), .val (.int (16 : Int32)), .val (.int (4 : Int32))] [(.int (F1004 e_c2_4 (own_L8_3 e_c2_0 e_c2_1 e_c2_2 e_c2_3 e_c2_4 e_c2_5 e_c2_6 e_c2_7))), (.ref b1)])) _
    refine XS.aloadN X69.here hx rfl (hb hby d8_31) rfl rfl ?_
    show Steps p.tables e below (T69.setTop (mkF m 32 #[.val (.ref a1), .val (.int (16 : Int32)), .val (.int (4 : Int32))] [(.ref a1), (.int (F1004 e_c2_4 (own_L8_3 e_c2_0 e_c2_1 e_c2_2 e_c2_3 e_c2_4 e_c2_5 e_c2_6 e_c2_7))), (.ref b1)])) _
    refine st72 _ ?_
    show Steps p.tables e below (T72.setTop (mkF m 35 #[.val (.ref a1), .val (.int (16 : Int32)), .val (.int (4 : Int32))] [(.ref c2), (.int (F1004 e_c2_4 (own_L8_3 e_c2_0 e_c2_1 e_c2_2 e_c2_3 e_c2_4 e_c2_5 e_c2_6 e_c2_7))), (.ref b1)])) _
    refine XS.iloadN X72.here hx rfl (hb hby d8_35) rfl ?_
    show Steps p.tables e below (T72.setTop (mkF m 36 #[.val (.ref a1), .val (.int (16 : Int32)), .val (.int (4 : Int32))] [(.int (4 : Int32)), (.ref c2), (.int (F1004 e_c2_4 (own_L8_3 e_c2_0 e_c2_1 e_c2_2 e_c2_3 e_c2_4 e_c2_5 e_c2_6 e_c2_7))), (.ref b1)])) _
    refine X72.iaload hx (j := (4 : Int32)) (v := (.int e_c2_4)) (by rw [e72]; exact Ar73.1) (State.isArrayOf_alike hZ.alike Ar73.2.1) Ar73.2.2 hin73 hat73 (g := (mkF m 36 #[.val (.ref a1), .val (.int (16 : Int32)), .val (.int (4 : Int32))] [(.int (4 : Int32)), (.ref c2), (.int (F1004 e_c2_4 (own_L8_3 e_c2_0 e_c2_1 e_c2_2 e_c2_3 e_c2_4 e_c2_5 e_c2_6 e_c2_7))), (.ref b1)])) rfl rfl (hb hby d8_36) _ ?_
    show Steps p.tables e below (T72.setTop (mkF m 37 #[.val (.ref a1), .val (.int (16 : Int32)), .val (.int (4 : Int32))] [(.int e_c2_4), (.int (F1004 e_c2_4 (own_L8_3 e_c2_0 e_c2_1 e_c2_2 e_c2_3 e_c2_4 e_c2_5 e_c2_6 e_c2_7))), (.ref b1)])) _
    refine XS.iconst X72.here hx rfl (hb hby d8_37) ?_
    show Steps p.tables e below (T72.setTop (mkF m 38 #[.val (.ref a1), .val (.int (16 : Int32)), .val (.int (4 : Int32))] [(.int (1 : Int32)), (.int e_c2_4), (.int (F1004 e_c2_4 (own_L8_3 e_c2_0 e_c2_1 e_c2_2 e_c2_3 e_c2_4 e_c2_5 e_c2_6 e_c2_7))), (.ref b1)])) _
    refine XS.iadd X72.here hx rfl (hb hby d8_38) rfl ?_
    show Steps p.tables e below (T72.setTop (mkF m 39 #[.val (.ref a1), .val (.int (16 : Int32)), .val (.int (4 : Int32))] [(.int (e_c2_4 + (1 : Int32))), (.int (F1004 e_c2_4 (own_L8_3 e_c2_0 e_c2_1 e_c2_2 e_c2_3 e_c2_4 e_c2_5 e_c2_6 e_c2_7))), (.ref b1)])) _
    refine st74 _ ?_
    show Steps p.tables e below (T74.setTop (mkF m 40 #[.val (.ref a1), .val (.int (16 : Int32)), .val (.int (4 : Int32))] [])) _
    refine XS.iinc X74.here hx rfl (hb hby d8_40) rfl (l' := #[.val (.ref a1), .val (.int (16 : Int32)), .val (.int (5 : Int32))]) rfl ?_
    show Steps p.tables e below (T74.setTop (mkF m 43 #[.val (.ref a1), .val (.int (16 : Int32)), .val (.int (5 : Int32))] [])) _
    refine XS.goto X74.here hx rfl (pc0 := 43) (pc' := 9) rfl (hb hby d8_43) (by decide) (by decide) ?_
    show Steps p.tables e below (T74.setTop (mkF m 9 #[.val (.ref a1), .val (.int (16 : Int32)), .val (.int (5 : Int32))] [])) _
    refine XS.iloadN X74.here hx rfl (hb hby d8_9) rfl ?_
    show Steps p.tables e below (T74.setTop (mkF m 10 #[.val (.ref a1), .val (.int (16 : Int32)), .val (.int (5 : Int32))] [(.int (5 : Int32))])) _
    refine XS.aloadN X74.here hx rfl (hb hby d8_10) rfl rfl ?_
    show Steps p.tables e below (T74.setTop (mkF m 11 #[.val (.ref a1), .val (.int (16 : Int32)), .val (.int (5 : Int32))] [(.ref a1), (.int (5 : Int32))])) _
    refine st76 _ ?_
    show Steps p.tables e below (T76.setTop (mkF m 14 #[.val (.ref a1), .val (.int (16 : Int32)), .val (.int (5 : Int32))] [(.int (5 : Int32)), (.int (5 : Int32))])) _
    refine XS.icmpYes X76.here hx rfl (pc0 := 14) (pc' := 46) rfl (hb hby d8_14) rfl (flt (by decide : ¬ ((5 : Int32) < (5 : Int32)))).2.1 (by decide) (by decide) ?_
    show Steps p.tables e below (T76.setTop (mkF m 46 #[.val (.ref a1), .val (.int (16 : Int32)), .val (.int (5 : Int32))] [])) _
    exact X76.returnOut hx Bd.returns (hb hby d8_46) hr
  · show Q8 Z a1 c2 k_c2 e_c2_0 e_c2_1 e_c2_2 e_c2_3 e_c2_4 e_c2_5 e_c2_6 e_c2_7 u_slots_a1 h0 n0 _ T76.heap _
    rw [e76]
    exact ⟨b1, k1, rfl, N74, g_b1, sz_b1, k77, fq78, fq79, fq75, fq80, V74⟩
theorem d5_0 : decode prog_40_method_2_code 0 = .ok (.aload_n 0, 1) := by decide +kernel
theorem d5_1 : decode prog_40_method_2_code 1 = .ok (.iload_n 1, 1) := by decide +kernel
theorem d5_2 : decode prog_40_method_2_code 2 = .ok (.invokevirtual 16, 3) := by decide +kernel
theorem d5_5 : decode prog_40_method_2_code 5 = .ok (.istore_n 2, 1) := by decide +kernel
theorem d5_6 : decode prog_40_method_2_code 6 = .ok (.aload_n 0, 1) := by decide +kernel
theorem d5_7 : decode prog_40_method_2_code 7 = .ok (.getfield 7, 3) := by decide +kernel
theorem d5_10 : decode prog_40_method_2_code 10 = .ok (.iload_n 2, 1) := by decide +kernel
theorem d5_11 : decode prog_40_method_2_code 11 = .ok (.iaload, 1) := by decide +kernel
theorem d5_12 : decode prog_40_method_2_code 12 = .ok (.ifCond .eq 5, 3) := by decide +kernel
theorem d5_15 : decode prog_40_method_2_code 15 = .ok (.iconst 0, 1) := by decide +kernel
theorem d5_16 : decode prog_40_method_2_code 16 = .ok (.ireturn, 1) := by decide +kernel
theorem d5_17 : decode prog_40_method_2_code 17 = .ok (.aload_n 0, 1) := by decide +kernel
theorem d5_18 : decode prog_40_method_2_code 18 = .ok (.getfield 7, 3) := by decide +kernel
theorem d5_21 : decode prog_40_method_2_code 21 = .ok (.iload_n 2, 1) := by decide +kernel
theorem d5_22 : decode prog_40_method_2_code 22 = .ok (.iload_n 1, 1) := by decide +kernel
theorem d5_23 : decode prog_40_method_2_code 23 = .ok (.iconst 1, 1) := by decide +kernel
theorem d5_24 : decode prog_40_method_2_code 24 = .ok (.iadd, 1) := by decide +kernel
theorem d5_25 : decode prog_40_method_2_code 25 = .ok (.iastore, 1) := by decide +kernel
theorem d5_26 : decode prog_40_method_2_code 26 = .ok (.aload_n 0, 1) := by decide +kernel
theorem d5_27 : decode prog_40_method_2_code 27 = .ok (.getfield 20, 3) := by decide +kernel
theorem d5_30 : decode prog_40_method_2_code 30 = .ok (.aload_n 0, 1) := by decide +kernel
theorem d5_31 : decode prog_40_method_2_code 31 = .ok (.getfield 13, 3) := by decide +kernel
theorem d5_34 : decode prog_40_method_2_code 34 = .ok (.arraylength, 1) := by decide +kernel
theorem d5_35 : decode prog_40_method_2_code 35 = .ok (.if_icmp .ne 20, 3) := by decide +kernel
theorem d5_55 : decode prog_40_method_2_code 55 = .ok (.aload_n 0, 1) := by decide +kernel
theorem d5_56 : decode prog_40_method_2_code 56 = .ok (.getfield 13, 3) := by decide +kernel
theorem d5_59 : decode prog_40_method_2_code 59 = .ok (.aload_n 0, 1) := by decide +kernel
theorem d5_60 : decode prog_40_method_2_code 60 = .ok (.dup, 1) := by decide +kernel
theorem d5_61 : decode prog_40_method_2_code 61 = .ok (.getfield 20, 3) := by decide +kernel
theorem d5_64 : decode prog_40_method_2_code 64 = .ok (.dup_x1, 1) := by decide +kernel
theorem d5_65 : decode prog_40_method_2_code 65 = .ok (.iconst 1, 1) := by decide +kernel
theorem d5_66 : decode prog_40_method_2_code 66 = .ok (.iadd, 1) := by decide +kernel
theorem d5_67 : decode prog_40_method_2_code 67 = .ok (.putfield 20, 3) := by decide +kernel
theorem d5_70 : decode prog_40_method_2_code 70 = .ok (.iload_n 1, 1) := by decide +kernel
theorem d5_71 : decode prog_40_method_2_code 71 = .ok (.iastore, 1) := by decide +kernel
theorem d5_72 : decode prog_40_method_2_code 72 = .ok (.aload_n 0, 1) := by decide +kernel
theorem d5_73 : decode prog_40_method_2_code 73 = .ok (.getfield 20, 3) := by decide +kernel
theorem d5_76 : decode prog_40_method_2_code 76 = .ok (.iconst 2, 1) := by decide +kernel
theorem d5_77 : decode prog_40_method_2_code 77 = .ok (.imul, 1) := by decide +kernel
theorem d5_78 : decode prog_40_method_2_code 78 = .ok (.aload_n 0, 1) := by decide +kernel
theorem d5_79 : decode prog_40_method_2_code 79 = .ok (.getfield 7, 3) := by decide +kernel
theorem d5_82 : decode prog_40_method_2_code 82 = .ok (.arraylength, 1) := by decide +kernel
theorem d5_83 : decode prog_40_method_2_code 83 = .ok (.if_icmp .le 14, 3) := by decide +kernel
theorem d5_97 : decode prog_40_method_2_code 97 = .ok (.iconst 1, 1) := by decide +kernel
theorem d5_98 : decode prog_40_method_2_code 98 = .ok (.ireturn, 1) := by decide +kernel
theorem pn_5 : plainName "com/example/krel/krel/saturation/AtomSet" = true := by first | (simp [plainName, overriddenIn]; done) | decide +kernel
theorem pd_5_2 : parseMethodDescriptor "(I)I" = some ⟨[.int], some .int⟩ := by decide +kernel
theorem ef_5 (m : MethodId) (a1 : Addr) (p2 : Int32) : entryFrame m #[(.ref a1), (.int p2)] 3 = mkF m 0 #[.val (.ref a1), .val (.int p2), .unset] [] := by first | (simp [entryFrame, mkF, argsToLocals, Value.category]; done) | rfl
def own_L5_0 (p2 : Int32) (L_c1 : List Int32) (e_c2_0 : Int32) (e_c2_1 : Int32) (e_c2_2 : Int32) (e_c2_3 : Int32) : List Int32 := L_c1.set ((F4 p2 L_c1)).toNatClampNeg (p2 + (1 : Int32))

set_option maxRecDepth 65536 in
set_option maxHeartbeats 40000000 in
theorem side_5_2 (p2 : Int32) (L_c1 : List Int32) (e_c2_0 : Int32) (e_c2_1 : Int32) (e_c2_2 : Int32) (e_c2_3 : Int32) (hl_c1 : L_c1.length = 8) (hI : own_Inv (own_H 8) L_c1 ([] : List Int32)) (hnn : own_nn ([] : List Int32)) (hnd : (([] : List Int32)).Nodup) (hpos : ¬ p2 + 1 = 0) : own_Free 8 L_c1 p2 := by
  exact own_free_8 hl_c1 hI (by simp) p2
set_option maxRecDepth 65536 in
set_option maxHeartbeats 40000000 in
theorem side_5_11_3 (p2 : Int32) (L_c1 : List Int32) (e_c2_0 : Int32) (e_c2_1 : Int32) (e_c2_2 : Int32) (e_c2_3 : Int32) (hl_c1 : L_c1.length = 8) (hI : own_Inv (own_H 8) L_c1 ([] : List Int32)) (hnn : own_nn ([] : List Int32)) (hnd : (([] : List Int32)).Nodup) (hpos : ¬ p2 + 1 = 0) : ¬ ((F4 p2 L_c1) < 0) ∧ (F4 p2 L_c1) < (8 : Int32) := by
  exact own_bd_8 _ _ hl_c1
set_option maxRecDepth 65536 in
set_option maxHeartbeats 40000000 in
theorem side_5_25_7 (p2 : Int32) (L_c1 : List Int32) (e_c2_0 : Int32) (e_c2_1 : Int32) (e_c2_2 : Int32) (e_c2_3 : Int32) (hl_c1 : L_c1.length = 8) (hI : own_Inv (own_H 8) L_c1 ([] : List Int32)) (hnn : own_nn ([] : List Int32)) (hnd : (([] : List Int32)).Nodup) (hpos : ¬ p2 + 1 = 0) (hc5 : (own_at L_c1 (F4 p2 L_c1)) = (0 : Int32)) : ¬ ((F4 p2 L_c1) < 0) ∧ (F4 p2 L_c1) < (8 : Int32) := by
  exact own_bd_8 _ _ hl_c1
def Q5 (Z : State) (a1 : Addr) (p2 : Int32) (c1 : Addr) (k_c1 : ClassId) (L_c1 : List Int32) (c2 : Addr) (k_c2 : ClassId) (e_c2_0 : Int32) (e_c2_1 : Int32) (e_c2_2 : Int32) (e_c2_3 : Int32) (h0 : Heap) (n0 : Nat) (v : Option Value) (h : Heap) (L : List Loc) : Prop := (∃ r : Int32, v = some (.int r)) ∧ Fr n0 L ∧ h0.size ≤ h.size ∧ own_AS Z h n0 a1 (own_ins ([] : List Int32) p2)
set_option maxRecDepth 65536 in
set_option maxHeartbeats 40000000 in
theorem rm5 (l : Launch) (Z : State) (a0 : Array Value) (hw : ∀ d ∈ tables_1, d.before a0 Z = true) (ws : List Jvm.Cond) (a1 : Addr) (p2 : Int32) (c1 : Addr) (k_c1 : ClassId) (L_c1 : List Int32) (c2 : Addr) (k_c2 : ClassId) (e_c2_0 : Int32) (e_c2_1 : Int32) (e_c2_2 : Int32) (e_c2_3 : Int32) (h0 : Heap) (n0 : Nat) (Z0 : n0 ≤ h0.size) (E_a1 : Exa Z h0 a1 "com/example/krel/krel/saturation/AtomSet") (F_size_a1 : Fld Z h0 a1 "com/example/krel/krel/saturation/AtomSet" "size" "I" (.int (0 : Int32))) (F_slots_a1 : Fld Z h0 a1 "com/example/krel/krel/saturation/AtomSet" "slots" "[I" (.ref c1)) (V_c1 : Arv Z h0 c1 k_c1 .int (8 : Int32) (L_c1.map Value.int) (.int (0 : Int32))) (hl_c1 : L_c1.length = 8) (F_atoms_a1 : Fld Z h0 a1 "com/example/krel/krel/saturation/AtomSet" "atoms" "[I" (.ref c2)) (V_c2 : Arv Z h0 c2 k_c2 .int (4 : Int32) [(.int e_c2_0), (.int e_c2_1), (.int e_c2_2), (.int e_c2_3)] (.int (0 : Int32))) (hI : own_Inv (own_H 8) L_c1 ([] : List Int32)) (hnn : own_nn ([] : List Int32)) (hnd : (([] : List Int32)).Nodup) (hpos : ¬ p2 + 1 = 0) (g_c1 : n0 ≤ c1) (ne_a1_c1 : a1 ≠ c1) (ne_c2_c1 : c2 ≠ c1) (g_a1 : n0 ≤ a1) (ne_c2_a1 : c2 ≠ a1) (g_c2 : n0 ≤ c2) (ne_a1_c2 : a1 ≠ c2) (ne_c1_c2 : c1 ≠ c2) :
    MetFree l (⟨"com/example/krel/krel/saturation/AtomSet", "add", "(I)Z"⟩ : MethodName) (head1 (Jvm.Cond.code (⟨"com/example/krel/krel/saturation/AtomSet", "add", "(I)Z"⟩ : MethodName) prog_40_method_2_code 3 (some .boolean) :: ws) ({ frames := 2, cells := 2, slots := 24, locals := 80 } : Room)) (fun a U => a = #[(.ref a1), (.int p2)] ∧ Z.Warmed39 U.vm ∧ U.heap = h0) (fun _ _ _ _ _ => True) (fun _ U o U' => ∃ v L, o = .returned v ∧ Q5 Z a1 p2 c1 k_c1 L_c1 c2 k_c2 e_c2_0 e_c2_1 e_c2_2 e_c2_3 h0 n0 v U'.heap L ∧ FrameEnd U o U' L ({ frames := 2, cells := 2, slots := 24, locals := 80 } : Room).cells ({ frames := 2, cells := 2, slots := 24, locals := 80 } : Room).slots) := by
  refine MetFree.of_bodySF (plainFor_of_name pn_5) hisR ?_
  intro p e s m args below meth c s₁ Bd hml0 hP hK
  obtain ⟨rfl, hZ, hh⟩ := hP
  skip
  skip
  skip
  skip
  skip
  skip
  have hx := Bd.exec
  have hby := Bd.bytes
  have hml : c.maxLocals = 3 := hml0
  have hown : s.vm.findClass "com/example/krel/krel/saturation/AtomSet" = some m.cls := findClass_of_methodNamed Bd.named
  have hnm := (name_of_methodNamed Bd.named Bd.method).1
  have X0 : Stand p l e ({ frames := 2, cells := 2, slots := 24, locals := 80 } : Room) s m #[(.ref a1), (.int p2)] below meth c s₁ [] 0 0 := Stand.of_body Bd
  have e0 : s₁.heap = h0 := by rw [← hh, Bd.state]; rfl
  have N0 := Fr.nil n0
  have pre0 : ∀ t, Steps p.tables e below (s₁.setTop (mkF m 0 #[.val (.ref a1), .val (.int p2), .unset] [])) t → Steps p.tables e below (s₁.setTop (entryFrame m #[(.ref a1), (.int p2)] 3)) t := fun t k => castTop (ef_5 m a1 p2) k
  obtain ⟨cq1, iq1, iq1'⟩ := E_a1.cell
  obtain ⟨_, _, ⟨T1, L1, k1, n1⟩, -, X1, ⟨Lc1, hQ1, l1, y1, z1⟩, st1⟩ := X0.privateBack hx (y := (⟨"com/example/krel/krel/saturation/AtomSet", "slotOf", "(I)I"⟩ : MethodName)) hown (mvT hZ (hw _ (List.mem_of_getElem? (i := 20) rfl))) (mvT hZ (hw _ (List.mem_of_getElem? (i := 21) rfl))) (own_selp (z := (⟨"com/example/krel/krel/saturation/AtomSet", "contains", "(I)Z"⟩ : MethodName)) (mvT hZ (hw _ (List.mem_of_getElem? (i := 18) rfl))) rfl (Cond.privateMethod_at (mvP hZ (hw _ (List.mem_of_getElem? (i := 22) rfl)) (args := #[]))) (mvT hZ (hw _ (List.mem_of_getElem? (i := 21) rfl))) (by decide)) (Cond.privateMethod_at (mvP hZ (hw _ (List.mem_of_getElem? (i := 22) rfl)) (args := #[]))) (mvT hZ (hw _ (List.mem_of_getElem? (i := 23) rfl))) (by decide) (backOf (W := 0) (rm4 l Z a0 hw [] a1 p2 c1 k_c1 L_c1 h0 n0 Z0 E_a1 F_slots_a1 V_c1 hl_c1 (side_5_2 p2 L_c1 e_c2_0 e_c2_1 e_c2_2 e_c2_3 hl_c1 hI hnn hnd hpos)) hZ (hw _ (List.mem_of_getElem? (i := 23) rfl)) (hw _ (List.mem_of_getElem? (i := 3) rfl)) (by decide) (by decide)) (g := (mkF m 2 #[.val (.ref a1), .val (.int p2), .unset] [(.int p2), (.ref a1)])) rfl (by rw [hml]; rfl) (Steps.refl _) (a := a1) (by rw [e0]; exact iq1) iq1' (argsL := [(.int p2)]) (rest := []) (lenOf pd_5_2 rfl) rfl (by show 2 * 0 + _ ≤ _; exact Nat.le_of_eq rfl) (hb hby d5_2) (fun _ _ => ⟨rfl, e0, (by decide : 0 + 0 ≤ _), (by decide : 0 + 0 ≤ _)⟩)
  dsimp only [Pt.U, Pt.locs, Pt.cells, Pt.slots] at X1 l1 y1 z1 st1 hQ1
  subst l1 y1 z1
  obtain ⟨rfl, N1q, e1⟩ := hQ1
  have N1 := Fr.app N0 N1q
  obtain ⟨T2, X2, e2, st2⟩ := getF X1 hx hZ hown (host := "") (Or.inl (hw _ (List.mem_of_getElem? (i := 11) rfl))) Via.refl e1 F_slots_a1 (g := (mkF m 7 #[.val (.ref a1), .val (.int p2), .val (.int (F4 p2 L_c1))] [(.ref a1)])) rfl rfl (hb hby d5_7)
  obtain ⟨cl3, Ar3, aq3, S3, M3, H3, G3⟩ := id V_c1
  have hin3 : ¬ ((F4 p2 L_c1) < 0 ∨ cl3.slots.size ≤ ((F4 p2 L_c1)).toNatClampNeg) := inb_of S3 (side_5_11_3 p2 L_c1 e_c2_0 e_c2_1 e_c2_2 e_c2_3 hl_c1 hI hnn hnd hpos)
  have hat3 : cl3.slots[((F4 p2 L_c1)).toNatClampNeg]? = some (.int (own_at L_c1 (F4 p2 L_c1))) := Has.at H3 hin3 (own_getD L_c1 ((F4 p2 L_c1)).toNatClampNeg)
  have pre4 : ∀ t, Steps p.tables e below (T2.setTop (mkF m 12 #[.val (.ref a1), .val (.int p2), .val (.int (F4 p2 L_c1))] [(.int (own_at L_c1 (F4 p2 L_c1)))])) t → Steps p.tables e below (s₁.setTop (entryFrame m #[(.ref a1), (.int p2)] 3)) t := fun t kt => by
    refine pre0 t ?_
    show Steps p.tables e below (s₁.setTop (mkF m 0 #[.val (.ref a1), .val (.int p2), .unset] [])) _
    refine XS.aloadN X0.here hx rfl (hb hby d5_0) rfl rfl ?_
    show Steps p.tables e below (s₁.setTop (mkF m 1 #[.val (.ref a1), .val (.int p2), .unset] [(.ref a1)])) _
    refine XS.iloadN X0.here hx rfl (hb hby d5_1) rfl ?_
    show Steps p.tables e below (s₁.setTop (mkF m 2 #[.val (.ref a1), .val (.int p2), .unset] [(.int p2), (.ref a1)])) _
    refine st1.trans ?_
    show Steps p.tables e below (T1.setTop (mkF m 5 #[.val (.ref a1), .val (.int p2), .unset] [(.int (F4 p2 L_c1))])) _
    refine XS.istoreN X1.here hx rfl (hb hby d5_5) rfl (l' := #[.val (.ref a1), .val (.int p2), .val (.int (F4 p2 L_c1))]) rfl ?_
    show Steps p.tables e below (T1.setTop (mkF m 6 #[.val (.ref a1), .val (.int p2), .val (.int (F4 p2 L_c1))] [])) _
    refine XS.aloadN X1.here hx rfl (hb hby d5_6) rfl rfl ?_
    show Steps p.tables e below (T1.setTop (mkF m 7 #[.val (.ref a1), .val (.int p2), .val (.int (F4 p2 L_c1))] [(.ref a1)])) _
    refine st2 _ ?_
    show Steps p.tables e below (T2.setTop (mkF m 10 #[.val (.ref a1), .val (.int p2), .val (.int (F4 p2 L_c1))] [(.ref c1)])) _
    refine XS.iloadN X2.here hx rfl (hb hby d5_10) rfl ?_
    show Steps p.tables e below (T2.setTop (mkF m 11 #[.val (.ref a1), .val (.int p2), .val (.int (F4 p2 L_c1))] [(.int (F4 p2 L_c1)), (.ref c1)])) _
    refine X2.iaload hx (j := (F4 p2 L_c1)) (v := (.int (own_at L_c1 (F4 p2 L_c1)))) (by rw [e2]; exact Ar3.1) (State.isArrayOf_alike hZ.alike Ar3.2.1) Ar3.2.2 hin3 hat3 (g := (mkF m 11 #[.val (.ref a1), .val (.int p2), .val (.int (F4 p2 L_c1))] [(.int (F4 p2 L_c1)), (.ref c1)])) rfl rfl (hb hby d5_11) _ ?_
    exact kt
  by_cases hc5 : (own_at L_c1 (F4 p2 L_c1)) = (0 : Int32)
  · obtain ⟨T6, X6, e6, st6⟩ := getF X2 hx hZ hown (host := "") (Or.inl (hw _ (List.mem_of_getElem? (i := 11) rfl))) Via.refl e2 F_slots_a1 (g := (mkF m 18 #[.val (.ref a1), .val (.int p2), .val (.int (F4 p2 L_c1))] [(.ref a1)])) rfl rfl (hb hby d5_18)
    have sd7 : ¬ ((F4 p2 L_c1) < 0) ∧ (F4 p2 L_c1) < (8 : Int32) := (side_5_25_7 p2 L_c1 e_c2_0 e_c2_1 e_c2_2 e_c2_3 hl_c1 hI hnn hnd hpos hc5)
    have Vo7 : Arv Z h0 c1 k_c1 .int (8 : Int32) (L_c1.map Value.int) (.int (0 : Int32)) := V_c1
    obtain ⟨cl7, Ar7, aq7, S7, M7, H7, G7⟩ := id V_c1
    obtain ⟨T7, h7, X7, e7, W7, st7⟩ := stI X6 hx hZ e6 Ar7 (j := (F4 p2 L_c1)) (inb_of S7 sd7) (g := (mkF m 25 #[.val (.ref a1), .val (.int p2), .val (.int (F4 p2 L_c1))] [(.int (p2 + (1 : Int32))), (.int (F4 p2 L_c1)), (.ref c1)])) rfl rfl (hb hby d5_25)
    have hl7 : (own_L5_0 p2 L_c1 e_c2_0 e_c2_1 e_c2_2 e_c2_3).length = 8 := (List.length_set ..).trans hl_c1
    have V7 : Arv Z h7 c1 k_c1 .int (8 : Int32) ((own_L5_0 p2 L_c1 e_c2_0 e_c2_1 e_c2_2 e_c2_3).map Value.int) (.int (0 : Int32)) := own_setL Vo7 hl_c1 W7 sd7
    have N7 := Fr.snoc X7 N1 g_c1
    have fq8 := (Fld.other W7 F_size_a1 (Or.inl ne_a1_c1))
    obtain ⟨T9, X9, e9, st9⟩ := getF X7 hx hZ hown (host := "") (Or.inl (hw _ (List.mem_of_getElem? (i := 30) rfl))) Via.refl e7 fq8 (g := (mkF m 27 #[.val (.ref a1), .val (.int p2), .val (.int (F4 p2 L_c1))] [(.ref a1)])) rfl rfl (hb hby d5_27)
    have fq10 := (Fld.other W7 F_atoms_a1 (Or.inl ne_a1_c1))
    obtain ⟨T11, X11, e11, st11⟩ := getF X9 hx hZ hown (host := "") (Or.inl (hw _ (List.mem_of_getElem? (i := 13) rfl))) Via.refl e9 fq10 (g := (mkF m 31 #[.val (.ref a1), .val (.int p2), .val (.int (F4 p2 L_c1))] [(.ref a1), (.int (0 : Int32))])) rfl rfl (hb hby d5_31)
    have fq12 := (V_c2.other W7 ne_c2_c1)
    obtain ⟨cl13, Ar13, aq13, S13, M13, H13, G13⟩ := id fq12
    obtain ⟨T14, X14, e14, st14⟩ := getF X11 hx hZ hown (host := "") (Or.inl (hw _ (List.mem_of_getElem? (i := 13) rfl))) Via.refl e11 fq10 (g := (mkF m 56 #[.val (.ref a1), .val (.int p2), .val (.int (F4 p2 L_c1))] [(.ref a1)])) rfl rfl (hb hby d5_56)
    obtain ⟨T15, X15, e15, st15⟩ := getF X14 hx hZ hown (host := "") (Or.inl (hw _ (List.mem_of_getElem? (i := 30) rfl))) Via.refl e14 fq8 (g := (mkF m 61 #[.val (.ref a1), .val (.int p2), .val (.int (F4 p2 L_c1))] [(.ref a1), (.ref a1), (.ref c2)])) rfl rfl (hb hby d5_61)
    have fq16 := (Exa.wr W7 E_a1)
    obtain ⟨T17, h17, X17, e17, W17, st17⟩ := putF X15 hx hZ hown (host := "") (Or.inl (hw _ (List.mem_of_getElem? (i := 30) rfl))) Via.refl e15 fq8 fq16 (Or.inl (hw _ (List.mem_of_getElem? (i := 31) rfl))) (hw _ (List.mem_of_getElem? (i := 2) rfl)) (ty := .int) (by decide) rfl rfl (g := (mkF m 67 #[.val (.ref a1), .val (.int p2), .val (.int (F4 p2 L_c1))] [(.int (1 : Int32)), (.ref a1), (.int (0 : Int32)), (.ref c2)])) rfl rfl (hb hby d5_67)
    have Fw17 := Fld.same W17 fq8
    have N17 := Fr.snoc X17 N7 g_a1
    have fq18 := (fq12.other W17 ne_c2_a1)
    obtain ⟨cl19, Ar19, aq19, S19, M19, H19, G19⟩ := id fq18
    have hin19 : ¬ ((0 : Int32) < 0 ∨ cl19.slots.size ≤ ((0 : Int32)).toNatClampNeg) := inb_of S19 ⟨by decide, by decide⟩
    obtain ⟨T19, h19, X19, e19, W19, st19⟩ := stI X17 hx hZ e17 Ar19 (j := (0 : Int32)) hin19 (g := (mkF m 71 #[.val (.ref a1), .val (.int p2), .val (.int (F4 p2 L_c1))] [(.int p2), (.int (0 : Int32)), (.ref c2)])) rfl rfl (hb hby d5_71)
    have V19 : Arv Z h19 c2 k_c2 .int (4 : Int32) [(.int p2), (.int e_c2_1), (.int e_c2_2), (.int e_c2_3)] (.int (0 : Int32)) := Arv.set Ar19 aq19 S19 M19 H19 G19 rfl W19 0 rfl (Nat.le_of_ble_eq_true rfl)
    have N19 := Fr.snoc X19 N17 g_c2
    have fq20 := (Fld.other W19 Fw17 (Or.inl (Ne.symm ne_c2_a1)))
    obtain ⟨T21, X21, e21, st21⟩ := getF X19 hx hZ hown (host := "") (Or.inl (hw _ (List.mem_of_getElem? (i := 30) rfl))) Via.refl e19 fq20 (g := (mkF m 73 #[.val (.ref a1), .val (.int p2), .val (.int (F4 p2 L_c1))] [(.ref a1)])) rfl rfl (hb hby d5_73)
    have fq22 := (Fld.other W19 (Fld.other W17 (Fld.other W7 F_slots_a1 (Or.inl ne_a1_c1)) (Or.inr (slot_ne (Or.inl (hw _ (List.mem_of_getElem? (i := 12) rfl))) (Or.inl (hw _ (List.mem_of_getElem? (i := 31) rfl))) (by decide) (t := (.array .int)) (t' := .int) (by decide) (by decide)))) (Or.inl (Ne.symm ne_c2_a1)))
    obtain ⟨T23, X23, e23, st23⟩ := getF X21 hx hZ hown (host := "") (Or.inl (hw _ (List.mem_of_getElem? (i := 11) rfl))) Via.refl e21 fq22 (g := (mkF m 79 #[.val (.ref a1), .val (.int p2), .val (.int (F4 p2 L_c1))] [(.ref a1), (.int (2 : Int32))])) rfl rfl (hb hby d5_79)
    have fq24 := ((V7.other W17 (Ne.symm ne_a1_c1)).other W19 (Ne.symm ne_c2_c1))
    obtain ⟨cl25, Ar25, aq25, S25, M25, H25, G25⟩ := id fq24
    have k26 : Keep h0 h19 [c1, a1, c2] := ((((Keep.refl h0 [c1, a1, c2]).wr W7 (Or.inl (by simp))).wr W17 (Or.inl (by simp))).wr W19 (Or.inl (by simp)))
    have fq27 := (Exa.wr W19 (Exa.wr W17 fq16))
    have fq28 := (Fld.other W19 (Fld.other W17 fq10 (Or.inr (slot_ne (Or.inl (hw _ (List.mem_of_getElem? (i := 14) rfl))) (Or.inl (hw _ (List.mem_of_getElem? (i := 31) rfl))) (by decide) (t := (.array .int)) (t' := .int) (by decide) (by decide)))) (Or.inl (Ne.symm ne_c2_a1)))
    obtain ⟨fs, hr, hrun, hended, hW, hsame⟩ := X23.leave (v := some (.int (1 : Int32))) (fun h => by rw [Bd.returns] at h; cases h)
    refine ⟨_, _, pre4 _ ?_, hrun, hended, _, _, rfl, ?_, ⟨_, rfl⟩, hW, hsame.mono (by decide) (by decide)⟩
    · show Steps p.tables e below (T2.setTop (mkF m 12 #[.val (.ref a1), .val (.int p2), .val (.int (F4 p2 L_c1))] [(.int (own_at L_c1 (F4 p2 L_c1)))])) _
      refine XS.ifYes X2.here hx rfl (pc0 := 12) (pc' := 17) rfl (hb hby d5_12) rfl ((if0 _ _).trans (teq hc5).1) (by decide) (by decide) ?_
      show Steps p.tables e below (T2.setTop (mkF m 17 #[.val (.ref a1), .val (.int p2), .val (.int (F4 p2 L_c1))] [])) _
      refine XS.aloadN X2.here hx rfl (hb hby d5_17) rfl rfl ?_
      show Steps p.tables e below (T2.setTop (mkF m 18 #[.val (.ref a1), .val (.int p2), .val (.int (F4 p2 L_c1))] [(.ref a1)])) _
      refine st6 _ ?_
      show Steps p.tables e below (T6.setTop (mkF m 21 #[.val (.ref a1), .val (.int p2), .val (.int (F4 p2 L_c1))] [(.ref c1)])) _
      refine XS.iloadN X6.here hx rfl (hb hby d5_21) rfl ?_
      show Steps p.tables e below (T6.setTop (mkF m 22 #[.val (.ref a1), .val (.int p2), .val (.int (F4 p2 L_c1))] [(.int (F4 p2 L_c1)), (.ref c1)])) _
      refine XS.iloadN X6.here hx rfl (hb hby d5_22) rfl ?_
      show Steps p.tables e below (T6.setTop (mkF m 23 #[.val (.ref a1), .val (.int p2), .val (.int (F4 p2 L_c1))] [(.int p2), (.int (F4 p2 L_c1)), (.ref c1)])) _
      refine XS.iconst X6.here hx rfl (hb hby d5_23) ?_
      show Steps p.tables e below (T6.setTop (mkF m 24 #[.val (.ref a1), .val (.int p2), .val (.int (F4 p2 L_c1))] [(.int (1 : Int32)), (.int p2), (.int (F4 p2 L_c1)), (.ref c1)])) _
      refine XS.iadd X6.here hx rfl (hb hby d5_24) rfl ?_
      show Steps p.tables e below (T6.setTop (mkF m 25 #[.val (.ref a1), .val (.int p2), .val (.int (F4 p2 L_c1))] [(.int (p2 + (1 : Int32))), (.int (F4 p2 L_c1)), (.ref c1)])) _
      refine st7 _ ?_
      show Steps p.tables e below (T7.setTop (mkF m 26 #[.val (.ref a1), .val (.int p2), .val (.int (F4 p2 L_c1))] [])) _
      refine XS.aloadN X7.here hx rfl (hb hby d5_26) rfl rfl ?_
      show Steps p.tables e below (T7.setTop (mkF m 27 #[.val (.ref a1), .val (.int p2), .val (.int (F4 p2 L_c1))] [(.ref a1)])) _
      refine st9 _ ?_
      show Steps p.tables e below (T9.setTop (mkF m 30 #[.val (.ref a1), .val (.int p2), .val (.int (F4 p2 L_c1))] [(.int (0 : Int32))])) _
      refine XS.aloadN X9.here hx rfl (hb hby d5_30) rfl rfl ?_
      show Steps p.tables e below (T9.setTop (mkF m 31 #[.val (.ref a1), .val (.int p2), .val (.int (F4 p2 L_c1))] [(.ref a1), (.int (0 : Int32))])) _
      refine st11 _ ?_
      show Steps p.tables e below (T11.setTop (mkF m 34 #[.val (.ref a1), .val (.int p2), .val (.int (F4 p2 L_c1))] [(.ref c2), (.int (0 : Int32))])) _
      refine X11.arraylength hx (by rw [e11]; exact Ar13.1) (State.isArrayOf_alike hZ.alike Ar13.2.1) (g := (mkF m 34 #[.val (.ref a1), .val (.int p2), .val (.int (F4 p2 L_c1))] [(.ref c2), (.int (0 : Int32))])) rfl rfl (hb hby d5_34) _ ?_
      rw [len_of S13 M13]
      show Steps p.tables e below (T11.setTop (mkF m 35 #[.val (.ref a1), .val (.int p2), .val (.int (F4 p2 L_c1))] [(.int (4 : Int32)), (.int (0 : Int32))])) _
      refine XS.icmpYes X11.here hx rfl (pc0 := 35) (pc' := 55) rfl (hb hby d5_35) rfl (feq (by decide : ¬ ((0 : Int32) = (4 : Int32)))).2 (by decide) (by decide) ?_
      show Steps p.tables e below (T11.setTop (mkF m 55 #[.val (.ref a1), .val (.int p2), .val (.int (F4 p2 L_c1))] [])) _
      refine XS.aloadN X11.here hx rfl (hb hby d5_55) rfl rfl ?_
      show Steps p.tables e below (T11.setTop (mkF m 56 #[.val (.ref a1), .val (.int p2), .val (.int (F4 p2 L_c1))] [(.ref a1)])) _
      refine st14 _ ?_
      show Steps p.tables e below (T14.setTop (mkF m 59 #[.val (.ref a1), .val (.int p2), .val (.int (F4 p2 L_c1))] [(.ref c2)])) _
      refine XS.aloadN X14.here hx rfl (hb hby d5_59) rfl rfl ?_
      show Steps p.tables e below (T14.setTop (mkF m 60 #[.val (.ref a1), .val (.int p2), .val (.int (F4 p2 L_c1))] [(.ref a1), (.ref c2)])) _
      refine XS.dup X14.here hx rfl (hb hby d5_60) rfl rfl ?_
      show Steps p.tables e below (T14.setTop (mkF m 61 #[.val (.ref a1), .val (.int p2), .val (.int (F4 p2 L_c1))] [(.ref a1), (.ref a1), (.ref c2)])) _
      refine st15 _ ?_
      show Steps p.tables e below (T15.setTop (mkF m 64 #[.val (.ref a1), .val (.int p2), .val (.int (F4 p2 L_c1))] [(.int (0 : Int32)), (.ref a1), (.ref c2)])) _
      refine XS.dupX1 X15.here hx rfl (hb hby d5_64) rfl rfl rfl ?_
      show Steps p.tables e below (T15.setTop (mkF m 65 #[.val (.ref a1), .val (.int p2), .val (.int (F4 p2 L_c1))] [(.int (0 : Int32)), (.ref a1), (.int (0 : Int32)), (.ref c2)])) _
      refine XS.iconst X15.here hx rfl (hb hby d5_65) ?_
      show Steps p.tables e below (T15.setTop (mkF m 66 #[.val (.ref a1), .val (.int p2), .val (.int (F4 p2 L_c1))] [(.int (1 : Int32)), (.int (0 : Int32)), (.ref a1), (.int (0 : Int32)), (.ref c2)])) _
      refine XS.iadd X15.here hx rfl (hb hby d5_66) rfl ?_
      show Steps p.tables e below (T15.setTop (mkF m 67 #[.val (.ref a1), .val (.int p2), .val (.int (F4 p2 L_c1))] [(.int (1 : Int32)), (.ref a1), (.int (0 : Int32)), (.ref c2)])) _
      refine st17 _ ?_
      show Steps p.tables e below (T17.setTop (mkF m 70 #[.val (.ref a1), .val (.int p2), .val (.int (F4 p2 L_c1))] [(.int (0 : Int32)), (.ref c2)])) _
      refine XS.iloadN X17.here hx rfl (hb hby d5_70) rfl ?_
      show Steps p.tables e below (T17.setTop (mkF m 71 #[.val (.ref a1), .val (.int p2), .val (.int (F4 p2 L_c1))] [(.int p2), (.int (0 : Int32)), (.ref c2)])) _
      refine st19 _ ?_
      show Steps p.tables e below (T19.setTop (mkF m 72 #[.val (.ref a1), .val (.int p2), .val (.int (F4 p2 L_c1))] [])) _
      refine XS.aloadN X19.here hx rfl (hb hby d5_72) rfl rfl ?_
      show Steps p.tables e below (T19.setTop (mkF m 73 #[.val (.ref a1), .val (.int p2), .val (.int (F4 p2 L_c1))] [(.ref a1)])) _
      refine st21 _ ?_
      show Steps p.tables e below (T21.setTop (mkF m 76 #[.val (.ref a1), .val (.int p2), .val (.int (F4 p2 L_c1))] [(.int (1 : Int32))])) _
      refine XS.iconst X21.here hx rfl (hb hby d5_76) ?_
      show Steps p.tables e below (T21.setTop (mkF m 77 #[.val (.ref a1), .val (.int p2), .val (.int (F4 p2 L_c1))] [(.int (2 : Int32)), (.int (1 : Int32))])) _
      refine XS.imul X21.here hx rfl (hb hby d5_77) rfl ?_
      show Steps p.tables e below (T21.setTop (mkF m 78 #[.val (.ref a1), .val (.int p2), .val (.int (F4 p2 L_c1))] [(.int (2 : Int32))])) _
      refine XS.aloadN X21.here hx rfl (hb hby d5_78) rfl rfl ?_
      show Steps p.tables e below (T21.setTop (mkF m 79 #[.val (.ref a1), .val (.int p2), .val (.int (F4 p2 L_c1))] [(.ref a1), (.int (2 : Int32))])) _
      refine st23 _ ?_
      show Steps p.tables e below (T23.setTop (mkF m 82 #[.val (.ref a1), .val (.int p2), .val (.int (F4 p2 L_c1))] [(.ref c1), (.int (2 : Int32))])) _
      refine X23.arraylength hx (by rw [e23]; exact Ar25.1) (State.isArrayOf_alike hZ.alike Ar25.2.1) (g := (mkF m 82 #[.val (.ref a1), .val (.int p2), .val (.int (F4 p2 L_c1))] [(.ref c1), (.int (2 : Int32))])) rfl rfl (hb hby d5_82) _ ?_
      rw [len_of S25 M25]
      show Steps p.tables e below (T23.setTop (mkF m 83 #[.val (.ref a1), .val (.int p2), .val (.int (F4 p2 L_c1))] [(.int (8 : Int32)), (.int (2 : Int32))])) _
      refine XS.icmpYes X23.here hx rfl (pc0 := 83) (pc' := 97) rfl (hb hby d5_83) rfl (flt (by decide : ¬ ((8 : Int32) < (2 : Int32)))).2.2.2 (by decide) (by decide) ?_
      show Steps p.tables e below (T23.setTop (mkF m 97 #[.val (.ref a1), .val (.int p2), .val (.int (F4 p2 L_c1))] [])) _
      refine XS.iconst X23.here hx rfl (hb hby d5_97) ?_
      show Steps p.tables e below (T23.setTop (mkF m 98 #[.val (.ref a1), .val (.int p2), .val (.int (F4 p2 L_c1))] [(.int (1 : Int32))])) _
      exact retN X23 hx (t := .boolean) Bd.returns (by simp) (hb hby d5_98) hr
    · show Q5 Z a1 p2 c1 k_c1 L_c1 c2 k_c2 e_c2_0 e_c2_1 e_c2_2 e_c2_3 h0 n0 _ T23.heap _
      rw [e23]
      refine ⟨⟨_, rfl⟩, N19, k26.1, ?_⟩
      have hm : ¬ p2 ∈ ([] : List Int32) := (own_found_8 hl_c1 hI hnn (by simp) p2 hpos).1 hc5
      rw [own_ins, if_neg hm]
      exact ⟨c1, c2, k_c1, k_c2, (own_L5_0 p2 L_c1 e_c2_0 e_c2_1 e_c2_2 e_c2_3), ([p2, e_c2_1, e_c2_2, e_c2_3] : List Int32), fq27, fq22, fq28, fq20, g_a1, g_c1, g_c2, ne_a1_c1, (Ne.symm ne_c2_a1), (Ne.symm ne_c2_c1), own_nnS hnn hpos, own_ndS hnd hm, Or.inl ⟨by simp, hl7, fq24, own_put_8 hl_c1 hI hnn (by simp) p2 hpos hm, rfl, V19, rfl⟩⟩
  · obtain ⟨fs, hr, hrun, hended, hW, hsame⟩ := X2.leave (v := some (.int (0 : Int32))) (fun h => by rw [Bd.returns] at h; cases h)
    refine ⟨_, _, pre4 _ ?_, hrun, hended, _, _, rfl, ?_, ⟨_, rfl⟩, hW, hsame.mono (by decide) (by decide)⟩
    · show Steps p.tables e below (T2.setTop (mkF m 12 #[.val (.ref a1), .val (.int p2), .val (.int (F4 p2 L_c1))] [(.int (own_at L_c1 (F4 p2 L_c1)))])) _
      refine XS.ifNo X2.here hx rfl (hb hby d5_12) rfl ((if0 _ _).trans (feq hc5).1) ?_
      show Steps p.tables e below (T2.setTop (mkF m 15 #[.val (.ref a1), .val (.int p2), .val (.int (F4 p2 L_c1))] [])) _
      refine XS.iconst X2.here hx rfl (hb hby d5_15) ?_
      show Steps p.tables e below (T2.setTop (mkF m 16 #[.val (.ref a1), .val (.int p2), .val (.int (F4 p2 L_c1))] [(.int (0 : Int32))])) _
      exact retN X2 hx (t := .boolean) Bd.returns (by simp) (hb hby d5_16) hr
    · show Q5 Z a1 p2 c1 k_c1 L_c1 c2 k_c2 e_c2_0 e_c2_1 e_c2_2 e_c2_3 h0 n0 _ T2.heap _
      rw [e2]
      refine ⟨⟨_, rfl⟩, N1, Nat.le_refl _, ?_⟩
      have hm : p2 ∈ ([] : List Int32) := (own_found_8 hl_c1 hI hnn (by simp) p2 hpos).2 hc5
      rw [own_ins, if_pos hm]
      exact ⟨c1, c2, k_c1, k_c2, L_c1, [e_c2_0, e_c2_1, e_c2_2, e_c2_3], E_a1, F_slots_a1, F_atoms_a1, F_size_a1, g_a1, g_c1, g_c2, ne_a1_c1, ne_a1_c2, ne_c1_c2, hnn, hnd, Or.inl ⟨by simp, hl_c1, V_c1, hI, rfl, V_c2, rfl⟩⟩
theorem d1005_0 : decode prog_40_method_2_code 0 = .ok (.aload_n 0, 1) := by decide +kernel
theorem d1005_1 : decode prog_40_method_2_code 1 = .ok (.iload_n 1, 1) := by decide +kernel
theorem d1005_2 : decode prog_40_method_2_code 2 = .ok (.invokevirtual 16, 3) := by decide +kernel
theorem d1005_5 : decode prog_40_method_2_code 5 = .ok (.istore_n 2, 1) := by decide +kernel
theorem d1005_6 : decode prog_40_method_2_code 6 = .ok (.aload_n 0, 1) := by decide +kernel
theorem d1005_7 : decode prog_40_method_2_code 7 = .ok (.getfield 7, 3) := by decide +kernel
theorem d1005_10 : decode prog_40_method_2_code 10 = .ok (.iload_n 2, 1) := by decide +kernel
theorem d1005_11 : decode prog_40_method_2_code 11 = .ok (.iaload, 1) := by decide +kernel
theorem d1005_12 : decode prog_40_method_2_code 12 = .ok (.ifCond .eq 5, 3) := by decide +kernel
theorem d1005_15 : decode prog_40_method_2_code 15 = .ok (.iconst 0, 1) := by decide +kernel
theorem d1005_16 : decode prog_40_method_2_code 16 = .ok (.ireturn, 1) := by decide +kernel
theorem d1005_17 : decode prog_40_method_2_code 17 = .ok (.aload_n 0, 1) := by decide +kernel
theorem d1005_18 : decode prog_40_method_2_code 18 = .ok (.getfield 7, 3) := by decide +kernel
theorem d1005_21 : decode prog_40_method_2_code 21 = .ok (.iload_n 2, 1) := by decide +kernel
theorem d1005_22 : decode prog_40_method_2_code 22 = .ok (.iload_n 1, 1) := by decide +kernel
theorem d1005_23 : decode prog_40_method_2_code 23 = .ok (.iconst 1, 1) := by decide +kernel
theorem d1005_24 : decode prog_40_method_2_code 24 = .ok (.iadd, 1) := by decide +kernel
theorem d1005_25 : decode prog_40_method_2_code 25 = .ok (.iastore, 1) := by decide +kernel
theorem d1005_26 : decode prog_40_method_2_code 26 = .ok (.aload_n 0, 1) := by decide +kernel
theorem d1005_27 : decode prog_40_method_2_code 27 = .ok (.getfield 20, 3) := by decide +kernel
theorem d1005_30 : decode prog_40_method_2_code 30 = .ok (.aload_n 0, 1) := by decide +kernel
theorem d1005_31 : decode prog_40_method_2_code 31 = .ok (.getfield 13, 3) := by decide +kernel
theorem d1005_34 : decode prog_40_method_2_code 34 = .ok (.arraylength, 1) := by decide +kernel
theorem d1005_35 : decode prog_40_method_2_code 35 = .ok (.if_icmp .ne 20, 3) := by decide +kernel
theorem d1005_55 : decode prog_40_method_2_code 55 = .ok (.aload_n 0, 1) := by decide +kernel
theorem d1005_56 : decode prog_40_method_2_code 56 = .ok (.getfield 13, 3) := by decide +kernel
theorem d1005_59 : decode prog_40_method_2_code 59 = .ok (.aload_n 0, 1) := by decide +kernel
theorem d1005_60 : decode prog_40_method_2_code 60 = .ok (.dup, 1) := by decide +kernel
theorem d1005_61 : decode prog_40_method_2_code 61 = .ok (.getfield 20, 3) := by decide +kernel
theorem d1005_64 : decode prog_40_method_2_code 64 = .ok (.dup_x1, 1) := by decide +kernel
theorem d1005_65 : decode prog_40_method_2_code 65 = .ok (.iconst 1, 1) := by decide +kernel
theorem d1005_66 : decode prog_40_method_2_code 66 = .ok (.iadd, 1) := by decide +kernel
theorem d1005_67 : decode prog_40_method_2_code 67 = .ok (.putfield 20, 3) := by decide +kernel
theorem d1005_70 : decode prog_40_method_2_code 70 = .ok (.iload_n 1, 1) := by decide +kernel
theorem d1005_71 : decode prog_40_method_2_code 71 = .ok (.iastore, 1) := by decide +kernel
theorem d1005_72 : decode prog_40_method_2_code 72 = .ok (.aload_n 0, 1) := by decide +kernel
theorem d1005_73 : decode prog_40_method_2_code 73 = .ok (.getfield 20, 3) := by decide +kernel
theorem d1005_76 : decode prog_40_method_2_code 76 = .ok (.iconst 2, 1) := by decide +kernel
theorem d1005_77 : decode prog_40_method_2_code 77 = .ok (.imul, 1) := by decide +kernel
theorem d1005_78 : decode prog_40_method_2_code 78 = .ok (.aload_n 0, 1) := by decide +kernel
theorem d1005_79 : decode prog_40_method_2_code 79 = .ok (.getfield 7, 3) := by decide +kernel
theorem d1005_82 : decode prog_40_method_2_code 82 = .ok (.arraylength, 1) := by decide +kernel
theorem d1005_83 : decode prog_40_method_2_code 83 = .ok (.if_icmp .le 14, 3) := by decide +kernel
theorem d1005_97 : decode prog_40_method_2_code 97 = .ok (.iconst 1, 1) := by decide +kernel
theorem d1005_98 : decode prog_40_method_2_code 98 = .ok (.ireturn, 1) := by decide +kernel
theorem pn_1005 : plainName "com/example/krel/krel/saturation/AtomSet" = true := by first | (simp [plainName, overriddenIn]; done) | decide +kernel
theorem pd_1005_2 : parseMethodDescriptor "(I)I" = some ⟨[.int], some .int⟩ := by decide +kernel
theorem ef_1005 (m : MethodId) (a1 : Addr) (p2 : Int32) : entryFrame m #[(.ref a1), (.int p2)] 3 = mkF m 0 #[.val (.ref a1), .val (.int p2), .unset] [] := by first | (simp [entryFrame, mkF, argsToLocals, Value.category]; done) | rfl
def own_L1005_0 (p2 : Int32) (L_c1 : List Int32) (e_c2_0 : Int32) (e_c2_1 : Int32) (e_c2_2 : Int32) (e_c2_3 : Int32) : List Int32 := L_c1.set ((F4 p2 L_c1)).toNatClampNeg (p2 + (1 : Int32))

set_option maxRecDepth 65536 in
set_option maxHeartbeats 40000000 in
theorem side_1005_2 (p2 : Int32) (L_c1 : List Int32) (e_c2_0 : Int32) (e_c2_1 : Int32) (e_c2_2 : Int32) (e_c2_3 : Int32) (hl_c1 : L_c1.length = 8) (hI : own_Inv (own_H 8) L_c1 [e_c2_0]) (hnn : own_nn [e_c2_0]) (hnd : ([e_c2_0]).Nodup) (hpos : ¬ p2 + 1 = 0) : own_Free 8 L_c1 p2 := by
  exact own_free_8 hl_c1 hI (by simp) p2
set_option maxRecDepth 65536 in
set_option maxHeartbeats 40000000 in
theorem side_1005_11_3 (p2 : Int32) (L_c1 : List Int32) (e_c2_0 : Int32) (e_c2_1 : Int32) (e_c2_2 : Int32) (e_c2_3 : Int32) (hl_c1 : L_c1.length = 8) (hI : own_Inv (own_H 8) L_c1 [e_c2_0]) (hnn : own_nn [e_c2_0]) (hnd : ([e_c2_0]).Nodup) (hpos : ¬ p2 + 1 = 0) : ¬ ((F4 p2 L_c1) < 0) ∧ (F4 p2 L_c1) < (8 : Int32) := by
  exact own_bd_8 _ _ hl_c1
set_option maxRecDepth 65536 in
set_option maxHeartbeats 40000000 in
theorem side_1005_25_7 (p2 : Int32) (L_c1 : List Int32) (e_c2_0 : Int32) (e_c2_1 : Int32) (e_c2_2 : Int32) (e_c2_3 : Int32) (hl_c1 : L_c1.length = 8) (hI : own_Inv (own_H 8) L_c1 [e_c2_0]) (hnn : own_nn [e_c2_0]) (hnd : ([e_c2_0]).Nodup) (hpos : ¬ p2 + 1 = 0) (hc5 : (own_at L_c1 (F4 p2 L_c1)) = (0 : Int32)) : ¬ ((F4 p2 L_c1) < 0) ∧ (F4 p2 L_c1) < (8 : Int32) := by
  exact own_bd_8 _ _ hl_c1
def Q1005 (Z : State) (a1 : Addr) (p2 : Int32) (c1 : Addr) (k_c1 : ClassId) (L_c1 : List Int32) (c2 : Addr) (k_c2 : ClassId) (e_c2_0 : Int32) (e_c2_1 : Int32) (e_c2_2 : Int32) (e_c2_3 : Int32) (h0 : Heap) (n0 : Nat) (v : Option Value) (h : Heap) (L : List Loc) : Prop := (∃ r : Int32, v = some (.int r)) ∧ Fr n0 L ∧ h0.size ≤ h.size ∧ own_AS Z h n0 a1 (own_ins [e_c2_0] p2)
set_option maxRecDepth 65536 in
set_option maxHeartbeats 40000000 in
theorem rm1005 (l : Launch) (Z : State) (a0 : Array Value) (hw : ∀ d ∈ tables_1, d.before a0 Z = true) (ws : List Jvm.Cond) (a1 : Addr) (p2 : Int32) (c1 : Addr) (k_c1 : ClassId) (L_c1 : List Int32) (c2 : Addr) (k_c2 : ClassId) (e_c2_0 : Int32) (e_c2_1 : Int32) (e_c2_2 : Int32) (e_c2_3 : Int32) (h0 : Heap) (n0 : Nat) (Z0 : n0 ≤ h0.size) (E_a1 : Exa Z h0 a1 "com/example/krel/krel/saturation/AtomSet") (F_size_a1 : Fld Z h0 a1 "com/example/krel/krel/saturation/AtomSet" "size" "I" (.int (1 : Int32))) (F_slots_a1 : Fld Z h0 a1 "com/example/krel/krel/saturation/AtomSet" "slots" "[I" (.ref c1)) (V_c1 : Arv Z h0 c1 k_c1 .int (8 : Int32) (L_c1.map Value.int) (.int (0 : Int32))) (hl_c1 : L_c1.length = 8) (F_atoms_a1 : Fld Z h0 a1 "com/example/krel/krel/saturation/AtomSet" "atoms" "[I" (.ref c2)) (V_c2 : Arv Z h0 c2 k_c2 .int (4 : Int32) [(.int e_c2_0), (.int e_c2_1), (.int e_c2_2), (.int e_c2_3)] (.int (0 : Int32))) (hI : own_Inv (own_H 8) L_c1 [e_c2_0]) (hnn : own_nn [e_c2_0]) (hnd : ([e_c2_0]).Nodup) (hpos : ¬ p2 + 1 = 0) (g_c1 : n0 ≤ c1) (ne_a1_c1 : a1 ≠ c1) (ne_c2_c1 : c2 ≠ c1) (g_a1 : n0 ≤ a1) (ne_c2_a1 : c2 ≠ a1) (g_c2 : n0 ≤ c2) (ne_a1_c2 : a1 ≠ c2) (ne_c1_c2 : c1 ≠ c2) :
    MetFree l (⟨"com/example/krel/krel/saturation/AtomSet", "add", "(I)Z"⟩ : MethodName) (head1 (Jvm.Cond.code (⟨"com/example/krel/krel/saturation/AtomSet", "add", "(I)Z"⟩ : MethodName) prog_40_method_2_code 3 (some .boolean) :: ws) ({ frames := 2, cells := 2, slots := 24, locals := 80 } : Room)) (fun a U => a = #[(.ref a1), (.int p2)] ∧ Z.Warmed39 U.vm ∧ U.heap = h0) (fun _ _ _ _ _ => True) (fun _ U o U' => ∃ v L, o = .returned v ∧ Q1005 Z a1 p2 c1 k_c1 L_c1 c2 k_c2 e_c2_0 e_c2_1 e_c2_2 e_c2_3 h0 n0 v U'.heap L ∧ FrameEnd U o U' L ({ frames := 2, cells := 2, slots := 24, locals := 80 } : Room).cells ({ frames := 2, cells := 2, slots := 24, locals := 80 } : Room).slots) := by
  refine MetFree.of_bodySF (plainFor_of_name pn_1005) hisR ?_
  intro p e s m args below meth c s₁ Bd hml0 hP hK
  obtain ⟨rfl, hZ, hh⟩ := hP
  skip
  skip
  skip
  skip
  skip
  skip
  have hx := Bd.exec
  have hby := Bd.bytes
  have hml : c.maxLocals = 3 := hml0
  have hown : s.vm.findClass "com/example/krel/krel/saturation/AtomSet" = some m.cls := findClass_of_methodNamed Bd.named
  have hnm := (name_of_methodNamed Bd.named Bd.method).1
  have X0 : Stand p l e ({ frames := 2, cells := 2, slots := 24, locals := 80 } : Room) s m #[(.ref a1), (.int p2)] below meth c s₁ [] 0 0 := Stand.of_body Bd
  have e0 : s₁.heap = h0 := by rw [← hh, Bd.state]; rfl
  have N0 := Fr.nil n0
  have pre0 : ∀ t, Steps p.tables e below (s₁.setTop (mkF m 0 #[.val (.ref a1), .val (.int p2), .unset] [])) t → Steps p.tables e below (s₁.setTop (entryFrame m #[(.ref a1), (.int p2)] 3)) t := fun t k => castTop (ef_1005 m a1 p2) k
  obtain ⟨cq1, iq1, iq1'⟩ := E_a1.cell
  obtain ⟨_, _, ⟨T1, L1, k1, n1⟩, -, X1, ⟨Lc1, hQ1, l1, y1, z1⟩, st1⟩ := X0.privateBack hx (y := (⟨"com/example/krel/krel/saturation/AtomSet", "slotOf", "(I)I"⟩ : MethodName)) hown (mvT hZ (hw _ (List.mem_of_getElem? (i := 20) rfl))) (mvT hZ (hw _ (List.mem_of_getElem? (i := 21) rfl))) (own_selp (z := (⟨"com/example/krel/krel/saturation/AtomSet", "contains", "(I)Z"⟩ : MethodName)) (mvT hZ (hw _ (List.mem_of_getElem? (i := 18) rfl))) rfl (Cond.privateMethod_at (mvP hZ (hw _ (List.mem_of_getElem? (i := 22) rfl)) (args := #[]))) (mvT hZ (hw _ (List.mem_of_getElem? (i := 21) rfl))) (by decide)) (Cond.privateMethod_at (mvP hZ (hw _ (List.mem_of_getElem? (i := 22) rfl)) (args := #[]))) (mvT hZ (hw _ (List.mem_of_getElem? (i := 23) rfl))) (by decide) (backOf (W := 0) (rm4 l Z a0 hw [] a1 p2 c1 k_c1 L_c1 h0 n0 Z0 E_a1 F_slots_a1 V_c1 hl_c1 (side_1005_2 p2 L_c1 e_c2_0 e_c2_1 e_c2_2 e_c2_3 hl_c1 hI hnn hnd hpos)) hZ (hw _ (List.mem_of_getElem? (i := 23) rfl)) (hw _ (List.mem_of_getElem? (i := 3) rfl)) (by decide) (by decide)) (g := (mkF m 2 #[.val (.ref a1), .val (.int p2), .unset] [(.int p2), (.ref a1)])) rfl (by rw [hml]; rfl) (Steps.refl _) (a := a1) (by rw [e0]; exact iq1) iq1' (argsL := [(.int p2)]) (rest := []) (lenOf pd_1005_2 rfl) rfl (by show 2 * 0 + _ ≤ _; exact Nat.le_of_eq rfl) (hb hby d1005_2) (fun _ _ => ⟨rfl, e0, (by decide : 0 + 0 ≤ _), (by decide : 0 + 0 ≤ _)⟩)
  dsimp only [Pt.U, Pt.locs, Pt.cells, Pt.slots] at X1 l1 y1 z1 st1 hQ1
  subst l1 y1 z1
  obtain ⟨rfl, N1q, e1⟩ := hQ1
  have N1 := Fr.app N0 N1q
  obtain ⟨T2, X2, e2, st2⟩ := getF X1 hx hZ hown (host := "") (Or.inl (hw _ (List.mem_of_getElem? (i := 11) rfl))) Via.refl e1 F_slots_a1 (g := (mkF m 7 #[.val (.ref a1), .val (.int p2), .val (.int (F4 p2 L_c1))] [(.ref a1)])) rfl rfl (hb hby d1005_7)
  obtain ⟨cl3, Ar3, aq3, S3, M3, H3, G3⟩ := id V_c1
  have hin3 : ¬ ((F4 p2 L_c1) < 0 ∨ cl3.slots.size ≤ ((F4 p2 L_c1)).toNatClampNeg) := inb_of S3 (side_1005_11_3 p2 L_c1 e_c2_0 e_c2_1 e_c2_2 e_c2_3 hl_c1 hI hnn hnd hpos)
  have hat3 : cl3.slots[((F4 p2 L_c1)).toNatClampNeg]? = some (.int (own_at L_c1 (F4 p2 L_c1))) := Has.at H3 hin3 (own_getD L_c1 ((F4 p2 L_c1)).toNatClampNeg)
  have pre4 : ∀ t, Steps p.tables e below (T2.setTop (mkF m 12 #[.val (.ref a1), .val (.int p2), .val (.int (F4 p2 L_c1))] [(.int (own_at L_c1 (F4 p2 L_c1)))])) t → Steps p.tables e below (s₁.setTop (entryFrame m #[(.ref a1), (.int p2)] 3)) t := fun t kt => by
    refine pre0 t ?_
    show Steps p.tables e below (s₁.setTop (mkF m 0 #[.val (.ref a1), .val (.int p2), .unset] [])) _
    refine XS.aloadN X0.here hx rfl (hb hby d1005_0) rfl rfl ?_
    show Steps p.tables e below (s₁.setTop (mkF m 1 #[.val (.ref a1), .val (.int p2), .unset] [(.ref a1)])) _
    refine XS.iloadN X0.here hx rfl (hb hby d1005_1) rfl ?_
    show Steps p.tables e below (s₁.setTop (mkF m 2 #[.val (.ref a1), .val (.int p2), .unset] [(.int p2), (.ref a1)])) _
    refine st1.trans ?_
    show Steps p.tables e below (T1.setTop (mkF m 5 #[.val (.ref a1), .val (.int p2), .unset] [(.int (F4 p2 L_c1))])) _
    refine XS.istoreN X1.here hx rfl (hb hby d1005_5) rfl (l' := #[.val (.ref a1), .val (.int p2), .val (.int (F4 p2 L_c1))]) rfl ?_
    show Steps p.tables e below (T1.setTop (mkF m 6 #[.val (.ref a1), .val (.int p2), .val (.int (F4 p2 L_c1))] [])) _
    refine XS.aloadN X1.here hx rfl (hb hby d1005_6) rfl rfl ?_
    show Steps p.tables e below (T1.setTop (mkF m 7 #[.val (.ref a1), .val (.int p2), .val (.int (F4 p2 L_c1))] [(.ref a1)])) _
    refine st2 _ ?_
    show Steps p.tables e below (T2.setTop (mkF m 10 #[.val (.ref a1), .val (.int p2), .val (.int (F4 p2 L_c1))] [(.ref c1)])) _
    refine XS.iloadN X2.here hx rfl (hb hby d1005_10) rfl ?_
    show Steps p.tables e below (T2.setTop (mkF m 11 #[.val (.ref a1), .val (.int p2), .val (.int (F4 p2 L_c1))] [(.int (F4 p2 L_c1)), (.ref c1)])) _
    refine X2.iaload hx (j := (F4 p2 L_c1)) (v := (.int (own_at L_c1 (F4 p2 L_c1)))) (by rw [e2]; exact Ar3.1) (State.isArrayOf_alike hZ.alike Ar3.2.1) Ar3.2.2 hin3 hat3 (g := (mkF m 11 #[.val (.ref a1), .val (.int p2), .val (.int (F4 p2 L_c1))] [(.int (F4 p2 L_c1)), (.ref c1)])) rfl rfl (hb hby d1005_11) _ ?_
    exact kt
  by_cases hc5 : (own_at L_c1 (F4 p2 L_c1)) = (0 : Int32)
  · obtain ⟨T6, X6, e6, st6⟩ := getF X2 hx hZ hown (host := "") (Or.inl (hw _ (List.mem_of_getElem? (i := 11) rfl))) Via.refl e2 F_slots_a1 (g := (mkF m 18 #[.val (.ref a1), .val (.int p2), .val (.int (F4 p2 L_c1))] [(.ref a1)])) rfl rfl (hb hby d1005_18)
    have sd7 : ¬ ((F4 p2 L_c1) < 0) ∧ (F4 p2 L_c1) < (8 : Int32) := (side_1005_25_7 p2 L_c1 e_c2_0 e_c2_1 e_c2_2 e_c2_3 hl_c1 hI hnn hnd hpos hc5)
    have Vo7 : Arv Z h0 c1 k_c1 .int (8 : Int32) (L_c1.map Value.int) (.int (0 : Int32)) := V_c1
    obtain ⟨cl7, Ar7, aq7, S7, M7, H7, G7⟩ := id V_c1
    obtain ⟨T7, h7, X7, e7, W7, st7⟩ := stI X6 hx hZ e6 Ar7 (j := (F4 p2 L_c1)) (inb_of S7 sd7) (g := (mkF m 25 #[.val (.ref a1), .val (.int p2), .val (.int (F4 p2 L_c1))] [(.int (p2 + (1 : Int32))), (.int (F4 p2 L_c1)), (.ref c1)])) rfl rfl (hb hby d1005_25)
    have hl7 : (own_L1005_0 p2 L_c1 e_c2_0 e_c2_1 e_c2_2 e_c2_3).length = 8 := (List.length_set ..).trans hl_c1
    have V7 : Arv Z h7 c1 k_c1 .int (8 : Int32) ((own_L1005_0 p2 L_c1 e_c2_0 e_c2_1 e_c2_2 e_c2_3).map Value.int) (.int (0 : Int32)) := own_setL Vo7 hl_c1 W7 sd7
    have N7 := Fr.snoc X7 N1 g_c1
    have fq8 := (Fld.other W7 F_size_a1 (Or.inl ne_a1_c1))
    obtain ⟨T9, X9, e9, st9⟩ := getF X7 hx hZ hown (host := "") (Or.inl (hw _ (List.mem_of_getElem? (i := 30) rfl))) Via.refl e7 fq8 (g := (mkF m 27 #[.val (.ref a1), .val (.int p2), .val (.int (F4 p2 L_c1))] [(.ref a1)])) rfl rfl (hb hby d1005_27)
    have fq10 := (Fld.other W7 F_atoms_a1 (Or.inl ne_a1_c1))
    obtain ⟨T11, X11, e11, st11⟩ := getF X9 hx hZ hown (host := "") (Or.inl (hw _ (List.mem_of_getElem? (i := 13) rfl))) Via.refl e9 fq10 (g := (mkF m 31 #[.val (.ref a1), .val (.int p2), .val (.int (F4 p2 L_c1))] [(.ref a1), (.int (1 : Int32))])) rfl rfl (hb hby d1005_31)
    have fq12 := (V_c2.other W7 ne_c2_c1)
    obtain ⟨cl13, Ar13, aq13, S13, M13, H13, G13⟩ := id fq12
    obtain ⟨T14, X14, e14, st14⟩ := getF X11 hx hZ hown (host := "") (Or.inl (hw _ (List.mem_of_getElem? (i := 13) rfl))) Via.refl e11 fq10 (g := (mkF m 56 #[.val (.ref a1), .val (.int p2), .val (.int (F4 p2 L_c1))] [(.ref a1)])) rfl rfl (hb hby d1005_56)
    obtain ⟨T15, X15, e15, st15⟩ := getF X14 hx hZ hown (host := "") (Or.inl (hw _ (List.mem_of_getElem? (i := 30) rfl))) Via.refl e14 fq8 (g := (mkF m 61 #[.val (.ref a1), .val (.int p2), .val (.int (F4 p2 L_c1))] [(.ref a1), (.ref a1), (.ref c2)])) rfl rfl (hb hby d1005_61)
    have fq16 := (Exa.wr W7 E_a1)
    obtain ⟨T17, h17, X17, e17, W17, st17⟩ := putF X15 hx hZ hown (host := "") (Or.inl (hw _ (List.mem_of_getElem? (i := 30) rfl))) Via.refl e15 fq8 fq16 (Or.inl (hw _ (List.mem_of_getElem? (i := 31) rfl))) (hw _ (List.mem_of_getElem? (i := 2) rfl)) (ty := .int) (by decide) rfl rfl (g := (mkF m 67 #[.val (.ref a1), .val (.int p2), .val (.int (F4 p2 L_c1))] [(.int (2 : Int32)), (.ref a1), (.int (1 : Int32)), (.ref c2)])) rfl rfl (hb hby d1005_67)
    have Fw17 := Fld.same W17 fq8
    have N17 := Fr.snoc X17 N7 g_a1
    have fq18 := (fq12.other W17 ne_c2_a1)
    obtain ⟨cl19, Ar19, aq19, S19, M19, H19, G19⟩ := id fq18
    have hin19 : ¬ ((1 : Int32) < 0 ∨ cl19.slots.size ≤ ((1 : Int32)).toNatClampNeg) := inb_of S19 ⟨by decide, by decide⟩
    obtain ⟨T19, h19, X19, e19, W19, st19⟩ := stI X17 hx hZ e17 Ar19 (j := (1 : Int32)) hin19 (g := (mkF m 71 #[.val (.ref a1), .val (.int p2), .val (.int (F4 p2 L_c1))] [(.int p2), (.int (1 : Int32)), (.ref c2)])) rfl rfl (hb hby d1005_71)
    have V19 : Arv Z h19 c2 k_c2 .int (4 : Int32) [(.int e_c2_0), (.int p2), (.int e_c2_2), (.int e_c2_3)] (.int (0 : Int32)) := Arv.set Ar19 aq19 S19 M19 H19 G19 rfl W19 1 rfl (Nat.le_of_ble_eq_true rfl)
    have N19 := Fr.snoc X19 N17 g_c2
    have fq20 := (Fld.other W19 Fw17 (Or.inl (Ne.symm ne_c2_a1)))
    obtain ⟨T21, X21, e21, st21⟩ := getF X19 hx hZ hown (host := "") (Or.inl (hw _ (List.mem_of_getElem? (i := 30) rfl))) Via.refl e19 fq20 (g := (mkF m 73 #[.val (.ref a1), .val (.int p2), .val (.int (F4 p2 L_c1))] [(.ref a1)])) rfl rfl (hb hby d1005_73)
    have fq22 := (Fld.other W19 (Fld.other W17 (Fld.other W7 F_slots_a1 (Or.inl ne_a1_c1)) (Or.inr (slot_ne (Or.inl (hw _ (List.mem_of_getElem? (i := 12) rfl))) (Or.inl (hw _ (List.mem_of_getElem? (i := 31) rfl))) (by decide) (t := (.array .int)) (t' := .int) (by decide) (by decide)))) (Or.inl (Ne.symm ne_c2_a1)))
    obtain ⟨T23, X23, e23, st23⟩ := getF X21 hx hZ hown (host := "") (Or.inl (hw _ (List.mem_of_getElem? (i := 11) rfl))) Via.refl e21 fq22 (g := (mkF m 79 #[.val (.ref a1), .val (.int p2), .val (.int (F4 p2 L_c1))] [(.ref a1), (.int (4 : Int32))])) rfl rfl (hb hby d1005_79)
    have fq24 := ((V7.other W17 (Ne.symm ne_a1_c1)).other W19 (Ne.symm ne_c2_c1))
    obtain ⟨cl25, Ar25, aq25, S25, M25, H25, G25⟩ := id fq24
    have k26 : Keep h0 h19 [c1, a1, c2] := ((((Keep.refl h0 [c1, a1, c2]).wr W7 (Or.inl (by simp))).wr W17 (Or.inl (by simp))).wr W19 (Or.inl (by simp)))
    have fq27 := (Exa.wr W19 (Exa.wr W17 fq16))
    have fq28 := (Fld.other W19 (Fld.other W17 fq10 (Or.inr (slot_ne (Or.inl (hw _ (List.mem_of_getElem? (i := 14) rfl))) (Or.inl (hw _ (List.mem_of_getElem? (i := 31) rfl))) (by decide) (t := (.array .int)) (t' := .int) (by decide) (by decide)))) (Or.inl (Ne.symm ne_c2_a1)))
    obtain ⟨fs, hr, hrun, hended, hW, hsame⟩ := X23.leave (v := some (.int (1 : Int32))) (fun h => by rw [Bd.returns] at h; cases h)
    refine ⟨_, _, pre4 _ ?_, hrun, hended, _, _, rfl, ?_, ⟨_, rfl⟩, hW, hsame.mono (by decide) (by decide)⟩
    · show Steps p.tables e below (T2.setTop (mkF m 12 #[.val (.ref a1), .val (.int p2), .val (.int (F4 p2 L_c1))] [(.int (own_at L_c1 (F4 p2 L_c1)))])) _
      refine XS.ifYes X2.here hx rfl (pc0 := 12) (pc' := 17) rfl (hb hby d1005_12) rfl ((if0 _ _).trans (teq hc5).1) (by decide) (by decide) ?_
      show Steps p.tables e below (T2.setTop (mkF m 17 #[.val (.ref a1), .val (.int p2), .val (.int (F4 p2 L_c1))] [])) _
      refine XS.aloadN X2.here hx rfl (hb hby d1005_17) rfl rfl ?_
      show Steps p.tables e below (T2.setTop (mkF m 18 #[.val (.ref a1), .val (.int p2), .val (.int (F4 p2 L_c1))] [(.ref a1)])) _
      refine st6 _ ?_
      show Steps p.tables e below (T6.setTop (mkF m 21 #[.val (.ref a1), .val (.int p2), .val (.int (F4 p2 L_c1))] [(.ref c1)])) _
      refine XS.iloadN X6.here hx rfl (hb hby d1005_21) rfl ?_
      show Steps p.tables e below (T6.setTop (mkF m 22 #[.val (.ref a1), .val (.int p2), .val (.int (F4 p2 L_c1))] [(.int (F4 p2 L_c1)), (.ref c1)])) _
      refine XS.iloadN X6.here hx rfl (hb hby d1005_22) rfl ?_
      show Steps p.tables e below (T6.setTop (mkF m 23 #[.val (.ref a1), .val (.int p2), .val (.int (F4 p2 L_c1))] [(.int p2), (.int (F4 p2 L_c1)), (.ref c1)])) _
      refine XS.iconst X6.here hx rfl (hb hby d1005_23) ?_
      show Steps p.tables e below (T6.setTop (mkF m 24 #[.val (.ref a1), .val (.int p2), .val (.int (F4 p2 L_c1))] [(.int (1 : Int32)), (.int p2), (.int (F4 p2 L_c1)), (.ref c1)])) _
      refine XS.iadd X6.here hx rfl (hb hby d1005_24) rfl ?_
      show Steps p.tables e below (T6.setTop (mkF m 25 #[.val (.ref a1), .val (.int p2), .val (.int (F4 p2 L_c1))] [(.int (p2 + (1 : Int32))), (.int (F4 p2 L_c1)), (.ref c1)])) _
      refine st7 _ ?_
      show Steps p.tables e below (T7.setTop (mkF m 26 #[.val (.ref a1), .val (.int p2), .val (.int (F4 p2 L_c1))] [])) _
      refine XS.aloadN X7.here hx rfl (hb hby d1005_26) rfl rfl ?_
      show Steps p.tables e below (T7.setTop (mkF m 27 #[.val (.ref a1), .val (.int p2), .val (.int (F4 p2 L_c1))] [(.ref a1)])) _
      refine st9 _ ?_
      show Steps p.tables e below (T9.setTop (mkF m 30 #[.val (.ref a1), .val (.int p2), .val (.int (F4 p2 L_c1))] [(.int (1 : Int32))])) _
      refine XS.aloadN X9.here hx rfl (hb hby d1005_30) rfl rfl ?_
      show Steps p.tables e below (T9.setTop (mkF m 31 #[.val (.ref a1), .val (.int p2), .val (.int (F4 p2 L_c1))] [(.ref a1), (.int (1 : Int32))])) _
      refine st11 _ ?_
      show Steps p.tables e below (T11.setTop (mkF m 34 #[.val (.ref a1), .val (.int p2), .val (.int (F4 p2 L_c1))] [(.ref c2), (.int (1 : Int32))])) _
      refine X11.arraylength hx (by rw [e11]; exact Ar13.1) (State.isArrayOf_alike hZ.alike Ar13.2.1) (g := (mkF m 34 #[.val (.ref a1), .val (.int p2), .val (.int (F4 p2 L_c1))] [(.ref c2), (.int (1 : Int32))])) rfl rfl (hb hby d1005_34) _ ?_
      rw [len_of S13 M13]
      show Steps p.tables e below (T11.setTop (mkF m 35 #[.val (.ref a1), .val (.int p2), .val (.int (F4 p2 L_c1))] [(.int (4 : Int32)), (.int (1 : Int32))])) _
      refine XS.icmpYes X11.here hx rfl (pc0 := 35) (pc' := 55) rfl (hb hby d1005_35) rfl (feq (by decide : ¬ ((1 : Int32) = (4 : Int32)))).2 (by decide) (by decide) ?_
      show Steps p.tables e below (T11.setTop (mkF m 55 #[.val (.ref a1), .val (.int p2), .val (.int (F4 p2 L_c1))] [])) _
      refine XS.aloadN X11.here hx rfl (hb hby d1005_55) rfl rfl ?_
      show Steps p.tables e below (T11.setTop (mkF m 56 #[.val (.ref a1), .val (.int p2), .val (.int (F4 p2 L_c1))] [(.ref a1)])) _
      refine st14 _ ?_
      show Steps p.tables e below (T14.setTop (mkF m 59 #[.val (.ref a1), .val (.int p2), .val (.int (F4 p2 L_c1))] [(.ref c2)])) _
      refine XS.aloadN X14.here hx rfl (hb hby d1005_59) rfl rfl ?_
      show Steps p.tables e below (T14.setTop (mkF m 60 #[.val (.ref a1), .val (.int p2), .val (.int (F4 p2 L_c1))] [(.ref a1), (.ref c2)])) _
      refine XS.dup X14.here hx rfl (hb hby d1005_60) rfl rfl ?_
      show Steps p.tables e below (T14.setTop (mkF m 61 #[.val (.ref a1), .val (.int p2), .val (.int (F4 p2 L_c1))] [(.ref a1), (.ref a1), (.ref c2)])) _
      refine st15 _ ?_
      show Steps p.tables e below (T15.setTop (mkF m 64 #[.val (.ref a1), .val (.int p2), .val (.int (F4 p2 L_c1))] [(.int (1 : Int32)), (.ref a1), (.ref c2)])) _
      refine XS.dupX1 X15.here hx rfl (hb hby d1005_64) rfl rfl rfl ?_
      show Steps p.tables e below (T15.setTop (mkF m 65 #[.val (.ref a1), .val (.int p2), .val (.int (F4 p2 L_c1))] [(.int (1 : Int32)), (.ref a1), (.int (1 : Int32)), (.ref c2)])) _
      refine XS.iconst X15.here hx rfl (hb hby d1005_65) ?_
      show Steps p.tables e below (T15.setTop (mkF m 66 #[.val (.ref a1), .val (.int p2), .val (.int (F4 p2 L_c1))] [(.int (1 : Int32)), (.int (1 : Int32)), (.ref a1), (.int (1 : Int32)), (.ref c2)])) _
      refine XS.iadd X15.here hx rfl (hb hby d1005_66) rfl ?_
      show Steps p.tables e below (T15.setTop (mkF m 67 #[.val (.ref a1), .val (.int p2), .val (.int (F4 p2 L_c1))] [(.int (2 : Int32)), (.ref a1), (.int (1 : Int32)), (.ref c2)])) _
      refine st17 _ ?_
      show Steps p.tables e below (T17.setTop (mkF m 70 #[.val (.ref a1), .val (.int p2), .val (.int (F4 p2 L_c1))] [(.int (1 : Int32)), (.ref c2)])) _
      refine XS.iloadN X17.here hx rfl (hb hby d1005_70) rfl ?_
      show Steps p.tables e below (T17.setTop (mkF m 71 #[.val (.ref a1), .val (.int p2), .val (.int (F4 p2 L_c1))] [(.int p2), (.int (1 : Int32)), (.ref c2)])) _
      refine st19 _ ?_
      show Steps p.tables e below (T19.setTop (mkF m 72 #[.val (.ref a1), .val (.int p2), .val (.int (F4 p2 L_c1))] [])) _
      refine XS.aloadN X19.here hx rfl (hb hby d1005_72) rfl rfl ?_
      show Steps p.tables e below (T19.setTop (mkF m 73 #[.val (.ref a1), .val (.int p2), .val (.int (F4 p2 L_c1))] [(.ref a1)])) _
      refine st21 _ ?_
      show Steps p.tables e below (T21.setTop (mkF m 76 #[.val (.ref a1), .val (.int p2), .val (.int (F4 p2 L_c1))] [(.int (2 : Int32))])) _
      refine XS.iconst X21.here hx rfl (hb hby d1005_76) ?_
      show Steps p.tables e below (T21.setTop (mkF m 77 #[.val (.ref a1), .val (.int p2), .val (.int (F4 p2 L_c1))] [(.int (2 : Int32)), (.int (2 : Int32))])) _
      refine XS.imul X21.here hx rfl (hb hby d1005_77) rfl ?_
      show Steps p.tables e below (T21.setTop (mkF m 78 #[.val (.ref a1), .val (.int p2), .val (.int (F4 p2 L_c1))] [(.int (4 : Int32))])) _
      refine XS.aloadN X21.here hx rfl (hb hby d1005_78) rfl rfl ?_
      show Steps p.tables e below (T21.setTop (mkF m 79 #[.val (.ref a1), .val (.int p2), .val (.int (F4 p2 L_c1))] [(.ref a1), (.int (4 : Int32))])) _
      refine st23 _ ?_
      show Steps p.tables e below (T23.setTop (mkF m 82 #[.val (.ref a1), .val (.int p2), .val (.int (F4 p2 L_c1))] [(.ref c1), (.int (4 : Int32))])) _
      refine X23.arraylength hx (by rw [e23]; exact Ar25.1) (State.isArrayOf_alike hZ.alike Ar25.2.1) (g := (mkF m 82 #[.val (.ref a1), .val (.int p2), .val (.int (F4 p2 L_c1))] [(.ref c1), (.int (4 : Int32))])) rfl rfl (hb hby d1005_82) _ ?_
      rw [len_of S25 M25]
      show Steps p.tables e below (T23.setTop (mkF m 83 #[.val (.ref a1), .val (.int p2), .val (.int (F4 p2 L_c1))] [(.int (8 : Int32)), (.int (4 : Int32))])) _
      refine XS.icmpYes X23.here hx rfl (pc0 := 83) (pc' := 97) rfl (hb hby d1005_83) rfl (flt (by decide : ¬ ((8 : Int32) < (4 : Int32)))).2.2.2 (by decide) (by decide) ?_
      show Steps p.tables e below (T23.setTop (mkF m 97 #[.val (.ref a1), .val (.int p2), .val (.int (F4 p2 L_c1))] [])) _
      refine XS.iconst X23.here hx rfl (hb hby d1005_97) ?_
      show Steps p.tables e below (T23.setTop (mkF m 98 #[.val (.ref a1), .val (.int p2), .val (.int (F4 p2 L_c1))] [(.int (1 : Int32))])) _
      exact retN X23 hx (t := .boolean) Bd.returns (by simp) (hb hby d1005_98) hr
    · show Q1005 Z a1 p2 c1 k_c1 L_c1 c2 k_c2 e_c2_0 e_c2_1 e_c2_2 e_c2_3 h0 n0 _ T23.heap _
      rw [e23]
      refine ⟨⟨_, rfl⟩, N19, k26.1, ?_⟩
      have hm : ¬ p2 ∈ [e_c2_0] := (own_found_8 hl_c1 hI hnn (by simp) p2 hpos).1 hc5
      rw [own_ins, if_neg hm]
      exact ⟨c1, c2, k_c1, k_c2, (own_L1005_0 p2 L_c1 e_c2_0 e_c2_1 e_c2_2 e_c2_3), ([e_c2_0, p2, e_c2_2, e_c2_3] : List Int32), fq27, fq22, fq28, fq20, g_a1, g_c1, g_c2, ne_a1_c1, (Ne.symm ne_c2_a1), (Ne.symm ne_c2_c1), own_nnS hnn hpos, own_ndS hnd hm, Or.inl ⟨by simp, hl7, fq24, own_put_8 hl_c1 hI hnn (by simp) p2 hpos hm, rfl, V19, rfl⟩⟩
  · obtain ⟨fs, hr, hrun, hended, hW, hsame⟩ := X2.leave (v := some (.int (0 : Int32))) (fun h => by rw [Bd.returns] at h; cases h)
    refine ⟨_, _, pre4 _ ?_, hrun, hended, _, _, rfl, ?_, ⟨_, rfl⟩, hW, hsame.mono (by decide) (by decide)⟩
    · show Steps p.tables e below (T2.setTop (mkF m 12 #[.val (.ref a1), .val (.int p2), .val (.int (F4 p2 L_c1))] [(.int (own_at L_c1 (F4 p2 L_c1)))])) _
      refine XS.ifNo X2.here hx rfl (hb hby d1005_12) rfl ((if0 _ _).trans (feq hc5).1) ?_
      show Steps p.tables e below (T2.setTop (mkF m 15 #[.val (.ref a1), .val (.int p2), .val (.int (F4 p2 L_c1))] [])) _
      refine XS.iconst X2.here hx rfl (hb hby d1005_15) ?_
      show Steps p.tables e below (T2.setTop (mkF m 16 #[.val (.ref a1), .val (.int p2), .val (.int (F4 p2 L_c1))] [(.int (0 : Int32))])) _
      exact retN X2 hx (t := .boolean) Bd.returns (by simp) (hb hby d1005_16) hr
    · show Q1005 Z a1 p2 c1 k_c1 L_c1 c2 k_c2 e_c2_0 e_c2_1 e_c2_2 e_c2_3 h0 n0 _ T2.heap _
      rw [e2]
      refine ⟨⟨_, rfl⟩, N1, Nat.le_refl _, ?_⟩
      have hm : p2 ∈ [e_c2_0] := (own_found_8 hl_c1 hI hnn (by simp) p2 hpos).2 hc5
      rw [own_ins, if_pos hm]
      exact ⟨c1, c2, k_c1, k_c2, L_c1, [e_c2_0, e_c2_1, e_c2_2, e_c2_3], E_a1, F_slots_a1, F_atoms_a1, F_size_a1, g_a1, g_c1, g_c2, ne_a1_c1, ne_a1_c2, ne_c1_c2, hnn, hnd, Or.inl ⟨by simp, hl_c1, V_c1, hI, rfl, V_c2, rfl⟩⟩
theorem d2005_0 : decode prog_40_method_2_code 0 = .ok (.aload_n 0, 1) := by decide +kernel
theorem d2005_1 : decode prog_40_method_2_code 1 = .ok (.iload_n 1, 1) := by decide +kernel
theorem d2005_2 : decode prog_40_method_2_code 2 = .ok (.invokevirtual 16, 3) := by decide +kernel
theorem d2005_5 : decode prog_40_method_2_code 5 = .ok (.istore_n 2, 1) := by decide +kernel
theorem d2005_6 : decode prog_40_method_2_code 6 = .ok (.aload_n 0, 1) := by decide +kernel
theorem d2005_7 : decode prog_40_method_2_code 7 = .ok (.getfield 7, 3) := by decide +kernel
theorem d2005_10 : decode prog_40_method_2_code 10 = .ok (.iload_n 2, 1) := by decide +kernel
theorem d2005_11 : decode prog_40_method_2_code 11 = .ok (.iaload, 1) := by decide +kernel
theorem d2005_12 : decode prog_40_method_2_code 12 = .ok (.ifCond .eq 5, 3) := by decide +kernel
theorem d2005_15 : decode prog_40_method_2_code 15 = .ok (.iconst 0, 1) := by decide +kernel
theorem d2005_16 : decode prog_40_method_2_code 16 = .ok (.ireturn, 1) := by decide +kernel
theorem d2005_17 : decode prog_40_method_2_code 17 = .ok (.aload_n 0, 1) := by decide +kernel
theorem d2005_18 : decode prog_40_method_2_code 18 = .ok (.getfield 7, 3) := by decide +kernel
theorem d2005_21 : decode prog_40_method_2_code 21 = .ok (.iload_n 2, 1) := by decide +kernel
theorem d2005_22 : decode prog_40_method_2_code 22 = .ok (.iload_n 1, 1) := by decide +kernel
theorem d2005_23 : decode prog_40_method_2_code 23 = .ok (.iconst 1, 1) := by decide +kernel
theorem d2005_24 : decode prog_40_method_2_code 24 = .ok (.iadd, 1) := by decide +kernel
theorem d2005_25 : decode prog_40_method_2_code 25 = .ok (.iastore, 1) := by decide +kernel
theorem d2005_26 : decode prog_40_method_2_code 26 = .ok (.aload_n 0, 1) := by decide +kernel
theorem d2005_27 : decode prog_40_method_2_code 27 = .ok (.getfield 20, 3) := by decide +kernel
theorem d2005_30 : decode prog_40_method_2_code 30 = .ok (.aload_n 0, 1) := by decide +kernel
theorem d2005_31 : decode prog_40_method_2_code 31 = .ok (.getfield 13, 3) := by decide +kernel
theorem d2005_34 : decode prog_40_method_2_code 34 = .ok (.arraylength, 1) := by decide +kernel
theorem d2005_35 : decode prog_40_method_2_code 35 = .ok (.if_icmp .ne 20, 3) := by decide +kernel
theorem d2005_55 : decode prog_40_method_2_code 55 = .ok (.aload_n 0, 1) := by decide +kernel
theorem d2005_56 : decode prog_40_method_2_code 56 = .ok (.getfield 13, 3) := by decide +kernel
theorem d2005_59 : decode prog_40_method_2_code 59 = .ok (.aload_n 0, 1) := by decide +kernel
theorem d2005_60 : decode prog_40_method_2_code 60 = .ok (.dup, 1) := by decide +kernel
theorem d2005_61 : decode prog_40_method_2_code 61 = .ok (.getfield 20, 3) := by decide +kernel
theorem d2005_64 : decode prog_40_method_2_code 64 = .ok (.dup_x1, 1) := by decide +kernel
theorem d2005_65 : decode prog_40_method_2_code 65 = .ok (.iconst 1, 1) := by decide +kernel
theorem d2005_66 : decode prog_40_method_2_code 66 = .ok (.iadd, 1) := by decide +kernel
theorem d2005_67 : decode prog_40_method_2_code 67 = .ok (.putfield 20, 3) := by decide +kernel
theorem d2005_70 : decode prog_40_method_2_code 70 = .ok (.iload_n 1, 1) := by decide +kernel
theorem d2005_71 : decode prog_40_method_2_code 71 = .ok (.iastore, 1) := by decide +kernel
theorem d2005_72 : decode prog_40_method_2_code 72 = .ok (.aload_n 0, 1) := by decide +kernel
theorem d2005_73 : decode prog_40_method_2_code 73 = .ok (.getfield 20, 3) := by decide +kernel
theorem d2005_76 : decode prog_40_method_2_code 76 = .ok (.iconst 2, 1) := by decide +kernel
theorem d2005_77 : decode prog_40_method_2_code 77 = .ok (.imul, 1) := by decide +kernel
theorem d2005_78 : decode prog_40_method_2_code 78 = .ok (.aload_n 0, 1) := by decide +kernel
theorem d2005_79 : decode prog_40_method_2_code 79 = .ok (.getfield 7, 3) := by decide +kernel
theorem d2005_82 : decode prog_40_method_2_code 82 = .ok (.arraylength, 1) := by decide +kernel
theorem d2005_83 : decode prog_40_method_2_code 83 = .ok (.if_icmp .le 14, 3) := by decide +kernel
theorem d2005_97 : decode prog_40_method_2_code 97 = .ok (.iconst 1, 1) := by decide +kernel
theorem d2005_98 : decode prog_40_method_2_code 98 = .ok (.ireturn, 1) := by decide +kernel
theorem pn_2005 : plainName "com/example/krel/krel/saturation/AtomSet" = true := by first | (simp [plainName, overriddenIn]; done) | decide +kernel
theorem pd_2005_2 : parseMethodDescriptor "(I)I" = some ⟨[.int], some .int⟩ := by decide +kernel
theorem ef_2005 (m : MethodId) (a1 : Addr) (p2 : Int32) : entryFrame m #[(.ref a1), (.int p2)] 3 = mkF m 0 #[.val (.ref a1), .val (.int p2), .unset] [] := by first | (simp [entryFrame, mkF, argsToLocals, Value.category]; done) | rfl
def own_L2005_0 (p2 : Int32) (L_c1 : List Int32) (e_c2_0 : Int32) (e_c2_1 : Int32) (e_c2_2 : Int32) (e_c2_3 : Int32) : List Int32 := L_c1.set ((F4 p2 L_c1)).toNatClampNeg (p2 + (1 : Int32))

set_option maxRecDepth 65536 in
set_option maxHeartbeats 40000000 in
theorem side_2005_2 (p2 : Int32) (L_c1 : List Int32) (e_c2_0 : Int32) (e_c2_1 : Int32) (e_c2_2 : Int32) (e_c2_3 : Int32) (hl_c1 : L_c1.length = 8) (hI : own_Inv (own_H 8) L_c1 [e_c2_0, e_c2_1]) (hnn : own_nn [e_c2_0, e_c2_1]) (hnd : ([e_c2_0, e_c2_1]).Nodup) (hpos : ¬ p2 + 1 = 0) : own_Free 8 L_c1 p2 := by
  exact own_free_8 hl_c1 hI (by simp) p2
set_option maxRecDepth 65536 in
set_option maxHeartbeats 40000000 in
theorem side_2005_11_3 (p2 : Int32) (L_c1 : List Int32) (e_c2_0 : Int32) (e_c2_1 : Int32) (e_c2_2 : Int32) (e_c2_3 : Int32) (hl_c1 : L_c1.length = 8) (hI : own_Inv (own_H 8) L_c1 [e_c2_0, e_c2_1]) (hnn : own_nn [e_c2_0, e_c2_1]) (hnd : ([e_c2_0, e_c2_1]).Nodup) (hpos : ¬ p2 + 1 = 0) : ¬ ((F4 p2 L_c1) < 0) ∧ (F4 p2 L_c1) < (8 : Int32) := by
  exact own_bd_8 _ _ hl_c1
set_option maxRecDepth 65536 in
set_option maxHeartbeats 40000000 in
theorem side_2005_25_7 (p2 : Int32) (L_c1 : List Int32) (e_c2_0 : Int32) (e_c2_1 : Int32) (e_c2_2 : Int32) (e_c2_3 : Int32) (hl_c1 : L_c1.length = 8) (hI : own_Inv (own_H 8) L_c1 [e_c2_0, e_c2_1]) (hnn : own_nn [e_c2_0, e_c2_1]) (hnd : ([e_c2_0, e_c2_1]).Nodup) (hpos : ¬ p2 + 1 = 0) (hc5 : (own_at L_c1 (F4 p2 L_c1)) = (0 : Int32)) : ¬ ((F4 p2 L_c1) < 0) ∧ (F4 p2 L_c1) < (8 : Int32) := by
  exact own_bd_8 _ _ hl_c1
def Q2005 (Z : State) (a1 : Addr) (p2 : Int32) (c1 : Addr) (k_c1 : ClassId) (L_c1 : List Int32) (c2 : Addr) (k_c2 : ClassId) (e_c2_0 : Int32) (e_c2_1 : Int32) (e_c2_2 : Int32) (e_c2_3 : Int32) (h0 : Heap) (n0 : Nat) (v : Option Value) (h : Heap) (L : List Loc) : Prop := (∃ r : Int32, v = some (.int r)) ∧ Fr n0 L ∧ h0.size ≤ h.size ∧ own_AS Z h n0 a1 (own_ins [e_c2_0, e_c2_1] p2)
set_option maxRecDepth 65536 in
set_option maxHeartbeats 40000000 in
theorem rm2005 (l : Launch) (Z : State) (a0 : Array Value) (hw : ∀ d ∈ tables_1, d.before a0 Z = true) (ws : List Jvm.Cond) (a1 : Addr) (p2 : Int32) (c1 : Addr) (k_c1 : ClassId) (L_c1 : List Int32) (c2 : Addr) (k_c2 : ClassId) (e_c2_0 : Int32) (e_c2_1 : Int32) (e_c2_2 : Int32) (e_c2_3 : Int32) (h0 : Heap) (n0 : Nat) (Z0 : n0 ≤ h0.size) (E_a1 : Exa Z h0 a1 "com/example/krel/krel/saturation/AtomSet") (F_size_a1 : Fld Z h0 a1 "com/example/krel/krel/saturation/AtomSet" "size" "I" (.int (2 : Int32))) (F_slots_a1 : Fld Z h0 a1 "com/example/krel/krel/saturation/AtomSet" "slots" "[I" (.ref c1)) (V_c1 : Arv Z h0 c1 k_c1 .int (8 : Int32) (L_c1.map Value.int) (.int (0 : Int32))) (hl_c1 : L_c1.length = 8) (F_atoms_a1 : Fld Z h0 a1 "com/example/krel/krel/saturation/AtomSet" "atoms" "[I" (.ref c2)) (V_c2 : Arv Z h0 c2 k_c2 .int (4 : Int32) [(.int e_c2_0), (.int e_c2_1), (.int e_c2_2), (.int e_c2_3)] (.int (0 : Int32))) (hI : own_Inv (own_H 8) L_c1 [e_c2_0, e_c2_1]) (hnn : own_nn [e_c2_0, e_c2_1]) (hnd : ([e_c2_0, e_c2_1]).Nodup) (hpos : ¬ p2 + 1 = 0) (g_c1 : n0 ≤ c1) (ne_a1_c1 : a1 ≠ c1) (ne_c2_c1 : c2 ≠ c1) (g_a1 : n0 ≤ a1) (ne_c2_a1 : c2 ≠ a1) (g_c2 : n0 ≤ c2) (ne_a1_c2 : a1 ≠ c2) (ne_c1_c2 : c1 ≠ c2) :
    MetFree l (⟨"com/example/krel/krel/saturation/AtomSet", "add", "(I)Z"⟩ : MethodName) (head1 (Jvm.Cond.code (⟨"com/example/krel/krel/saturation/AtomSet", "add", "(I)Z"⟩ : MethodName) prog_40_method_2_code 3 (some .boolean) :: ws) ({ frames := 2, cells := 2, slots := 24, locals := 80 } : Room)) (fun a U => a = #[(.ref a1), (.int p2)] ∧ Z.Warmed39 U.vm ∧ U.heap = h0) (fun _ _ _ _ _ => True) (fun _ U o U' => ∃ v L, o = .returned v ∧ Q2005 Z a1 p2 c1 k_c1 L_c1 c2 k_c2 e_c2_0 e_c2_1 e_c2_2 e_c2_3 h0 n0 v U'.heap L ∧ FrameEnd U o U' L ({ frames := 2, cells := 2, slots := 24, locals := 80 } : Room).cells ({ frames := 2, cells := 2, slots := 24, locals := 80 } : Room).slots) := by
  refine MetFree.of_bodySF (plainFor_of_name pn_2005) hisR ?_
  intro p e s m args below meth c s₁ Bd hml0 hP hK
  obtain ⟨rfl, hZ, hh⟩ := hP
  skip
  skip
  skip
  skip
  skip
  skip
  have hx := Bd.exec
  have hby := Bd.bytes
  have hml : c.maxLocals = 3 := hml0
  have hown : s.vm.findClass "com/example/krel/krel/saturation/AtomSet" = some m.cls := findClass_of_methodNamed Bd.named
  have hnm := (name_of_methodNamed Bd.named Bd.method).1
  have X0 : Stand p l e ({ frames := 2, cells := 2, slots := 24, locals := 80 } : Room) s m #[(.ref a1), (.int p2)] below meth c s₁ [] 0 0 := Stand.of_body Bd
  have e0 : s₁.heap = h0 := by rw [← hh, Bd.state]; rfl
  have N0 := Fr.nil n0
  have pre0 : ∀ t, Steps p.tables e below (s₁.setTop (mkF m 0 #[.val (.ref a1), .val (.int p2), .unset] [])) t → Steps p.tables e below (s₁.setTop (entryFrame m #[(.ref a1), (.int p2)] 3)) t := fun t k => castTop (ef_2005 m a1 p2) k
  obtain ⟨cq1, iq1, iq1'⟩ := E_a1.cell
  obtain ⟨_, _, ⟨T1, L1, k1, n1⟩, -, X1, ⟨Lc1, hQ1, l1, y1, z1⟩, st1⟩ := X0.privateBack hx (y := (⟨"com/example/krel/krel/saturation/AtomSet", "slotOf", "(I)I"⟩ : MethodName)) hown (mvT hZ (hw _ (List.mem_of_getElem? (i := 20) rfl))) (mvT hZ (hw _ (List.mem_of_getElem? (i := 21) rfl))) (own_selp (z := (⟨"com/example/krel/krel/saturation/AtomSet", "contains", "(I)Z"⟩ : MethodName)) (mvT hZ (hw _ (List.mem_of_getElem? (i := 18) rfl))) rfl (Cond.privateMethod_at (mvP hZ (hw _ (List.mem_of_getElem? (i := 22) rfl)) (args := #[]))) (mvT hZ (hw _ (List.mem_of_getElem? (i := 21) rfl))) (by decide)) (Cond.privateMethod_at (mvP hZ (hw _ (List.mem_of_getElem? (i := 22) rfl)) (args := #[]))) (mvT hZ (hw _ (List.mem_of_getElem? (i := 23) rfl))) (by decide) (backOf (W := 0) (rm4 l Z a0 hw [] a1 p2 c1 k_c1 L_c1 h0 n0 Z0 E_a1 F_slots_a1 V_c1 hl_c1 (side_2005_2 p2 L_c1 e_c2_0 e_c2_1 e_c2_2 e_c2_3 hl_c1 hI hnn hnd hpos)) hZ (hw _ (List.mem_of_getElem? (i := 23) rfl)) (hw _ (List.mem_of_getElem? (i := 3) rfl)) (by decide) (by decide)) (g := (mkF m 2 #[.val (.ref a1), .val (.int p2), .unset] [(.int p2), (.ref a1)])) rfl (by rw [hml]; rfl) (Steps.refl _) (a := a1) (by rw [e0]; exact iq1) iq1' (argsL := [(.int p2)]) (rest := []) (lenOf pd_2005_2 rfl) rfl (by show 2 * 0 + _ ≤ _; exact Nat.le_of_eq rfl) (hb hby d2005_2) (fun _ _ => ⟨rfl, e0, (by decide : 0 + 0 ≤ _), (by decide : 0 + 0 ≤ _)⟩)
  dsimp only [Pt.U, Pt.locs, Pt.cells, Pt.slots] at X1 l1 y1 z1 st1 hQ1
  subst l1 y1 z1
  obtain ⟨rfl, N1q, e1⟩ := hQ1
  have N1 := Fr.app N0 N1q
  obtain ⟨T2, X2, e2, st2⟩ := getF X1 hx hZ hown (host := "") (Or.inl (hw _ (List.mem_of_getElem? (i := 11) rfl))) Via.refl e1 F_slots_a1 (g := (mkF m 7 #[.val (.ref a1), .val (.int p2), .val (.int (F4 p2 L_c1))] [(.ref a1)])) rfl rfl (hb hby d2005_7)
  obtain ⟨cl3, Ar3, aq3, S3, M3, H3, G3⟩ := id V_c1
  have hin3 : ¬ ((F4 p2 L_c1) < 0 ∨ cl3.slots.size ≤ ((F4 p2 L_c1)).toNatClampNeg) := inb_of S3 (side_2005_11_3 p2 L_c1 e_c2_0 e_c2_1 e_c2_2 e_c2_3 hl_c1 hI hnn hnd hpos)
  have hat3 : cl3.slots[((F4 p2 L_c1)).toNatClampNeg]? = some (.int (own_at L_c1 (F4 p2 L_c1))) := Has.at H3 hin3 (own_getD L_c1 ((F4 p2 L_c1)).toNatClampNeg)
  have pre4 : ∀ t, Steps p.tables e below (T2.setTop (mkF m 12 #[.val (.ref a1), .val (.int p2), .val (.int (F4 p2 L_c1))] [(.int (own_at L_c1 (F4 p2 L_c1)))])) t → Steps p.tables e below (s₁.setTop (entryFrame m #[(.ref a1), (.int p2)] 3)) t := fun t kt => by
    refine pre0 t ?_
    show Steps p.tables e below (s₁.setTop (mkF m 0 #[.val (.ref a1), .val (.int p2), .unset] [])) _
    refine XS.aloadN X0.here hx rfl (hb hby d2005_0) rfl rfl ?_
    show Steps p.tables e below (s₁.setTop (mkF m 1 #[.val (.ref a1), .val (.int p2), .unset] [(.ref a1)])) _
    refine XS.iloadN X0.here hx rfl (hb hby d2005_1) rfl ?_
    show Steps p.tables e below (s₁.setTop (mkF m 2 #[.val (.ref a1), .val (.int p2), .unset] [(.int p2), (.ref a1)])) _
    refine st1.trans ?_
    show Steps p.tables e below (T1.setTop (mkF m 5 #[.val (.ref a1), .val (.int p2), .unset] [(.int (F4 p2 L_c1))])) _
    refine XS.istoreN X1.here hx rfl (hb hby d2005_5) rfl (l' := #[.val (.ref a1), .val (.int p2), .val (.int (F4 p2 L_c1))]) rfl ?_
    show Steps p.tables e below (T1.setTop (mkF m 6 #[.val (.ref a1), .val (.int p2), .val (.int (F4 p2 L_c1))] [])) _
    refine XS.aloadN X1.here hx rfl (hb hby d2005_6) rfl rfl ?_
    show Steps p.tables e below (T1.setTop (mkF m 7 #[.val (.ref a1), .val (.int p2), .val (.int (F4 p2 L_c1))] [(.ref a1)])) _
    refine st2 _ ?_
    show Steps p.tables e below (T2.setTop (mkF m 10 #[.val (.ref a1), .val (.int p2), .val (.int (F4 p2 L_c1))] [(.ref c1)])) _
    refine XS.iloadN X2.here hx rfl (hb hby d2005_10) rfl ?_
    show Steps p.tables e below (T2.setTop (mkF m 11 #[.val (.ref a1), .val (.int p2), .val (.int (F4 p2 L_c1))] [(.int (F4 p2 L_c1)), (.ref c1)])) _
    refine X2.iaload hx (j := (F4 p2 L_c1)) (v := (.int (own_at L_c1 (F4 p2 L_c1)))) (by rw [e2]; exact Ar3.1) (State.isArrayOf_alike hZ.alike Ar3.2.1) Ar3.2.2 hin3 hat3 (g := (mkF m 11 #[.val (.ref a1), .val (.int p2), .val (.int (F4 p2 L_c1))] [(.int (F4 p2 L_c1)), (.ref c1)])) rfl rfl (hb hby d2005_11) _ ?_
    exact kt
  by_cases hc5 : (own_at L_c1 (F4 p2 L_c1)) = (0 : Int32)
  · obtain ⟨T6, X6, e6, st6⟩ := getF X2 hx hZ hown (host := "") (Or.inl (hw _ (List.mem_of_getElem? (i := 11) rfl))) Via.refl e2 F_slots_a1 (g := (mkF m 18 #[.val (.ref a1), .val (.int p2), .val (.int (F4 p2 L_c1))] [(.ref a1)])) rfl rfl (hb hby d2005_18)
    have sd7 : ¬ ((F4 p2 L_c1) < 0) ∧ (F4 p2 L_c1) < (8 : Int32) := (side_2005_25_7 p2 L_c1 e_c2_0 e_c2_1 e_c2_2 e_c2_3 hl_c1 hI hnn hnd hpos hc5)
    have Vo7 : Arv Z h0 c1 k_c1 .int (8 : Int32) (L_c1.map Value.int) (.int (0 : Int32)) := V_c1
    obtain ⟨cl7, Ar7, aq7, S7, M7, H7, G7⟩ := id V_c1
    obtain ⟨T7, h7, X7, e7, W7, st7⟩ := stI X6 hx hZ e6 Ar7 (j := (F4 p2 L_c1)) (inb_of S7 sd7) (g := (mkF m 25 #[.val (.ref a1), .val (.int p2), .val (.int (F4 p2 L_c1))] [(.int (p2 + (1 : Int32))), (.int (F4 p2 L_c1)), (.ref c1)])) rfl rfl (hb hby d2005_25)
    have hl7 : (own_L2005_0 p2 L_c1 e_c2_0 e_c2_1 e_c2_2 e_c2_3).length = 8 := (List.length_set ..).trans hl_c1
    have V7 : Arv Z h7 c1 k_c1 .int (8 : Int32) ((own_L2005_0 p2 L_c1 e_c2_0 e_c2_1 e_c2_2 e_c2_3).map Value.int) (.int (0 : Int32)) := own_setL Vo7 hl_c1 W7 sd7
    have N7 := Fr.snoc X7 N1 g_c1
    have fq8 := (Fld.other W7 F_size_a1 (Or.inl ne_a1_c1))
    obtain ⟨T9, X9, e9, st9⟩ := getF X7 hx hZ hown (host := "") (Or.inl (hw _ (List.mem_of_getElem? (i := 30) rfl))) Via.refl e7 fq8 (g := (mkF m 27 #[.val (.ref a1), .val (.int p2), .val (.int (F4 p2 L_c1))] [(.ref a1)])) rfl rfl (hb hby d2005_27)
    have fq10 := (Fld.other W7 F_atoms_a1 (Or.inl ne_a1_c1))
    obtain ⟨T11, X11, e11, st11⟩ := getF X9 hx hZ hown (host := "") (Or.inl (hw _ (List.mem_of_getElem? (i := 13) rfl))) Via.refl e9 fq10 (g := (mkF m 31 #[.val (.ref a1), .val (.int p2), .val (.int (F4 p2 L_c1))] [(.ref a1), (.int (2 : Int32))])) rfl rfl (hb hby d2005_31)
    have fq12 := (V_c2.other W7 ne_c2_c1)
    obtain ⟨cl13, Ar13, aq13, S13, M13, H13, G13⟩ := id fq12
    obtain ⟨T14, X14, e14, st14⟩ := getF X11 hx hZ hown (host := "") (Or.inl (hw _ (List.mem_of_getElem? (i := 13) rfl))) Via.refl e11 fq10 (g := (mkF m 56 #[.val (.ref a1), .val (.int p2), .val (.int (F4 p2 L_c1))] [(.ref a1)])) rfl rfl (hb hby d2005_56)
    obtain ⟨T15, X15, e15, st15⟩ := getF X14 hx hZ hown (host := "") (Or.inl (hw _ (List.mem_of_getElem? (i := 30) rfl))) Via.refl e14 fq8 (g := (mkF m 61 #[.val (.ref a1), .val (.int p2), .val (.int (F4 p2 L_c1))] [(.ref a1), (.ref a1), (.ref c2)])) rfl rfl (hb hby d2005_61)
    have fq16 := (Exa.wr W7 E_a1)
    obtain ⟨T17, h17, X17, e17, W17, st17⟩ := putF X15 hx hZ hown (host := "") (Or.inl (hw _ (List.mem_of_getElem? (i := 30) rfl))) Via.refl e15 fq8 fq16 (Or.inl (hw _ (List.mem_of_getElem? (i := 31) rfl))) (hw _ (List.mem_of_getElem? (i := 2) rfl)) (ty := .int) (by decide) rfl rfl (g := (mkF m 67 #[.val (.ref a1), .val (.int p2), .val (.int (F4 p2 L_c1))] [(.int (3 : Int32)), (.ref a1), (.int (2 : Int32)), (.ref c2)])) rfl rfl (hb hby d2005_67)
    have Fw17 := Fld.same W17 fq8
    have N17 := Fr.snoc X17 N7 g_a1
    have fq18 := (fq12.other W17 ne_c2_a1)
    obtain ⟨cl19, Ar19, aq19, S19, M19, H19, G19⟩ := id fq18
    have hin19 : ¬ ((2 : Int32) < 0 ∨ cl19.slots.size ≤ ((2 : Int32)).toNatClampNeg) := inb_of S19 ⟨by decide, by decide⟩
    obtain ⟨T19, h19, X19, e19, W19, st19⟩ := stI X17 hx hZ e17 Ar19 (j := (2 : Int32)) hin19 (g := (mkF m 71 #[.val (.ref a1), .val (.int p2), .val (.int (F4 p2 L_c1))] [(.int p2), (.int (2 : Int32)), (.ref c2)])) rfl rfl (hb hby d2005_71)
    have V19 : Arv Z h19 c2 k_c2 .int (4 : Int32) [(.int e_c2_0), (.int e_c2_1), (.int p2), (.int e_c2_3)] (.int (0 : Int32)) := Arv.set Ar19 aq19 S19 M19 H19 G19 rfl W19 2 rfl (Nat.le_of_ble_eq_true rfl)
    have N19 := Fr.snoc X19 N17 g_c2
    have fq20 := (Fld.other W19 Fw17 (Or.inl (Ne.symm ne_c2_a1)))
    obtain ⟨T21, X21, e21, st21⟩ := getF X19 hx hZ hown (host := "") (Or.inl (hw _ (List.mem_of_getElem? (i := 30) rfl))) Via.refl e19 fq20 (g := (mkF m 73 #[.val (.ref a1), .val (.int p2), .val (.int (F4 p2 L_c1))] [(.ref a1)])) rfl rfl (hb hby d2005_73)
    have fq22 := (Fld.other W19 (Fld.other W17 (Fld.other W7 F_slots_a1 (Or.inl ne_a1_c1)) (Or.inr (slot_ne (Or.inl (hw _ (List.mem_of_getElem? (i := 12) rfl))) (Or.inl (hw _ (List.mem_of_getElem? (i := 31) rfl))) (by decide) (t := (.array .int)) (t' := .int) (by decide) (by decide)))) (Or.inl (Ne.symm ne_c2_a1)))
    obtain ⟨T23, X23, e23, st23⟩ := getF X21 hx hZ hown (host := "") (Or.inl (hw _ (List.mem_of_getElem? (i := 11) rfl))) Via.refl e21 fq22 (g := (mkF m 79 #[.val (.ref a1), .val (.int p2), .val (.int (F4 p2 L_c1))] [(.ref a1), (.int (6 : Int32))])) rfl rfl (hb hby d2005_79)
    have fq24 := ((V7.other W17 (Ne.symm ne_a1_c1)).other W19 (Ne.symm ne_c2_c1))
    obtain ⟨cl25, Ar25, aq25, S25, M25, H25, G25⟩ := id fq24
    have k26 : Keep h0 h19 [c1, a1, c2] := ((((Keep.refl h0 [c1, a1, c2]).wr W7 (Or.inl (by simp))).wr W17 (Or.inl (by simp))).wr W19 (Or.inl (by simp)))
    have fq27 := (Exa.wr W19 (Exa.wr W17 fq16))
    have fq28 := (Fld.other W19 (Fld.other W17 fq10 (Or.inr (slot_ne (Or.inl (hw _ (List.mem_of_getElem? (i := 14) rfl))) (Or.inl (hw _ (List.mem_of_getElem? (i := 31) rfl))) (by decide) (t := (.array .int)) (t' := .int) (by decide) (by decide)))) (Or.inl (Ne.symm ne_c2_a1)))
    obtain ⟨fs, hr, hrun, hended, hW, hsame⟩ := X23.leave (v := some (.int (1 : Int32))) (fun h => by rw [Bd.returns] at h; cases h)
    refine ⟨_, _, pre4 _ ?_, hrun, hended, _, _, rfl, ?_, ⟨_, rfl⟩, hW, hsame.mono (by decide) (by decide)⟩
    · show Steps p.tables e below (T2.setTop (mkF m 12 #[.val (.ref a1), .val (.int p2), .val (.int (F4 p2 L_c1))] [(.int (own_at L_c1 (F4 p2 L_c1)))])) _
      refine XS.ifYes X2.here hx rfl (pc0 := 12) (pc' := 17) rfl (hb hby d2005_12) rfl ((if0 _ _).trans (teq hc5).1) (by decide) (by decide) ?_
      show Steps p.tables e below (T2.setTop (mkF m 17 #[.val (.ref a1), .val (.int p2), .val (.int (F4 p2 L_c1))] [])) _
      refine XS.aloadN X2.here hx rfl (hb hby d2005_17) rfl rfl ?_
      show Steps p.tables e below (T2.setTop (mkF m 18 #[.val (.ref a1), .val (.int p2), .val (.int (F4 p2 L_c1))] [(.ref a1)])) _
      refine st6 _ ?_
      show Steps p.tables e below (T6.setTop (mkF m 21 #[.val (.ref a1), .val (.int p2), .val (.int (F4 p2 L_c1))] [(.ref c1)])) _
      refine XS.iloadN X6.here hx rfl (hb hby d2005_21) rfl ?_
      show Steps p.tables e below (T6.setTop (mkF m 22 #[.val (.ref a1), .val (.int p2), .val (.int (F4 p2 L_c1))] [(.int (F4 p2 L_c1)), (.ref c1)])) _
      refine XS.iloadN X6.here hx rfl (hb hby d2005_22) rfl ?_
      show Steps p.tables e below (T6.setTop (mkF m 23 #[.val (.ref a1), .val (.int p2), .val (.int (F4 p2 L_c1))] [(.int p2), (.int (F4 p2 L_c1)), (.ref c1)])) _
      refine XS.iconst X6.here hx rfl (hb hby d2005_23) ?_
      show Steps p.tables e below (T6.setTop (mkF m 24 #[.val (.ref a1), .val (.int p2), .val (.int (F4 p2 L_c1))] [(.int (1 : Int32)), (.int p2), (.int (F4 p2 L_c1)), (.ref c1)])) _
      refine XS.iadd X6.here hx rfl (hb hby d2005_24) rfl ?_
      show Steps p.tables e below (T6.setTop (mkF m 25 #[.val (.ref a1), .val (.int p2), .val (.int (F4 p2 L_c1))] [(.int (p2 + (1 : Int32))), (.int (F4 p2 L_c1)), (.ref c1)])) _
      refine st7 _ ?_
      show Steps p.tables e below (T7.setTop (mkF m 26 #[.val (.ref a1), .val (.int p2), .val (.int (F4 p2 L_c1))] [])) _
      refine XS.aloadN X7.here hx rfl (hb hby d2005_26) rfl rfl ?_
      show Steps p.tables e below (T7.setTop (mkF m 27 #[.val (.ref a1), .val (.int p2), .val (.int (F4 p2 L_c1))] [(.ref a1)])) _
      refine st9 _ ?_
      show Steps p.tables e below (T9.setTop (mkF m 30 #[.val (.ref a1), .val (.int p2), .val (.int (F4 p2 L_c1))] [(.int (2 : Int32))])) _
      refine XS.aloadN X9.here hx rfl (hb hby d2005_30) rfl rfl ?_
      show Steps p.tables e below (T9.setTop (mkF m 31 #[.val (.ref a1), .val (.int p2), .val (.int (F4 p2 L_c1))] [(.ref a1), (.int (2 : Int32))])) _
      refine st11 _ ?_
      show Steps p.tables e below (T11.setTop (mkF m 34 #[.val (.ref a1), .val (.int p2), .val (.int (F4 p2 L_c1))] [(.ref c2), (.int (2 : Int32))])) _
      refine X11.arraylength hx (by rw [e11]; exact Ar13.1) (State.isArrayOf_alike hZ.alike Ar13.2.1) (g := (mkF m 34 #[.val (.ref a1), .val (.int p2), .val (.int (F4 p2 L_c1))] [(.ref c2), (.int (2 : Int32))])) rfl rfl (hb hby d2005_34) _ ?_
      rw [len_of S13 M13]
      show Steps p.tables e below (T11.setTop (mkF m 35 #[.val (.ref a1), .val (.int p2), .val (.int (F4 p2 L_c1))] [(.int (4 : Int32)), (.int (2 : Int32))])) _
      refine XS.icmpYes X11.here hx rfl (pc0 := 35) (pc' := 55) rfl (hb hby d2005_35) rfl (feq (by decide : ¬ ((2 : Int32) = (4 : Int32)))).2 (by decide) (by decide) ?_
      show Steps p.tables e below (T11.setTop (mkF m 55 #[.val (.ref a1), .val (.int p2), .val (.int (F4 p2 L_c1))] [])) _
      refine XS.aloadN X11.here hx rfl (hb hby d2005_55) rfl rfl ?_
      show Steps p.tables e below (T11.setTop (mkF m 56 #[.val (.ref a1), .val (.int p2), .val (.int (F4 p2 L_c1))] [(.ref a1)])) _
      refine st14 _ ?_
      show Steps p.tables e below (T14.setTop (mkF m 59 #[.val (.ref a1), .val (.int p2), .val (.int (F4 p2 L_c1))] [(.ref c2)])) _
      refine XS.aloadN X14.here hx rfl (hb hby d2005_59) rfl rfl ?_
      show Steps p.tables e below (T14.setTop (mkF m 60 #[.val (.ref a1), .val (.int p2), .val (.int (F4 p2 L_c1))] [(.ref a1), (.ref c2)])) _
      refine XS.dup X14.here hx rfl (hb hby d2005_60) rfl rfl ?_
      show Steps p.tables e below (T14.setTop (mkF m 61 #[.val (.ref a1), .val (.int p2), .val (.int (F4 p2 L_c1))] [(.ref a1), (.ref a1), (.ref c2)])) _
      refine st15 _ ?_
      show Steps p.tables e below (T15.setTop (mkF m 64 #[.val (.ref a1), .val (.int p2), .val (.int (F4 p2 L_c1))] [(.int (2 : Int32)), (.ref a1), (.ref c2)])) _
      refine XS.dupX1 X15.here hx rfl (hb hby d2005_64) rfl rfl rfl ?_
      show Steps p.tables e below (T15.setTop (mkF m 65 #[.val (.ref a1), .val (.int p2), .val (.int (F4 p2 L_c1))] [(.int (2 : Int32)), (.ref a1), (.int (2 : Int32)), (.ref c2)])) _
      refine XS.iconst X15.here hx rfl (hb hby d2005_65) ?_
      show Steps p.tables e below (T15.setTop (mkF m 66 #[.val (.ref a1), .val (.int p2), .val (.int (F4 p2 L_c1))] [(.int (1 : Int32)), (.int (2 : Int32)), (.ref a1), (.int (2 : Int32)), (.ref c2)])) _
      refine XS.iadd X15.here hx rfl (hb hby d2005_66) rfl ?_
      show Steps p.tables e below (T15.setTop (mkF m 67 #[.val (.ref a1), .val (.int p2), .val (.int (F4 p2 L_c1))] [(.int (3 : Int32)), (.ref a1), (.int (2 : Int32)), (.ref c2)])) _
      refine st17 _ ?_
      show Steps p.tables e below (T17.setTop (mkF m 70 #[.val (.ref a1), .val (.int p2), .val (.int (F4 p2 L_c1))] [(.int (2 : Int32)), (.ref c2)])) _
      refine XS.iloadN X17.here hx rfl (hb hby d2005_70) rfl ?_
      show Steps p.tables e below (T17.setTop (mkF m 71 #[.val (.ref a1), .val (.int p2), .val (.int (F4 p2 L_c1))] [(.int p2), (.int (2 : Int32)), (.ref c2)])) _
      refine st19 _ ?_
      show Steps p.tables e below (T19.setTop (mkF m 72 #[.val (.ref a1), .val (.int p2), .val (.int (F4 p2 L_c1))] [])) _
      refine XS.aloadN X19.here hx rfl (hb hby d2005_72) rfl rfl ?_
      show Steps p.tables e below (T19.setTop (mkF m 73 #[.val (.ref a1), .val (.int p2), .val (.int (F4 p2 L_c1))] [(.ref a1)])) _
      refine st21 _ ?_
      show Steps p.tables e below (T21.setTop (mkF m 76 #[.val (.ref a1), .val (.int p2), .val (.int (F4 p2 L_c1))] [(.int (3 : Int32))])) _
      refine XS.iconst X21.here hx rfl (hb hby d2005_76) ?_
      show Steps p.tables e below (T21.setTop (mkF m 77 #[.val (.ref a1), .val (.int p2), .val (.int (F4 p2 L_c1))] [(.int (2 : Int32)), (.int (3 : Int32))])) _
      refine XS.imul X21.here hx rfl (hb hby d2005_77) rfl ?_
      show Steps p.tables e below (T21.setTop (mkF m 78 #[.val (.ref a1), .val (.int p2), .val (.int (F4 p2 L_c1))] [(.int (6 : Int32))])) _
      refine XS.aloadN X21.here hx rfl (hb hby d2005_78) rfl rfl ?_
      show Steps p.tables e below (T21.setTop (mkF m 79 #[.val (.ref a1), .val (.int p2), .val (.int (F4 p2 L_c1))] [(.ref a1), (.int (6 : Int32))])) _
      refine st23 _ ?_
      show Steps p.tables e below (T23.setTop (mkF m 82 #[.val (.ref a1), .val (.int p2), .val (.int (F4 p2 L_c1))] [(.ref c1), (.int (6 : Int32))])) _
      refine X23.arraylength hx (by rw [e23]; exact Ar25.1) (State.isArrayOf_alike hZ.alike Ar25.2.1) (g := (mkF m 82 #[.val (.ref a1), .val (.int p2), .val (.int (F4 p2 L_c1))] [(.ref c1), (.int (6 : Int32))])) rfl rfl (hb hby d2005_82) _ ?_
      rw [len_of S25 M25]
      show Steps p.tables e below (T23.setTop (mkF m 83 #[.val (.ref a1), .val (.int p2), .val (.int (F4 p2 L_c1))] [(.int (8 : Int32)), (.int (6 : Int32))])) _
      refine XS.icmpYes X23.here hx rfl (pc0 := 83) (pc' := 97) rfl (hb hby d2005_83) rfl (flt (by decide : ¬ ((8 : Int32) < (6 : Int32)))).2.2.2 (by decide) (by decide) ?_
      show Steps p.tables e below (T23.setTop (mkF m 97 #[.val (.ref a1), .val (.int p2), .val (.int (F4 p2 L_c1))] [])) _
      refine XS.iconst X23.here hx rfl (hb hby d2005_97) ?_
      show Steps p.tables e below (T23.setTop (mkF m 98 #[.val (.ref a1), .val (.int p2), .val (.int (F4 p2 L_c1))] [(.int (1 : Int32))])) _
      exact retN X23 hx (t := .boolean) Bd.returns (by simp) (hb hby d2005_98) hr
    · show Q2005 Z a1 p2 c1 k_c1 L_c1 c2 k_c2 e_c2_0 e_c2_1 e_c2_2 e_c2_3 h0 n0 _ T23.heap _
      rw [e23]
      refine ⟨⟨_, rfl⟩, N19, k26.1, ?_⟩
      have hm : ¬ p2 ∈ [e_c2_0, e_c2_1] := (own_found_8 hl_c1 hI hnn (by simp) p2 hpos).1 hc5
      rw [own_ins, if_neg hm]
      exact ⟨c1, c2, k_c1, k_c2, (own_L2005_0 p2 L_c1 e_c2_0 e_c2_1 e_c2_2 e_c2_3), ([e_c2_0, e_c2_1, p2, e_c2_3] : List Int32), fq27, fq22, fq28, fq20, g_a1, g_c1, g_c2, ne_a1_c1, (Ne.symm ne_c2_a1), (Ne.symm ne_c2_c1), own_nnS hnn hpos, own_ndS hnd hm, Or.inl ⟨by simp, hl7, fq24, own_put_8 hl_c1 hI hnn (by simp) p2 hpos hm, rfl, V19, rfl⟩⟩
  · obtain ⟨fs, hr, hrun, hended, hW, hsame⟩ := X2.leave (v := some (.int (0 : Int32))) (fun h => by rw [Bd.returns] at h; cases h)
    refine ⟨_, _, pre4 _ ?_, hrun, hended, _, _, rfl, ?_, ⟨_, rfl⟩, hW, hsame.mono (by decide) (by decide)⟩
    · show Steps p.tables e below (T2.setTop (mkF m 12 #[.val (.ref a1), .val (.int p2), .val (.int (F4 p2 L_c1))] [(.int (own_at L_c1 (F4 p2 L_c1)))])) _
      refine XS.ifNo X2.here hx rfl (hb hby d2005_12) rfl ((if0 _ _).trans (feq hc5).1) ?_
      show Steps p.tables e below (T2.setTop (mkF m 15 #[.val (.ref a1), .val (.int p2), .val (.int (F4 p2 L_c1))] [])) _
      refine XS.iconst X2.here hx rfl (hb hby d2005_15) ?_
      show Steps p.tables e below (T2.setTop (mkF m 16 #[.val (.ref a1), .val (.int p2), .val (.int (F4 p2 L_c1))] [(.int (0 : Int32))])) _
      exact retN X2 hx (t := .boolean) Bd.returns (by simp) (hb hby d2005_16) hr
    · show Q2005 Z a1 p2 c1 k_c1 L_c1 c2 k_c2 e_c2_0 e_c2_1 e_c2_2 e_c2_3 h0 n0 _ T2.heap _
      rw [e2]
      refine ⟨⟨_, rfl⟩, N1, Nat.le_refl _, ?_⟩
      have hm : p2 ∈ [e_c2_0, e_c2_1] := (own_found_8 hl_c1 hI hnn (by simp) p2 hpos).2 hc5
      rw [own_ins, if_pos hm]
      exact ⟨c1, c2, k_c1, k_c2, L_c1, [e_c2_0, e_c2_1, e_c2_2, e_c2_3], E_a1, F_slots_a1, F_atoms_a1, F_size_a1, g_a1, g_c1, g_c2, ne_a1_c1, ne_a1_c2, ne_c1_c2, hnn, hnd, Or.inl ⟨by simp, hl_c1, V_c1, hI, rfl, V_c2, rfl⟩⟩
theorem d3005_0 : decode prog_40_method_2_code 0 = .ok (.aload_n 0, 1) := by decide +kernel
theorem d3005_1 : decode prog_40_method_2_code 1 = .ok (.iload_n 1, 1) := by decide +kernel
theorem d3005_2 : decode prog_40_method_2_code 2 = .ok (.invokevirtual 16, 3) := by decide +kernel
theorem d3005_5 : decode prog_40_method_2_code 5 = .ok (.istore_n 2, 1) := by decide +kernel
theorem d3005_6 : decode prog_40_method_2_code 6 = .ok (.aload_n 0, 1) := by decide +kernel
theorem d3005_7 : decode prog_40_method_2_code 7 = .ok (.getfield 7, 3) := by decide +kernel
theorem d3005_10 : decode prog_40_method_2_code 10 = .ok (.iload_n 2, 1) := by decide +kernel
theorem d3005_11 : decode prog_40_method_2_code 11 = .ok (.iaload, 1) := by decide +kernel
theorem d3005_12 : decode prog_40_method_2_code 12 = .ok (.ifCond .eq 5, 3) := by decide +kernel
theorem d3005_15 : decode prog_40_method_2_code 15 = .ok (.iconst 0, 1) := by decide +kernel
theorem d3005_16 : decode prog_40_method_2_code 16 = .ok (.ireturn, 1) := by decide +kernel
theorem d3005_17 : decode prog_40_method_2_code 17 = .ok (.aload_n 0, 1) := by decide +kernel
theorem d3005_18 : decode prog_40_method_2_code 18 = .ok (.getfield 7, 3) := by decide +kernel
theorem d3005_21 : decode prog_40_method_2_code 21 = .ok (.iload_n 2, 1) := by decide +kernel
theorem d3005_22 : decode prog_40_method_2_code 22 = .ok (.iload_n 1, 1) := by decide +kernel
theorem d3005_23 : decode prog_40_method_2_code 23 = .ok (.iconst 1, 1) := by decide +kernel
theorem d3005_24 : decode prog_40_method_2_code 24 = .ok (.iadd, 1) := by decide +kernel
theorem d3005_25 : decode prog_40_method_2_code 25 = .ok (.iastore, 1) := by decide +kernel
theorem d3005_26 : decode prog_40_method_2_code 26 = .ok (.aload_n 0, 1) := by decide +kernel
theorem d3005_27 : decode prog_40_method_2_code 27 = .ok (.getfield 20, 3) := by decide +kernel
theorem d3005_30 : decode prog_40_method_2_code 30 = .ok (.aload_n 0, 1) := by decide +kernel
theorem d3005_31 : decode prog_40_method_2_code 31 = .ok (.getfield 13, 3) := by decide +kernel
theorem d3005_34 : decode prog_40_method_2_code 34 = .ok (.arraylength, 1) := by decide +kernel
theorem d3005_35 : decode prog_40_method_2_code 35 = .ok (.if_icmp .ne 20, 3) := by decide +kernel
theorem d3005_55 : decode prog_40_method_2_code 55 = .ok (.aload_n 0, 1) := by decide +kernel
theorem d3005_56 : decode prog_40_method_2_code 56 = .ok (.getfield 13, 3) := by decide +kernel
theorem d3005_59 : decode prog_40_method_2_code 59 = .ok (.aload_n 0, 1) := by decide +kernel
theorem d3005_60 : decode prog_40_method_2_code 60 = .ok (.dup, 1) := by decide +kernel
theorem d3005_61 : decode prog_40_method_2_code 61 = .ok (.getfield 20, 3) := by decide +kernel
theorem d3005_64 : decode prog_40_method_2_code 64 = .ok (.dup_x1, 1) := by decide +kernel
theorem d3005_65 : decode prog_40_method_2_code 65 = .ok (.iconst 1, 1) := by decide +kernel
theorem d3005_66 : decode prog_40_method_2_code 66 = .ok (.iadd, 1) := by decide +kernel
theorem d3005_67 : decode prog_40_method_2_code 67 = .ok (.putfield 20, 3) := by decide +kernel
theorem d3005_70 : decode prog_40_method_2_code 70 = .ok (.iload_n 1, 1) := by decide +kernel
theorem d3005_71 : decode prog_40_method_2_code 71 = .ok (.iastore, 1) := by decide +kernel
theorem d3005_72 : decode prog_40_method_2_code 72 = .ok (.aload_n 0, 1) := by decide +kernel
theorem d3005_73 : decode prog_40_method_2_code 73 = .ok (.getfield 20, 3) := by decide +kernel
theorem d3005_76 : decode prog_40_method_2_code 76 = .ok (.iconst 2, 1) := by decide +kernel
theorem d3005_77 : decode prog_40_method_2_code 77 = .ok (.imul, 1) := by decide +kernel
theorem d3005_78 : decode prog_40_method_2_code 78 = .ok (.aload_n 0, 1) := by decide +kernel
theorem d3005_79 : decode prog_40_method_2_code 79 = .ok (.getfield 7, 3) := by decide +kernel
theorem d3005_82 : decode prog_40_method_2_code 82 = .ok (.arraylength, 1) := by decide +kernel
theorem d3005_83 : decode prog_40_method_2_code 83 = .ok (.if_icmp .le 14, 3) := by decide +kernel
theorem d3005_97 : decode prog_40_method_2_code 97 = .ok (.iconst 1, 1) := by decide +kernel
theorem d3005_98 : decode prog_40_method_2_code 98 = .ok (.ireturn, 1) := by decide +kernel
theorem pn_3005 : plainName "com/example/krel/krel/saturation/AtomSet" = true := by first | (simp [plainName, overriddenIn]; done) | decide +kernel
theorem pd_3005_2 : parseMethodDescriptor "(I)I" = some ⟨[.int], some .int⟩ := by decide +kernel
theorem ef_3005 (m : MethodId) (a1 : Addr) (p2 : Int32) : entryFrame m #[(.ref a1), (.int p2)] 3 = mkF m 0 #[.val (.ref a1), .val (.int p2), .unset] [] := by first | (simp [entryFrame, mkF, argsToLocals, Value.category]; done) | rfl
def own_L3005_0 (p2 : Int32) (L_c1 : List Int32) (e_c2_0 : Int32) (e_c2_1 : Int32) (e_c2_2 : Int32) (e_c2_3 : Int32) : List Int32 := L_c1.set ((F4 p2 L_c1)).toNatClampNeg (p2 + (1 : Int32))

set_option maxRecDepth 65536 in
set_option maxHeartbeats 40000000 in
theorem side_3005_2 (p2 : Int32) (L_c1 : List Int32) (e_c2_0 : Int32) (e_c2_1 : Int32) (e_c2_2 : Int32) (e_c2_3 : Int32) (hl_c1 : L_c1.length = 8) (hI : own_Inv (own_H 8) L_c1 [e_c2_0, e_c2_1, e_c2_2]) (hnn : own_nn [e_c2_0, e_c2_1, e_c2_2]) (hnd : ([e_c2_0, e_c2_1, e_c2_2]).Nodup) (hpos : ¬ p2 + 1 = 0) : own_Free 8 L_c1 p2 := by
  exact own_free_8 hl_c1 hI (by simp) p2
set_option maxRecDepth 65536 in
set_option maxHeartbeats 40000000 in
theorem side_3005_11_3 (p2 : Int32) (L_c1 : List Int32) (e_c2_0 : Int32) (e_c2_1 : Int32) (e_c2_2 : Int32) (e_c2_3 : Int32) (hl_c1 : L_c1.length = 8) (hI : own_Inv (own_H 8) L_c1 [e_c2_0, e_c2_1, e_c2_2]) (hnn : own_nn [e_c2_0, e_c2_1, e_c2_2]) (hnd : ([e_c2_0, e_c2_1, e_c2_2]).Nodup) (hpos : ¬ p2 + 1 = 0) : ¬ ((F4 p2 L_c1) < 0) ∧ (F4 p2 L_c1) < (8 : Int32) := by
  exact own_bd_8 _ _ hl_c1
set_option maxRecDepth 65536 in
set_option maxHeartbeats 40000000 in
theorem side_3005_25_7 (p2 : Int32) (L_c1 : List Int32) (e_c2_0 : Int32) (e_c2_1 : Int32) (e_c2_2 : Int32) (e_c2_3 : Int32) (hl_c1 : L_c1.length = 8) (hI : own_Inv (own_H 8) L_c1 [e_c2_0, e_c2_1, e_c2_2]) (hnn : own_nn [e_c2_0, e_c2_1, e_c2_2]) (hnd : ([e_c2_0, e_c2_1, e_c2_2]).Nodup) (hpos : ¬ p2 + 1 = 0) (hc5 : (own_at L_c1 (F4 p2 L_c1)) = (0 : Int32)) : ¬ ((F4 p2 L_c1) < 0) ∧ (F4 p2 L_c1) < (8 : Int32) := by
  exact own_bd_8 _ _ hl_c1
def Q3005 (Z : State) (a1 : Addr) (p2 : Int32) (c1 : Addr) (k_c1 : ClassId) (L_c1 : List Int32) (c2 : Addr) (k_c2 : ClassId) (e_c2_0 : Int32) (e_c2_1 : Int32) (e_c2_2 : Int32) (e_c2_3 : Int32) (h0 : Heap) (n0 : Nat) (v : Option Value) (h : Heap) (L : List Loc) : Prop := (∃ r : Int32, v = some (.int r)) ∧ Fr n0 L ∧ h0.size ≤ h.size ∧ own_AS Z h n0 a1 (own_ins [e_c2_0, e_c2_1, e_c2_2] p2)
set_option maxRecDepth 65536 in
set_option maxHeartbeats 40000000 in
theorem rm3005 (l : Launch) (Z : State) (a0 : Array Value) (hw : ∀ d ∈ tables_1, d.before a0 Z = true) (ws : List Jvm.Cond) (a1 : Addr) (p2 : Int32) (c1 : Addr) (k_c1 : ClassId) (L_c1 : List Int32) (c2 : Addr) (k_c2 : ClassId) (e_c2_0 : Int32) (e_c2_1 : Int32) (e_c2_2 : Int32) (e_c2_3 : Int32) (h0 : Heap) (n0 : Nat) (Z0 : n0 ≤ h0.size) (E_a1 : Exa Z h0 a1 "com/example/krel/krel/saturation/AtomSet") (F_size_a1 : Fld Z h0 a1 "com/example/krel/krel/saturation/AtomSet" "size" "I" (.int (3 : Int32))) (F_slots_a1 : Fld Z h0 a1 "com/example/krel/krel/saturation/AtomSet" "slots" "[I" (.ref c1)) (V_c1 : Arv Z h0 c1 k_c1 .int (8 : Int32) (L_c1.map Value.int) (.int (0 : Int32))) (hl_c1 : L_c1.length = 8) (F_atoms_a1 : Fld Z h0 a1 "com/example/krel/krel/saturation/AtomSet" "atoms" "[I" (.ref c2)) (V_c2 : Arv Z h0 c2 k_c2 .int (4 : Int32) [(.int e_c2_0), (.int e_c2_1), (.int e_c2_2), (.int e_c2_3)] (.int (0 : Int32))) (hI : own_Inv (own_H 8) L_c1 [e_c2_0, e_c2_1, e_c2_2]) (hnn : own_nn [e_c2_0, e_c2_1, e_c2_2]) (hnd : ([e_c2_0, e_c2_1, e_c2_2]).Nodup) (hpos : ¬ p2 + 1 = 0) (g_c1 : n0 ≤ c1) (ne_a1_c1 : a1 ≠ c1) (ne_c2_c1 : c2 ≠ c1) (g_a1 : n0 ≤ a1) (ne_c2_a1 : c2 ≠ a1) (g_c2 : n0 ≤ c2) (ne_a1_c2 : a1 ≠ c2) (ne_c1_c2 : c1 ≠ c2) :
    MetFree l (⟨"com/example/krel/krel/saturation/AtomSet", "add", "(I)Z"⟩ : MethodName) (head1 (Jvm.Cond.code (⟨"com/example/krel/krel/saturation/AtomSet", "add", "(I)Z"⟩ : MethodName) prog_40_method_2_code 3 (some .boolean) :: ws) ({ frames := 2, cells := 2, slots := 24, locals := 80 } : Room)) (fun a U => a = #[(.ref a1), (.int p2)] ∧ Z.Warmed39 U.vm ∧ U.heap = h0) (fun _ _ _ _ _ => True) (fun _ U o U' => ∃ v L, o = .returned v ∧ Q3005 Z a1 p2 c1 k_c1 L_c1 c2 k_c2 e_c2_0 e_c2_1 e_c2_2 e_c2_3 h0 n0 v U'.heap L ∧ FrameEnd U o U' L ({ frames := 2, cells := 2, slots := 24, locals := 80 } : Room).cells ({ frames := 2, cells := 2, slots := 24, locals := 80 } : Room).slots) := by
  refine MetFree.of_bodySF (plainFor_of_name pn_3005) hisR ?_
  intro p e s m args below meth c s₁ Bd hml0 hP hK
  obtain ⟨rfl, hZ, hh⟩ := hP
  skip
  skip
  skip
  skip
  skip
  skip
  have hx := Bd.exec
  have hby := Bd.bytes
  have hml : c.maxLocals = 3 := hml0
  have hown : s.vm.findClass "com/example/krel/krel/saturation/AtomSet" = some m.cls := findClass_of_methodNamed Bd.named
  have hnm := (name_of_methodNamed Bd.named Bd.method).1
  have X0 : Stand p l e ({ frames := 2, cells := 2, slots := 24, locals := 80 } : Room) s m #[(.ref a1), (.int p2)] below meth c s₁ [] 0 0 := Stand.of_body Bd
  have e0 : s₁.heap = h0 := by rw [← hh, Bd.state]; rfl
  have N0 := Fr.nil n0
  have pre0 : ∀ t, Steps p.tables e below (s₁.setTop (mkF m 0 #[.val (.ref a1), .val (.int p2), .unset] [])) t → Steps p.tables e below (s₁.setTop (entryFrame m #[(.ref a1), (.int p2)] 3)) t := fun t k => castTop (ef_3005 m a1 p2) k
  obtain ⟨cq1, iq1, iq1'⟩ := E_a1.cell
  obtain ⟨_, _, ⟨T1, L1, k1, n1⟩, -, X1, ⟨Lc1, hQ1, l1, y1, z1⟩, st1⟩ := X0.privateBack hx (y := (⟨"com/example/krel/krel/saturation/AtomSet", "slotOf", "(I)I"⟩ : MethodName)) hown (mvT hZ (hw _ (List.mem_of_getElem? (i := 20) rfl))) (mvT hZ (hw _ (List.mem_of_getElem? (i := 21) rfl))) (own_selp (z := (⟨"com/example/krel/krel/saturation/AtomSet", "contains", "(I)Z"⟩ : MethodName)) (mvT hZ (hw _ (List.mem_of_getElem? (i := 18) rfl))) rfl (Cond.privateMethod_at (mvP hZ (hw _ (List.mem_of_getElem? (i := 22) rfl)) (args := #[]))) (mvT hZ (hw _ (List.mem_of_getElem? (i := 21) rfl))) (by decide)) (Cond.privateMethod_at (mvP hZ (hw _ (List.mem_of_getElem? (i := 22) rfl)) (args := #[]))) (mvT hZ (hw _ (List.mem_of_getElem? (i := 23) rfl))) (by decide) (backOf (W := 0) (rm4 l Z a0 hw [] a1 p2 c1 k_c1 L_c1 h0 n0 Z0 E_a1 F_slots_a1 V_c1 hl_c1 (side_3005_2 p2 L_c1 e_c2_0 e_c2_1 e_c2_2 e_c2_3 hl_c1 hI hnn hnd hpos)) hZ (hw _ (List.mem_of_getElem? (i := 23) rfl)) (hw _ (List.mem_of_getElem? (i := 3) rfl)) (by decide) (by decide)) (g := (mkF m 2 #[.val (.ref a1), .val (.int p2), .unset] [(.int p2), (.ref a1)])) rfl (by rw [hml]; rfl) (Steps.refl _) (a := a1) (by rw [e0]; exact iq1) iq1' (argsL := [(.int p2)]) (rest := []) (lenOf pd_3005_2 rfl) rfl (by show 2 * 0 + _ ≤ _; exact Nat.le_of_eq rfl) (hb hby d3005_2) (fun _ _ => ⟨rfl, e0, (by decide : 0 + 0 ≤ _), (by decide : 0 + 0 ≤ _)⟩)
  dsimp only [Pt.U, Pt.locs, Pt.cells, Pt.slots] at X1 l1 y1 z1 st1 hQ1
  subst l1 y1 z1
  obtain ⟨rfl, N1q, e1⟩ := hQ1
  have N1 := Fr.app N0 N1q
  obtain ⟨T2, X2, e2, st2⟩ := getF X1 hx hZ hown (host := "") (Or.inl (hw _ (List.mem_of_getElem? (i := 11) rfl))) Via.refl e1 F_slots_a1 (g := (mkF m 7 #[.val (.ref a1), .val (.int p2), .val (.int (F4 p2 L_c1))] [(.ref a1)])) rfl rfl (hb hby d3005_7)
  obtain ⟨cl3, Ar3, aq3, S3, M3, H3, G3⟩ := id V_c1
  have hin3 : ¬ ((F4 p2 L_c1) < 0 ∨ cl3.slots.size ≤ ((F4 p2 L_c1)).toNatClampNeg) := inb_of S3 (side_3005_11_3 p2 L_c1 e_c2_0 e_c2_1 e_c2_2 e_c2_3 hl_c1 hI hnn hnd hpos)
  have hat3 : cl3.slots[((F4 p2 L_c1)).toNatClampNeg]? = some (.int (own_at L_c1 (F4 p2 L_c1))) := Has.at H3 hin3 (own_getD L_c1 ((F4 p2 L_c1)).toNatClampNeg)
  have pre4 : ∀ t, Steps p.tables e below (T2.setTop (mkF m 12 #[.val (.ref a1), .val (.int p2), .val (.int (F4 p2 L_c1))] [(.int (own_at L_c1 (F4 p2 L_c1)))])) t → Steps p.tables e below (s₁.setTop (entryFrame m #[(.ref a1), (.int p2)] 3)) t := fun t kt => by
    refine pre0 t ?_
    show Steps p.tables e below (s₁.setTop (mkF m 0 #[.val (.ref a1), .val (.int p2), .unset] [])) _
    refine XS.aloadN X0.here hx rfl (hb hby d3005_0) rfl rfl ?_
    show Steps p.tables e below (s₁.setTop (mkF m 1 #[.val (.ref a1), .val (.int p2), .unset] [(.ref a1)])) _
    refine XS.iloadN X0.here hx rfl (hb hby d3005_1) rfl ?_
    show Steps p.tables e below (s₁.setTop (mkF m 2 #[.val (.ref a1), .val (.int p2), .unset] [(.int p2), (.ref a1)])) _
    refine st1.trans ?_
    show Steps p.tables e below (T1.setTop (mkF m 5 #[.val (.ref a1), .val (.int p2), .unset] [(.int (F4 p2 L_c1))])) _
    refine XS.istoreN X1.here hx rfl (hb hby d3005_5) rfl (l' := #[.val (.ref a1), .val (.int p2), .val (.int (F4 p2 L_c1))]) rfl ?_
    show Steps p.tables e below (T1.setTop (mkF m 6 #[.val (.ref a1), .val (.int p2), .val (.int (F4 p2 L_c1))] [])) _
    refine XS.aloadN X1.here hx rfl (hb hby d3005_6) rfl rfl ?_
    show Steps p.tables e below (T1.setTop (mkF m 7 #[.val (.ref a1), .val (.int p2), .val (.int (F4 p2 L_c1))] [(.ref a1)])) _
    refine st2 _ ?_
    show Steps p.tables e below (T2.setTop (mkF m 10 #[.val (.ref a1), .val (.int p2), .val (.int (F4 p2 L_c1))] [(.ref c1)])) _
    refine XS.iloadN X2.here hx rfl (hb hby d3005_10) rfl ?_
    show Steps p.tables e below (T2.setTop (mkF m 11 #[.val (.ref a1), .val (.int p2), .val (.int (F4 p2 L_c1))] [(.int (F4 p2 L_c1)), (.ref c1)])) _
    refine X2.iaload hx (j := (F4 p2 L_c1)) (v := (.int (own_at L_c1 (F4 p2 L_c1)))) (by rw [e2]; exact Ar3.1) (State.isArrayOf_alike hZ.alike Ar3.2.1) Ar3.2.2 hin3 hat3 (g := (mkF m 11 #[.val (.ref a1), .val (.int p2), .val (.int (F4 p2 L_c1))] [(.int (F4 p2 L_c1)), (.ref c1)])) rfl rfl (hb hby d3005_11) _ ?_
    exact kt
  by_cases hc5 : (own_at L_c1 (F4 p2 L_c1)) = (0 : Int32)
  · obtain ⟨T6, X6, e6, st6⟩ := getF X2 hx hZ hown (host := "") (Or.inl (hw _ (List.mem_of_getElem? (i := 11) rfl))) Via.refl e2 F_slots_a1 (g := (mkF m 18 #[.val (.ref a1), .val (.int p2), .val (.int (F4 p2 L_c1))] [(.ref a1)])) rfl rfl (hb hby d3005_18)
    have sd7 : ¬ ((F4 p2 L_c1) < 0) ∧ (F4 p2 L_c1) < (8 : Int32) := (side_3005_25_7 p2 L_c1 e_c2_0 e_c2_1 e_c2_2 e_c2_3 hl_c1 hI hnn hnd hpos hc5)
    have Vo7 : Arv Z h0 c1 k_c1 .int (8 : Int32) (L_c1.map Value.int) (.int (0 : Int32)) := V_c1
    obtain ⟨cl7, Ar7, aq7, S7, M7, H7, G7⟩ := id V_c1
    obtain ⟨T7, h7, X7, e7, W7, st7⟩ := stI X6 hx hZ e6 Ar7 (j := (F4 p2 L_c1)) (inb_of S7 sd7) (g := (mkF m 25 #[.val (.ref a1), .val (.int p2), .val (.int (F4 p2 L_c1))] [(.int (p2 + (1 : Int32))), (.int (F4 p2 L_c1)), (.ref c1)])) rfl rfl (hb hby d3005_25)
    have hl7 : (own_L3005_0 p2 L_c1 e_c2_0 e_c2_1 e_c2_2 e_c2_3).length = 8 := (List.length_set ..).trans hl_c1
    have V7 : Arv Z h7 c1 k_c1 .int (8 : Int32) ((own_L3005_0 p2 L_c1 e_c2_0 e_c2_1 e_c2_2 e_c2_3).map Value.int) (.int (0 : Int32)) := own_setL Vo7 hl_c1 W7 sd7
    have N7 := Fr.snoc X7 N1 g_c1
    have fq8 := (Fld.other W7 F_size_a1 (Or.inl ne_a1_c1))
    obtain ⟨T9, X9, e9, st9⟩ := getF X7 hx hZ hown (host := "") (Or.inl (hw _ (List.mem_of_getElem? (i := 30) rfl))) Via.refl e7 fq8 (g := (mkF m 27 #[.val (.ref a1), .val (.int p2), .val (.int (F4 p2 L_c1))] [(.ref a1)])) rfl rfl (hb hby d3005_27)
    have fq10 := (Fld.other W7 F_atoms_a1 (Or.inl ne_a1_c1))
    obtain ⟨T11, X11, e11, st11⟩ := getF X9 hx hZ hown (host := "") (Or.inl (hw _ (List.mem_of_getElem? (i := 13) rfl))) Via.refl e9 fq10 (g := (mkF m 31 #[.val (.ref a1), .val (.int p2), .val (.int (F4 p2 L_c1))] [(.ref a1), (.int (3 : Int32))])) rfl rfl (hb hby d3005_31)
    have fq12 := (V_c2.other W7 ne_c2_c1)
    obtain ⟨cl13, Ar13, aq13, S13, M13, H13, G13⟩ := id fq12
    obtain ⟨T14, X14, e14, st14⟩ := getF X11 hx hZ hown (host := "") (Or.inl (hw _ (List.mem_of_getElem? (i := 13) rfl))) Via.refl e11 fq10 (g := (mkF m 56 #[.val (.ref a1), .val (.int p2), .val (.int (F4 p2 L_c1))] [(.ref a1)])) rfl rfl (hb hby d3005_56)
    obtain ⟨T15, X15, e15, st15⟩ := getF X14 hx hZ hown (host := "") (Or.inl (hw _ (List.mem_of_getElem? (i := 30) rfl))) Via.refl e14 fq8 (g := (mkF m 61 #[.val (.ref a1), .val (.int p2), .val (.int (F4 p2 L_c1))] [(.ref a1), (.ref a1), (.ref c2)])) rfl rfl (hb hby d3005_61)
    have fq16 := (Exa.wr W7 E_a1)
    obtain ⟨T17, h17, X17, e17, W17, st17⟩ := putF X15 hx hZ hown (host := "") (Or.inl (hw _ (List.mem_of_getElem? (i := 30) rfl))) Via.refl e15 fq8 fq16 (Or.inl (hw _ (List.mem_of_getElem? (i := 31) rfl))) (hw _ (List.mem_of_getElem? (i := 2) rfl)) (ty := .int) (by decide) rfl rfl (g := (mkF m 67 #[.val (.ref a1), .val (.int p2), .val (.int (F4 p2 L_c1))] [(.int (4 : Int32)), (.ref a1), (.int (3 : Int32)), (.ref c2)])) rfl rfl (hb hby d3005_67)
    have Fw17 := Fld.same W17 fq8
    have N17 := Fr.snoc X17 N7 g_a1
    have fq18 := (fq12.other W17 ne_c2_a1)
    obtain ⟨cl19, Ar19, aq19, S19, M19, H19, G19⟩ := id fq18
    have hin19 : ¬ ((3 : Int32) < 0 ∨ cl19.slots.size ≤ ((3 : Int32)).toNatClampNeg) := inb_of S19 ⟨by decide, by decide⟩
    obtain ⟨T19, h19, X19, e19, W19, st19⟩ := stI X17 hx hZ e17 Ar19 (j := (3 : Int32)) hin19 (g := (mkF m 71 #[.val (.ref a1), .val (.int p2), .val (.int (F4 p2 L_c1))] [(.int p2), (.int (3 : Int32)), (.ref c2)])) rfl rfl (hb hby d3005_71)
    have V19 : Arv Z h19 c2 k_c2 .int (4 : Int32) [(.int e_c2_0), (.int e_c2_1), (.int e_c2_2), (.int p2)] (.int (0 : Int32)) := Arv.set Ar19 aq19 S19 M19 H19 G19 rfl W19 3 rfl (Nat.le_of_ble_eq_true rfl)
    have N19 := Fr.snoc X19 N17 g_c2
    have fq20 := (Fld.other W19 Fw17 (Or.inl (Ne.symm ne_c2_a1)))
    obtain ⟨T21, X21, e21, st21⟩ := getF X19 hx hZ hown (host := "") (Or.inl (hw _ (List.mem_of_getElem? (i := 30) rfl))) Via.refl e19 fq20 (g := (mkF m 73 #[.val (.ref a1), .val (.int p2), .val (.int (F4 p2 L_c1))] [(.ref a1)])) rfl rfl (hb hby d3005_73)
    have fq22 := (Fld.other W19 (Fld.other W17 (Fld.other W7 F_slots_a1 (Or.inl ne_a1_c1)) (Or.inr (slot_ne (Or.inl (hw _ (List.mem_of_getElem? (i := 12) rfl))) (Or.inl (hw _ (List.mem_of_getElem? (i := 31) rfl))) (by decide) (t := (.array .int)) (t' := .int) (by decide) (by decide)))) (Or.inl (Ne.symm ne_c2_a1)))
    obtain ⟨T23, X23, e23, st23⟩ := getF X21 hx hZ hown (host := "") (Or.inl (hw _ (List.mem_of_getElem? (i := 11) rfl))) Via.refl e21 fq22 (g := (mkF m 79 #[.val (.ref a1), .val (.int p2), .val (.int (F4 p2 L_c1))] [(.ref a1), (.int (8 : Int32))])) rfl rfl (hb hby d3005_79)
    have fq24 := ((V7.other W17 (Ne.symm ne_a1_c1)).other W19 (Ne.symm ne_c2_c1))
    obtain ⟨cl25, Ar25, aq25, S25, M25, H25, G25⟩ := id fq24
    have k26 : Keep h0 h19 [c1, a1, c2] := ((((Keep.refl h0 [c1, a1, c2]).wr W7 (Or.inl (by simp))).wr W17 (Or.inl (by simp))).wr W19 (Or.inl (by simp)))
    have fq27 := (Exa.wr W19 (Exa.wr W17 fq16))
    have fq28 := (Fld.other W19 (Fld.other W17 fq10 (Or.inr (slot_ne (Or.inl (hw _ (List.mem_of_getElem? (i := 14) rfl))) (Or.inl (hw _ (List.mem_of_getElem? (i := 31) rfl))) (by decide) (t := (.array .int)) (t' := .int) (by decide) (by decide)))) (Or.inl (Ne.symm ne_c2_a1)))
    obtain ⟨fs, hr, hrun, hended, hW, hsame⟩ := X23.leave (v := some (.int (1 : Int32))) (fun h => by rw [Bd.returns] at h; cases h)
    refine ⟨_, _, pre4 _ ?_, hrun, hended, _, _, rfl, ?_, ⟨_, rfl⟩, hW, hsame.mono (by decide) (by decide)⟩
    · show Steps p.tables e below (T2.setTop (mkF m 12 #[.val (.ref a1), .val (.int p2), .val (.int (F4 p2 L_c1))] [(.int (own_at L_c1 (F4 p2 L_c1)))])) _
      refine XS.ifYes X2.here hx rfl (pc0 := 12) (pc' := 17) rfl (hb hby d3005_12) rfl ((if0 _ _).trans (teq hc5).1) (by decide) (by decide) ?_
      show Steps p.tables e below (T2.setTop (mkF m 17 #[.val (.ref a1), .val (.int p2), .val (.int (F4 p2 L_c1))] [])) _
      refine XS.aloadN X2.here hx rfl (hb hby d3005_17) rfl rfl ?_
      show Steps p.tables e below (T2.setTop (mkF m 18 #[.val (.ref a1), .val (.int p2), .val (.int (F4 p2 L_c1))] [(.ref a1)])) _
      refine st6 _ ?_
      show Steps p.tables e below (T6.setTop (mkF m 21 #[.val (.ref a1), .val (.int p2), .val (.int (F4 p2 L_c1))] [(.ref c1)])) _
      refine XS.iloadN X6.here hx rfl (hb hby d3005_21) rfl ?_
      show Steps p.tables e below (T6.setTop (mkF m 22 #[.val (.ref a1), .val (.int p2), .val (.int (F4 p2 L_c1))] [(.int (F4 p2 L_c1)), (.ref c1)])) _
      refine XS.iloadN X6.here hx rfl (hb hby d3005_22) rfl ?_
      show Steps p.tables e below (T6.setTop (mkF m 23 #[.val (.ref a1), .val (.int p2), .val (.int (F4 p2 L_c1))] [(.int p2), (.int (F4 p2 L_c1)), (.ref c1)])) _
      refine XS.iconst X6.here hx rfl (hb hby d3005_23) ?_
      show Steps p.tables e below (T6.setTop (mkF m 24 #[.val (.ref a1), .val (.int p2), .val (.int (F4 p2 L_c1))] [(.int (1 : Int32)), (.int p2), (.int (F4 p2 L_c1)), (.ref c1)])) _
      refine XS.iadd X6.here hx rfl (hb hby d3005_24) rfl ?_
      show Steps p.tables e below (T6.setTop (mkF m 25 #[.val (.ref a1), .val (.int p2), .val (.int (F4 p2 L_c1))] [(.int (p2 + (1 : Int32))), (.int (F4 p2 L_c1)), (.ref c1)])) _
      refine st7 _ ?_
      show Steps p.tables e below (T7.setTop (mkF m 26 #[.val (.ref a1), .val (.int p2), .val (.int (F4 p2 L_c1))] [])) _
      refine XS.aloadN X7.here hx rfl (hb hby d3005_26) rfl rfl ?_
      show Steps p.tables e below (T7.setTop (mkF m 27 #[.val (.ref a1), .val (.int p2), .val (.int (F4 p2 L_c1))] [(.ref a1)])) _
      refine st9 _ ?_
      show Steps p.tables e below (T9.setTop (mkF m 30 #[.val (.ref a1), .val (.int p2), .val (.int (F4 p2 L_c1))] [(.int (3 : Int32))])) _
      refine XS.aloadN X9.here hx rfl (hb hby d3005_30) rfl rfl ?_
      show Steps p.tables e below (T9.setTop (mkF m 31 #[.val (.ref a1), .val (.int p2), .val (.int (F4 p2 L_c1))] [(.ref a1), (.int (3 : Int32))])) _
      refine st11 _ ?_
      show Steps p.tables e below (T11.setTop (mkF m 34 #[.val (.ref a1), .val (.int p2), .val (.int (F4 p2 L_c1))] [(.ref c2), (.int (3 : Int32))])) _
      refine X11.arraylength hx (by rw [e11]; exact Ar13.1) (State.isArrayOf_alike hZ.alike Ar13.2.1) (g := (mkF m 34 #[.val (.ref a1), .val (.int p2), .val (.int (F4 p2 L_c1))] [(.ref c2), (.int (3 : Int32))])) rfl rfl (hb hby d3005_34) _ ?_
      rw [len_of S13 M13]
      show Steps p.tables e below (T11.setTop (mkF m 35 #[.val (.ref a1), .val (.int p2), .val (.int (F4 p2 L_c1))] [(.int (4 : Int32)), (.int (3 : Int32))])) _
      refine XS.icmpYes X11.here hx rfl (pc0 := 35) (pc' := 55) rfl (hb hby d3005_35) rfl (feq (by decide : ¬ ((3 : Int32) = (4 : Int32)))).2 (by decide) (by decide) ?_
      show Steps p.tables e below (T11.setTop (mkF m 55 #[.val (.ref a1), .val (.int p2), .val (.int (F4 p2 L_c1))] [])) _
      refine XS.aloadN X11.here hx rfl (hb hby d3005_55) rfl rfl ?_
      show Steps p.tables e below (T11.setTop (mkF m 56 #[.val (.ref a1), .val (.int p2), .val (.int (F4 p2 L_c1))] [(.ref a1)])) _
      refine st14 _ ?_
      show Steps p.tables e below (T14.setTop (mkF m 59 #[.val (.ref a1), .val (.int p2), .val (.int (F4 p2 L_c1))] [(.ref c2)])) _
      refine XS.aloadN X14.here hx rfl (hb hby d3005_59) rfl rfl ?_
      show Steps p.tables e below (T14.setTop (mkF m 60 #[.val (.ref a1), .val (.int p2), .val (.int (F4 p2 L_c1))] [(.ref a1), (.ref c2)])) _
      refine XS.dup X14.here hx rfl (hb hby d3005_60) rfl rfl ?_
      show Steps p.tables e below (T14.setTop (mkF m 61 #[.val (.ref a1), .val (.int p2), .val (.int (F4 p2 L_c1))] [(.ref a1), (.ref a1), (.ref c2)])) _
      refine st15 _ ?_
      show Steps p.tables e below (T15.setTop (mkF m 64 #[.val (.ref a1), .val (.int p2), .val (.int (F4 p2 L_c1))] [(.int (3 : Int32)), (.ref a1), (.ref c2)])) _
      refine XS.dupX1 X15.here hx rfl (hb hby d3005_64) rfl rfl rfl ?_
      show Steps p.tables e below (T15.setTop (mkF m 65 #[.val (.ref a1), .val (.int p2), .val (.int (F4 p2 L_c1))] [(.int (3 : Int32)), (.ref a1), (.int (3 : Int32)), (.ref c2)])) _
      refine XS.iconst X15.here hx rfl (hb hby d3005_65) ?_
      show Steps p.tables e below (T15.setTop (mkF m 66 #[.val (.ref a1), .val (.int p2), .val (.int (F4 p2 L_c1))] [(.int (1 : Int32)), (.int (3 : Int32)), (.ref a1), (.int (3 : Int32)), (.ref c2)])) _
      refine XS.iadd X15.here hx rfl (hb hby d3005_66) rfl ?_
      show Steps p.tables e below (T15.setTop (mkF m 67 #[.val (.ref a1), .val (.int p2), .val (.int (F4 p2 L_c1))] [(.int (4 : Int32)), (.ref a1), (.int (3 : Int32)), (.ref c2)])) _
      refine st17 _ ?_
      show Steps p.tables e below (T17.setTop (mkF m 70 #[.val (.ref a1), .val (.int p2), .val (.int (F4 p2 L_c1))] [(.int (3 : Int32)), (.ref c2)])) _
      refine XS.iloadN X17.here hx rfl (hb hby d3005_70) rfl ?_
      show Steps p.tables e below (T17.setTop (mkF m 71 #[.val (.ref a1), .val (.int p2), .val (.int (F4 p2 L_c1))] [(.int p2), (.int (3 : Int32)), (.ref c2)])) _
      refine st19 _ ?_
      show Steps p.tables e below (T19.setTop (mkF m 72 #[.val (.ref a1), .val (.int p2), .val (.int (F4 p2 L_c1))] [])) _
      refine XS.aloadN X19.here hx rfl (hb hby d3005_72) rfl rfl ?_
      show Steps p.tables e below (T19.setTop (mkF m 73 #[.val (.ref a1), .val (.int p2), .val (.int (F4 p2 L_c1))] [(.ref a1)])) _
      refine st21 _ ?_
      show Steps p.tables e below (T21.setTop (mkF m 76 #[.val (.ref a1), .val (.int p2), .val (.int (F4 p2 L_c1))] [(.int (4 : Int32))])) _
      refine XS.iconst X21.here hx rfl (hb hby d3005_76) ?_
      show Steps p.tables e below (T21.setTop (mkF m 77 #[.val (.ref a1), .val (.int p2), .val (.int (F4 p2 L_c1))] [(.int (2 : Int32)), (.int (4 : Int32))])) _
      refine XS.imul X21.here hx rfl (hb hby d3005_77) rfl ?_
      show Steps p.tables e below (T21.setTop (mkF m 78 #[.val (.ref a1), .val (.int p2), .val (.int (F4 p2 L_c1))] [(.int (8 : Int32))])) _
      refine XS.aloadN X21.here hx rfl (hb hby d3005_78) rfl rfl ?_
      show Steps p.tables e below (T21.setTop (mkF m 79 #[.val (.ref a1), .val (.int p2), .val (.int (F4 p2 L_c1))] [(.ref a1), (.int (8 : Int32))])) _
      refine st23 _ ?_
      show Steps p.tables e below (T23.setTop (mkF m 82 #[.val (.ref a1), .val (.int p2), .val (.int (F4 p2 L_c1))] [(.ref c1), (.int (8 : Int32))])) _
      refine X23.arraylength hx (by rw [e23]; exact Ar25.1) (State.isArrayOf_alike hZ.alike Ar25.2.1) (g := (mkF m 82 #[.val (.ref a1), .val (.int p2), .val (.int (F4 p2 L_c1))] [(.ref c1), (.int (8 : Int32))])) rfl rfl (hb hby d3005_82) _ ?_
      rw [len_of S25 M25]
      show Steps p.tables e below (T23.setTop (mkF m 83 #[.val (.ref a1), .val (.int p2), .val (.int (F4 p2 L_c1))] [(.int (8 : Int32)), (.int (8 : Int32))])) _
      refine XS.icmpYes X23.here hx rfl (pc0 := 83) (pc' := 97) rfl (hb hby d3005_83) rfl (flt (by decide : ¬ ((8 : Int32) < (8 : Int32)))).2.2.2 (by decide) (by decide) ?_
      show Steps p.tables e below (T23.setTop (mkF m 97 #[.val (.ref a1), .val (.int p2), .val (.int (F4 p2 L_c1))] [])) _
      refine XS.iconst X23.here hx rfl (hb hby d3005_97) ?_
      show Steps p.tables e below (T23.setTop (mkF m 98 #[.val (.ref a1), .val (.int p2), .val (.int (F4 p2 L_c1))] [(.int (1 : Int32))])) _
      exact retN X23 hx (t := .boolean) Bd.returns (by simp) (hb hby d3005_98) hr
    · show Q3005 Z a1 p2 c1 k_c1 L_c1 c2 k_c2 e_c2_0 e_c2_1 e_c2_2 e_c2_3 h0 n0 _ T23.heap _
      rw [e23]
      refine ⟨⟨_, rfl⟩, N19, k26.1, ?_⟩
      have hm : ¬ p2 ∈ [e_c2_0, e_c2_1, e_c2_2] := (own_found_8 hl_c1 hI hnn (by simp) p2 hpos).1 hc5
      rw [own_ins, if_neg hm]
      exact ⟨c1, c2, k_c1, k_c2, (own_L3005_0 p2 L_c1 e_c2_0 e_c2_1 e_c2_2 e_c2_3), ([e_c2_0, e_c2_1, e_c2_2, p2] : List Int32), fq27, fq22, fq28, fq20, g_a1, g_c1, g_c2, ne_a1_c1, (Ne.symm ne_c2_a1), (Ne.symm ne_c2_c1), own_nnS hnn hpos, own_ndS hnd hm, Or.inl ⟨by simp, hl7, fq24, own_put_8 hl_c1 hI hnn (by simp) p2 hpos hm, rfl, V19, rfl⟩⟩
  · obtain ⟨fs, hr, hrun, hended, hW, hsame⟩ := X2.leave (v := some (.int (0 : Int32))) (fun h => by rw [Bd.returns] at h; cases h)
    refine ⟨_, _, pre4 _ ?_, hrun, hended, _, _, rfl, ?_, ⟨_, rfl⟩, hW, hsame.mono (by decide) (by decide)⟩
    · show Steps p.tables e below (T2.setTop (mkF m 12 #[.val (.ref a1), .val (.int p2), .val (.int (F4 p2 L_c1))] [(.int (own_at L_c1 (F4 p2 L_c1)))])) _
      refine XS.ifNo X2.here hx rfl (hb hby d3005_12) rfl ((if0 _ _).trans (feq hc5).1) ?_
      show Steps p.tables e below (T2.setTop (mkF m 15 #[.val (.ref a1), .val (.int p2), .val (.int (F4 p2 L_c1))] [])) _
      refine XS.iconst X2.here hx rfl (hb hby d3005_15) ?_
      show Steps p.tables e below (T2.setTop (mkF m 16 #[.val (.ref a1), .val (.int p2), .val (.int (F4 p2 L_c1))] [(.int (0 : Int32))])) _
      exact retN X2 hx (t := .boolean) Bd.returns (by simp) (hb hby d3005_16) hr
    · show Q3005 Z a1 p2 c1 k_c1 L_c1 c2 k_c2 e_c2_0 e_c2_1 e_c2_2 e_c2_3 h0 n0 _ T2.heap _
      rw [e2]
      refine ⟨⟨_, rfl⟩, N1, Nat.le_refl _, ?_⟩
      have hm : p2 ∈ [e_c2_0, e_c2_1, e_c2_2] := (own_found_8 hl_c1 hI hnn (by simp) p2 hpos).2 hc5
      rw [own_ins, if_pos hm]
      exact ⟨c1, c2, k_c1, k_c2, L_c1, [e_c2_0, e_c2_1, e_c2_2, e_c2_3], E_a1, F_slots_a1, F_atoms_a1, F_size_a1, g_a1, g_c1, g_c2, ne_a1_c1, ne_a1_c2, ne_c1_c2, hnn, hnd, Or.inl ⟨by simp, hl_c1, V_c1, hI, rfl, V_c2, rfl⟩⟩
theorem d4005_0 : decode prog_40_method_2_code 0 = .ok (.aload_n 0, 1) := by decide +kernel
theorem d4005_1 : decode prog_40_method_2_code 1 = .ok (.iload_n 1, 1) := by decide +kernel
theorem d4005_2 : decode prog_40_method_2_code 2 = .ok (.invokevirtual 16, 3) := by decide +kernel
theorem d4005_5 : decode prog_40_method_2_code 5 = .ok (.istore_n 2, 1) := by decide +kernel
theorem d4005_6 : decode prog_40_method_2_code 6 = .ok (.aload_n 0, 1) := by decide +kernel
theorem d4005_7 : decode prog_40_method_2_code 7 = .ok (.getfield 7, 3) := by decide +kernel
theorem d4005_10 : decode prog_40_method_2_code 10 = .ok (.iload_n 2, 1) := by decide +kernel
theorem d4005_11 : decode prog_40_method_2_code 11 = .ok (.iaload, 1) := by decide +kernel
theorem d4005_12 : decode prog_40_method_2_code 12 = .ok (.ifCond .eq 5, 3) := by decide +kernel
theorem d4005_15 : decode prog_40_method_2_code 15 = .ok (.iconst 0, 1) := by decide +kernel
theorem d4005_16 : decode prog_40_method_2_code 16 = .ok (.ireturn, 1) := by decide +kernel
theorem d4005_17 : decode prog_40_method_2_code 17 = .ok (.aload_n 0, 1) := by decide +kernel
theorem d4005_18 : decode prog_40_method_2_code 18 = .ok (.getfield 7, 3) := by decide +kernel
theorem d4005_21 : decode prog_40_method_2_code 21 = .ok (.iload_n 2, 1) := by decide +kernel
theorem d4005_22 : decode prog_40_method_2_code 22 = .ok (.iload_n 1, 1) := by decide +kernel
theorem d4005_23 : decode prog_40_method_2_code 23 = .ok (.iconst 1, 1) := by decide +kernel
theorem d4005_24 : decode prog_40_method_2_code 24 = .ok (.iadd, 1) := by decide +kernel
theorem d4005_25 : decode prog_40_method_2_code 25 = .ok (.iastore, 1) := by decide +kernel
theorem d4005_26 : decode prog_40_method_2_code 26 = .ok (.aload_n 0, 1) := by decide +kernel
theorem d4005_27 : decode prog_40_method_2_code 27 = .ok (.getfield 20, 3) := by decide +kernel
theorem d4005_30 : decode prog_40_method_2_code 30 = .ok (.aload_n 0, 1) := by decide +kernel
theorem d4005_31 : decode prog_40_method_2_code 31 = .ok (.getfield 13, 3) := by decide +kernel
theorem d4005_34 : decode prog_40_method_2_code 34 = .ok (.arraylength, 1) := by decide +kernel
theorem d4005_35 : decode prog_40_method_2_code 35 = .ok (.if_icmp .ne 20, 3) := by decide +kernel
theorem d4005_38 : decode prog_40_method_2_code 38 = .ok (.aload_n 0, 1) := by decide +kernel
theorem d4005_39 : decode prog_40_method_2_code 39 = .ok (.aload_n 0, 1) := by decide +kernel
theorem d4005_40 : decode prog_40_method_2_code 40 = .ok (.getfield 13, 3) := by decide +kernel
theorem d4005_43 : decode prog_40_method_2_code 43 = .ok (.aload_n 0, 1) := by decide +kernel
theorem d4005_44 : decode prog_40_method_2_code 44 = .ok (.getfield 20, 3) := by decide +kernel
theorem d4005_47 : decode prog_40_method_2_code 47 = .ok (.iconst 2, 1) := by decide +kernel
theorem d4005_48 : decode prog_40_method_2_code 48 = .ok (.imul, 1) := by decide +kernel
theorem d4005_49 : decode prog_40_method_2_code 49 = .ok (.invokestatic 24, 3) := by decide +kernel
theorem d4005_52 : decode prog_40_method_2_code 52 = .ok (.putfield 13, 3) := by decide +kernel
theorem d4005_55 : decode prog_40_method_2_code 55 = .ok (.aload_n 0, 1) := by decide +kernel
theorem d4005_56 : decode prog_40_method_2_code 56 = .ok (.getfield 13, 3) := by decide +kernel
theorem d4005_59 : decode prog_40_method_2_code 59 = .ok (.aload_n 0, 1) := by decide +kernel
theorem d4005_60 : decode prog_40_method_2_code 60 = .ok (.dup, 1) := by decide +kernel
theorem d4005_61 : decode prog_40_method_2_code 61 = .ok (.getfield 20, 3) := by decide +kernel
theorem d4005_64 : decode prog_40_method_2_code 64 = .ok (.dup_x1, 1) := by decide +kernel
theorem d4005_65 : decode prog_40_method_2_code 65 = .ok (.iconst 1, 1) := by decide +kernel
theorem d4005_66 : decode prog_40_method_2_code 66 = .ok (.iadd, 1) := by decide +kernel
theorem d4005_67 : decode prog_40_method_2_code 67 = .ok (.putfield 20, 3) := by decide +kernel
theorem d4005_70 : decode prog_40_method_2_code 70 = .ok (.iload_n 1, 1) := by decide +kernel
theorem d4005_71 : decode prog_40_method_2_code 71 = .ok (.iastore, 1) := by decide +kernel
theorem d4005_72 : decode prog_40_method_2_code 72 = .ok (.aload_n 0, 1) := by decide +kernel
theorem d4005_73 : decode prog_40_method_2_code 73 = .ok (.getfield 20, 3) := by decide +kernel
theorem d4005_76 : decode prog_40_method_2_code 76 = .ok (.iconst 2, 1) := by decide +kernel
theorem d4005_77 : decode prog_40_method_2_code 77 = .ok (.imul, 1) := by decide +kernel
theorem d4005_78 : decode prog_40_method_2_code 78 = .ok (.aload_n 0, 1) := by decide +kernel
theorem d4005_79 : decode prog_40_method_2_code 79 = .ok (.getfield 7, 3) := by decide +kernel
theorem d4005_82 : decode prog_40_method_2_code 82 = .ok (.arraylength, 1) := by decide +kernel
theorem d4005_83 : decode prog_40_method_2_code 83 = .ok (.if_icmp .le 14, 3) := by decide +kernel
theorem d4005_86 : decode prog_40_method_2_code 86 = .ok (.aload_n 0, 1) := by decide +kernel
theorem d4005_87 : decode prog_40_method_2_code 87 = .ok (.aload_n 0, 1) := by decide +kernel
theorem d4005_88 : decode prog_40_method_2_code 88 = .ok (.getfield 7, 3) := by decide +kernel
theorem d4005_91 : decode prog_40_method_2_code 91 = .ok (.arraylength, 1) := by decide +kernel
theorem d4005_92 : decode prog_40_method_2_code 92 = .ok (.iconst 2, 1) := by decide +kernel
theorem d4005_93 : decode prog_40_method_2_code 93 = .ok (.imul, 1) := by decide +kernel
theorem d4005_94 : decode prog_40_method_2_code 94 = .ok (.invokevirtual 30, 3) := by decide +kernel
theorem d4005_97 : decode prog_40_method_2_code 97 = .ok (.iconst 1, 1) := by decide +kernel
theorem d4005_98 : decode prog_40_method_2_code 98 = .ok (.ireturn, 1) := by decide +kernel
theorem pn_4005 : plainName "com/example/krel/krel/saturation/AtomSet" = true := by first | (simp [plainName, overriddenIn]; done) | decide +kernel
theorem pd_4005_2 : parseMethodDescriptor "(I)I" = some ⟨[.int], some .int⟩ := by decide +kernel
theorem pd_4005_3 : parseMethodDescriptor "([II)[I" = some ⟨[(.array .int), .int], some (.array .int)⟩ := by decide +kernel
theorem pd_4005_6 : parseMethodDescriptor "(I)V" = some ⟨[.int], none⟩ := by decide +kernel
theorem ef_4005 (m : MethodId) (a1 : Addr) (p2 : Int32) : entryFrame m #[(.ref a1), (.int p2)] 3 = mkF m 0 #[.val (.ref a1), .val (.int p2), .unset] [] := by first | (simp [entryFrame, mkF, argsToLocals, Value.category]; done) | rfl
def own_L4005_0 (p2 : Int32) (L_c1 : List Int32) (e_c2_0 : Int32) (e_c2_1 : Int32) (e_c2_2 : Int32) (e_c2_3 : Int32) : List Int32 := L_c1.set ((F4 p2 L_c1)).toNatClampNeg (p2 + (1 : Int32))

set_option maxRecDepth 65536 in
set_option maxHeartbeats 40000000 in
theorem side_4005_2 (p2 : Int32) (L_c1 : List Int32) (e_c2_0 : Int32) (e_c2_1 : Int32) (e_c2_2 : Int32) (e_c2_3 : Int32) (hl_c1 : L_c1.length = 8) (hI : own_Inv (own_H 8) L_c1 [e_c2_0, e_c2_1, e_c2_2, e_c2_3]) (hnn : own_nn [e_c2_0, e_c2_1, e_c2_2, e_c2_3]) (hnd : ([e_c2_0, e_c2_1, e_c2_2, e_c2_3]).Nodup) (hpos : ¬ p2 + 1 = 0) : own_Free 8 L_c1 p2 := by
  exact own_free_8 hl_c1 hI (by simp) p2
set_option maxRecDepth 65536 in
set_option maxHeartbeats 40000000 in
theorem side_4005_11_3 (p2 : Int32) (L_c1 : List Int32) (e_c2_0 : Int32) (e_c2_1 : Int32) (e_c2_2 : Int32) (e_c2_3 : Int32) (hl_c1 : L_c1.length = 8) (hI : own_Inv (own_H 8) L_c1 [e_c2_0, e_c2_1, e_c2_2, e_c2_3]) (hnn : own_nn [e_c2_0, e_c2_1, e_c2_2, e_c2_3]) (hnd : ([e_c2_0, e_c2_1, e_c2_2, e_c2_3]).Nodup) (hpos : ¬ p2 + 1 = 0) : ¬ ((F4 p2 L_c1) < 0) ∧ (F4 p2 L_c1) < (8 : Int32) := by
  exact own_bd_8 _ _ hl_c1
set_option maxRecDepth 65536 in
set_option maxHeartbeats 40000000 in
theorem side_4005_25_7 (p2 : Int32) (L_c1 : List Int32) (e_c2_0 : Int32) (e_c2_1 : Int32) (e_c2_2 : Int32) (e_c2_3 : Int32) (hl_c1 : L_c1.length = 8) (hI : own_Inv (own_H 8) L_c1 [e_c2_0, e_c2_1, e_c2_2, e_c2_3]) (hnn : own_nn [e_c2_0, e_c2_1, e_c2_2, e_c2_3]) (hnd : ([e_c2_0, e_c2_1, e_c2_2, e_c2_3]).Nodup) (hpos : ¬ p2 + 1 = 0) (hc5 : (own_at L_c1 (F4 p2 L_c1)) = (0 : Int32)) : ¬ ((F4 p2 L_c1) < 0) ∧ (F4 p2 L_c1) < (8 : Int32) := by
  exact own_bd_8 _ _ hl_c1
set_option maxRecDepth 65536 in
set_option maxHeartbeats 40000000 in
theorem side_4005_94 (p2 : Int32) (L_c1 : List Int32) (e_c2_0 : Int32) (e_c2_1 : Int32) (e_c2_2 : Int32) (e_c2_3 : Int32) (hl_c1 : L_c1.length = 8) (hI : own_Inv (own_H 8) L_c1 [e_c2_0, e_c2_1, e_c2_2, e_c2_3]) (hnn : own_nn [e_c2_0, e_c2_1, e_c2_2, e_c2_3]) (hnd : ([e_c2_0, e_c2_1, e_c2_2, e_c2_3]).Nodup) (hpos : ¬ p2 + 1 = 0) (hc5 : (own_at L_c1 (F4 p2 L_c1)) = (0 : Int32)) : own_Ok e_c2_0 e_c2_1 e_c2_2 e_c2_3 p2 := by
  exact ⟨own_nnS hnn hpos, own_ndS hnd ((own_found_8 hl_c1 hI hnn (by simp) p2 hpos).1 ‹own_at L_c1 (F4 p2 L_c1) = 0›)⟩
def Q4005 (Z : State) (a1 : Addr) (p2 : Int32) (c1 : Addr) (k_c1 : ClassId) (L_c1 : List Int32) (c2 : Addr) (k_c2 : ClassId) (e_c2_0 : Int32) (e_c2_1 : Int32) (e_c2_2 : Int32) (e_c2_3 : Int32) (h0 : Heap) (n0 : Nat) (v : Option Value) (h : Heap) (L : List Loc) : Prop := (∃ r : Int32, v = some (.int r)) ∧ Fr n0 L ∧ h0.size ≤ h.size ∧ own_AS Z h n0 a1 (own_ins [e_c2_0, e_c2_1, e_c2_2, e_c2_3] p2)
set_option maxRecDepth 65536 in
set_option maxHeartbeats 40000000 in
theorem rm4005 (l : Launch) (Z : State) (a0 : Array Value) (hw : ∀ d ∈ tables_1, d.before a0 Z = true) (ws : List Jvm.Cond) (a1 : Addr) (p2 : Int32) (c1 : Addr) (k_c1 : ClassId) (L_c1 : List Int32) (c2 : Addr) (k_c2 : ClassId) (e_c2_0 : Int32) (e_c2_1 : Int32) (e_c2_2 : Int32) (e_c2_3 : Int32) (h0 : Heap) (n0 : Nat) (Z0 : n0 ≤ h0.size) (E_a1 : Exa Z h0 a1 "com/example/krel/krel/saturation/AtomSet") (F_size_a1 : Fld Z h0 a1 "com/example/krel/krel/saturation/AtomSet" "size" "I" (.int (4 : Int32))) (F_slots_a1 : Fld Z h0 a1 "com/example/krel/krel/saturation/AtomSet" "slots" "[I" (.ref c1)) (V_c1 : Arv Z h0 c1 k_c1 .int (8 : Int32) (L_c1.map Value.int) (.int (0 : Int32))) (hl_c1 : L_c1.length = 8) (F_atoms_a1 : Fld Z h0 a1 "com/example/krel/krel/saturation/AtomSet" "atoms" "[I" (.ref c2)) (V_c2 : Arv Z h0 c2 k_c2 .int (4 : Int32) [(.int e_c2_0), (.int e_c2_1), (.int e_c2_2), (.int e_c2_3)] (.int (0 : Int32))) (hI : own_Inv (own_H 8) L_c1 [e_c2_0, e_c2_1, e_c2_2, e_c2_3]) (hnn : own_nn [e_c2_0, e_c2_1, e_c2_2, e_c2_3]) (hnd : ([e_c2_0, e_c2_1, e_c2_2, e_c2_3]).Nodup) (hpos : ¬ p2 + 1 = 0) (g_c1 : n0 ≤ c1) (ne_a1_c1 : a1 ≠ c1) (ne_c2_c1 : c2 ≠ c1) (g_a1 : n0 ≤ a1) (ne_c2_a1 : c2 ≠ a1) (g_c2 : n0 ≤ c2) (ne_a1_c2 : a1 ≠ c2) (ne_c1_c2 : c1 ≠ c2) :
    MetFree l (⟨"com/example/krel/krel/saturation/AtomSet", "add", "(I)Z"⟩ : MethodName) (head1 (Jvm.Cond.code (⟨"com/example/krel/krel/saturation/AtomSet", "add", "(I)Z"⟩ : MethodName) prog_40_method_2_code 3 (some .boolean) :: ws) ({ frames := 2, cells := 2, slots := 24, locals := 80 } : Room)) (fun a U => a = #[(.ref a1), (.int p2)] ∧ Z.Warmed39 U.vm ∧ U.heap = h0) (fun _ _ _ _ _ => True) (fun _ U o U' => ∃ v L, o = .returned v ∧ Q4005 Z a1 p2 c1 k_c1 L_c1 c2 k_c2 e_c2_0 e_c2_1 e_c2_2 e_c2_3 h0 n0 v U'.heap L ∧ FrameEnd U o U' L ({ frames := 2, cells := 2, slots := 24, locals := 80 } : Room).cells ({ frames := 2, cells := 2, slots := 24, locals := 80 } : Room).slots) := by
  refine MetFree.of_bodySF (plainFor_of_name pn_4005) hisR ?_
  intro p e s m args below meth c s₁ Bd hml0 hP hK
  obtain ⟨rfl, hZ, hh⟩ := hP
  skip
  skip
  skip
  skip
  skip
  skip
  have hx := Bd.exec
  have hby := Bd.bytes
  have hml : c.maxLocals = 3 := hml0
  have hown : s.vm.findClass "com/example/krel/krel/saturation/AtomSet" = some m.cls := findClass_of_methodNamed Bd.named
  have hnm := (name_of_methodNamed Bd.named Bd.method).1
  have X0 : Stand p l e ({ frames := 2, cells := 2, slots := 24, locals := 80 } : Room) s m #[(.ref a1), (.int p2)] below meth c s₁ [] 0 0 := Stand.of_body Bd
  have e0 : s₁.heap = h0 := by rw [← hh, Bd.state]; rfl
  have N0 := Fr.nil n0
  have pre0 : ∀ t, Steps p.tables e below (s₁.setTop (mkF m 0 #[.val (.ref a1), .val (.int p2), .unset] [])) t → Steps p.tables e below (s₁.setTop (entryFrame m #[(.ref a1), (.int p2)] 3)) t := fun t k => castTop (ef_4005 m a1 p2) k
  obtain ⟨cq1, iq1, iq1'⟩ := E_a1.cell
  obtain ⟨_, _, ⟨T1, L1, k1, n1⟩, -, X1, ⟨Lc1, hQ1, l1, y1, z1⟩, st1⟩ := X0.privateBack hx (y := (⟨"com/example/krel/krel/saturation/AtomSet", "slotOf", "(I)I"⟩ : MethodName)) hown (mvT hZ (hw _ (List.mem_of_getElem? (i := 20) rfl))) (mvT hZ (hw _ (List.mem_of_getElem? (i := 21) rfl))) (own_selp (z := (⟨"com/example/krel/krel/saturation/AtomSet", "contains", "(I)Z"⟩ : MethodName)) (mvT hZ (hw _ (List.mem_of_getElem? (i := 18) rfl))) rfl (Cond.privateMethod_at (mvP hZ (hw _ (List.mem_of_getElem? (i := 22) rfl)) (args := #[]))) (mvT hZ (hw _ (List.mem_of_getElem? (i := 21) rfl))) (by decide)) (Cond.privateMethod_at (mvP hZ (hw _ (List.mem_of_getElem? (i := 22) rfl)) (args := #[]))) (mvT hZ (hw _ (List.mem_of_getElem? (i := 23) rfl))) (by decide) (backOf (W := 0) (rm4 l Z a0 hw [] a1 p2 c1 k_c1 L_c1 h0 n0 Z0 E_a1 F_slots_a1 V_c1 hl_c1 (side_4005_2 p2 L_c1 e_c2_0 e_c2_1 e_c2_2 e_c2_3 hl_c1 hI hnn hnd hpos)) hZ (hw _ (List.mem_of_getElem? (i := 23) rfl)) (hw _ (List.mem_of_getElem? (i := 3) rfl)) (by decide) (by decide)) (g := (mkF m 2 #[.val (.ref a1), .val (.int p2), .unset] [(.int p2), (.ref a1)])) rfl (by rw [hml]; rfl) (Steps.refl _) (a := a1) (by rw [e0]; exact iq1) iq1' (argsL := [(.int p2)]) (rest := []) (lenOf pd_4005_2 rfl) rfl (by show 2 * 0 + _ ≤ _; exact Nat.le_of_eq rfl) (hb hby d4005_2) (fun _ _ => ⟨rfl, e0, (by decide : 0 + 0 ≤ _), (by decide : 0 + 0 ≤ _)⟩)
  dsimp only [Pt.U, Pt.locs, Pt.cells, Pt.slots] at X1 l1 y1 z1 st1 hQ1
  subst l1 y1 z1
  obtain ⟨rfl, N1q, e1⟩ := hQ1
  have N1 := Fr.app N0 N1q
  obtain ⟨T2, X2, e2, st2⟩ := getF X1 hx hZ hown (host := "") (Or.inl (hw _ (List.mem_of_getElem? (i := 11) rfl))) Via.refl e1 F_slots_a1 (g := (mkF m 7 #[.val (.ref a1), .val (.int p2), .val (.int (F4 p2 L_c1))] [(.ref a1)])) rfl rfl (hb hby d4005_7)
  obtain ⟨cl3, Ar3, aq3, S3, M3, H3, G3⟩ := id V_c1
  have hin3 : ¬ ((F4 p2 L_c1) < 0 ∨ cl3.slots.size ≤ ((F4 p2 L_c1)).toNatClampNeg) := inb_of S3 (side_4005_11_3 p2 L_c1 e_c2_0 e_c2_1 e_c2_2 e_c2_3 hl_c1 hI hnn hnd hpos)
  have hat3 : cl3.slots[((F4 p2 L_c1)).toNatClampNeg]? = some (.int (own_at L_c1 (F4 p2 L_c1))) := Has.at H3 hin3 (own_getD L_c1 ((F4 p2 L_c1)).toNatClampNeg)
  have pre4 : ∀ t, Steps p.tables e below (T2.setTop (mkF m 12 #[.val (.ref a1), .val (.int p2), .val (.int (F4 p2 L_c1))] [(.int (own_at L_c1 (F4 p2 L_c1)))])) t → Steps p.tables e below (s₁.setTop (entryFrame m #[(.ref a1), (.int p2)] 3)) t := fun t kt => by
    refine pre0 t ?_
    show Steps p.tables e below (s₁.setTop (mkF m 0 #[.val (.ref a1), .val (.int p2), .unset] [])) _
    refine XS.aloadN X0.here hx rfl (hb hby d4005_0) rfl rfl ?_
    show Steps p.tables e below (s₁.setTop (mkF m 1 #[.val (.ref a1), .val (.int p2), .unset] [(.ref a1)])) _
    refine XS.iloadN X0.here hx rfl (hb hby d4005_1) rfl ?_
    show Steps p.tables e below (s₁.setTop (mkF m 2 #[.val (.ref a1), .val (.int p2), .unset] [(.int p2), (.ref a1)])) _
    refine st1.trans ?_
    show Steps p.tables e below (T1.setTop (mkF m 5 #[.val (.ref a1), .val (.int p2), .unset] [(.int (F4 p2 L_c1))])) _
    refine XS.istoreN X1.here hx rfl (hb hby d4005_5) rfl (l' := #[.val (.ref a1), .val (.int p2), .val (.int (F4 p2 L_c1))]) rfl ?_
    show Steps p.tables e below (T1.setTop (mkF m 6 #[.val (.ref a1), .val (.int p2), .val (.int (F4 p2 L_c1))] [])) _
    refine XS.aloadN X1.here hx rfl (hb hby d4005_6) rfl rfl ?_
    show Steps p.tables e below (T1.setTop (mkF m 7 #[.val (.ref a1), .val (.int p2), .val (.int (F4 p2 L_c1))] [(.ref a1)])) _
    refine st2 _ ?_
    show Steps p.tables e below (T2.setTop (mkF m 10 #[.val (.ref a1), .val (.int p2), .val (.int (F4 p2 L_c1))] [(.ref c1)])) _
    refine XS.iloadN X2.here hx rfl (hb hby d4005_10) rfl ?_
    show Steps p.tables e below (T2.setTop (mkF m 11 #[.val (.ref a1), .val (.int p2), .val (.int (F4 p2 L_c1))] [(.int (F4 p2 L_c1)), (.ref c1)])) _
    refine X2.iaload hx (j := (F4 p2 L_c1)) (v := (.int (own_at L_c1 (F4 p2 L_c1)))) (by rw [e2]; exact Ar3.1) (State.isArrayOf_alike hZ.alike Ar3.2.1) Ar3.2.2 hin3 hat3 (g := (mkF m 11 #[.val (.ref a1), .val (.int p2), .val (.int (F4 p2 L_c1))] [(.int (F4 p2 L_c1)), (.ref c1)])) rfl rfl (hb hby d4005_11) _ ?_
    exact kt
  by_cases hc5 : (own_at L_c1 (F4 p2 L_c1)) = (0 : Int32)
  · obtain ⟨T6, X6, e6, st6⟩ := getF X2 hx hZ hown (host := "") (Or.inl (hw _ (List.mem_of_getElem? (i := 11) rfl))) Via.refl e2 F_slots_a1 (g := (mkF m 18 #[.val (.ref a1), .val (.int p2), .val (.int (F4 p2 L_c1))] [(.ref a1)])) rfl rfl (hb hby d4005_18)
    have sd7 : ¬ ((F4 p2 L_c1) < 0) ∧ (F4 p2 L_c1) < (8 : Int32) := (side_4005_25_7 p2 L_c1 e_c2_0 e_c2_1 e_c2_2 e_c2_3 hl_c1 hI hnn hnd hpos hc5)
    have Vo7 : Arv Z h0 c1 k_c1 .int (8 : Int32) (L_c1.map Value.int) (.int (0 : Int32)) := V_c1
    obtain ⟨cl7, Ar7, aq7, S7, M7, H7, G7⟩ := id V_c1
    obtain ⟨T7, h7, X7, e7, W7, st7⟩ := stI X6 hx hZ e6 Ar7 (j := (F4 p2 L_c1)) (inb_of S7 sd7) (g := (mkF m 25 #[.val (.ref a1), .val (.int p2), .val (.int (F4 p2 L_c1))] [(.int (p2 + (1 : Int32))), (.int (F4 p2 L_c1)), (.ref c1)])) rfl rfl (hb hby d4005_25)
    have hl7 : (own_L4005_0 p2 L_c1 e_c2_0 e_c2_1 e_c2_2 e_c2_3).length = 8 := (List.length_set ..).trans hl_c1
    have V7 : Arv Z h7 c1 k_c1 .int (8 : Int32) ((own_L4005_0 p2 L_c1 e_c2_0 e_c2_1 e_c2_2 e_c2_3).map Value.int) (.int (0 : Int32)) := own_setL Vo7 hl_c1 W7 sd7
    have N7 := Fr.snoc X7 N1 g_c1
    have fq8 := (Fld.other W7 F_size_a1 (Or.inl ne_a1_c1))
    obtain ⟨T9, X9, e9, st9⟩ := getF X7 hx hZ hown (host := "") (Or.inl (hw _ (List.mem_of_getElem? (i := 30) rfl))) Via.refl e7 fq8 (g := (mkF m 27 #[.val (.ref a1), .val (.int p2), .val (.int (F4 p2 L_c1))] [(.ref a1)])) rfl rfl (hb hby d4005_27)
    have fq10 := (Fld.other W7 F_atoms_a1 (Or.inl ne_a1_c1))
    obtain ⟨T11, X11, e11, st11⟩ := getF X9 hx hZ hown (host := "") (Or.inl (hw _ (List.mem_of_getElem? (i := 13) rfl))) Via.refl e9 fq10 (g := (mkF m 31 #[.val (.ref a1), .val (.int p2), .val (.int (F4 p2 L_c1))] [(.ref a1), (.int (4 : Int32))])) rfl rfl (hb hby d4005_31)
    have fq12 := (V_c2.other W7 ne_c2_c1)
    obtain ⟨cl13, Ar13, aq13, S13, M13, H13, G13⟩ := id fq12
    obtain ⟨T14, X14, e14, st14⟩ := getF X11 hx hZ hown (host := "") (Or.inl (hw _ (List.mem_of_getElem? (i := 13) rfl))) Via.refl e11 fq10 (g := (mkF m 40 #[.val (.ref a1), .val (.int p2), .val (.int (F4 p2 L_c1))] [(.ref a1), (.ref a1)])) rfl rfl (hb hby d4005_40)
    obtain ⟨T15, X15, e15, st15⟩ := getF X14 hx hZ hown (host := "") (Or.inl (hw _ (List.mem_of_getElem? (i := 30) rfl))) Via.refl e14 fq8 (g := (mkF m 44 #[.val (.ref a1), .val (.int p2), .val (.int (F4 p2 L_c1))] [(.ref a1), (.ref c2), (.ref a1)])) rfl rfl (hb hby d4005_44)
    have z17 : n0 ≤ h7.size := (Nat.le_trans Z0 (Keep.of_wr W7).1)
    obtain ⟨_, _, ⟨T16, L16, k16, n16⟩, -, X16, ⟨Lc16, hQ16, l16, y16, z16⟩, st16⟩ := Jvm.LawKit.callS X15 hx (y := (⟨"java/util/Arrays", "copyOf", "([II)[I"⟩ : MethodName)) hown (mvT hZ (hw _ (List.mem_of_getElem? (i := 32) rfl))) (mvT hZ (hw _ (List.mem_of_getElem? (i := 33) rfl))) (mvT hZ (hw _ (List.mem_of_getElem? (i := 34) rfl))) (mvT hZ (hw _ (List.mem_of_getElem? (i := 35) rfl))) (by decide) (backOf (W := 1) (rm6 l Z a0 hw [] c2 k_c2 e_c2_0 e_c2_1 e_c2_2 e_c2_3 h7 n0 z17 fq12) hZ (hw _ (List.mem_of_getElem? (i := 35) rfl)) (hw _ (List.mem_of_getElem? (i := 34) rfl)) (by decide) (by decide)) (g := (mkF m 49 #[.val (.ref a1), .val (.int p2), .val (.int (F4 p2 L_c1))] [(.int (8 : Int32)), (.ref c2), (.ref a1)])) rfl (by rw [hml]; rfl) (argsL := [(.ref c2), (.int (8 : Int32))]) (rest := [(.ref a1)]) (lenOf pd_4005_3 rfl) rfl (by show 2 * 0 + _ ≤ _; exact Nat.le_of_eq rfl) (hb hby d4005_49) (fun _ _ => ⟨rfl, e15, (by decide : 0 + 1 ≤ _), (by decide : 0 + 8 ≤ _)⟩)
    dsimp only [Pt.U, Pt.locs, Pt.cells, Pt.slots] at X16 l16 y16 z16 st16 hQ16
    subst l16 y16 z16
    have fq18 := (Exa.wr W7 E_a1)
    have k19 : Keep h0 h7 [c1, a1] := ((Keep.refl h0 [c1, a1]).wr W7 (Or.inl (by simp)))
    obtain ⟨b16_0, kk16_0, rfl, N16q, g_b16_0, hz_b16_0, K16, f16_0⟩ := hQ16
    have ne_a1_b16_0 : a1 ≠ b16_0 := Nat.ne_of_lt (Nat.lt_of_lt_of_le fq18.lt hz_b16_0)
    have ne_c1_b16_0 : c1 ≠ b16_0 := Nat.ne_of_lt (Nat.lt_of_lt_of_le V7.lt hz_b16_0)
    have ne_c2_b16_0 : c2 ≠ b16_0 := Nat.ne_of_lt (Nat.lt_of_lt_of_le fq12.lt hz_b16_0)
    have sz_b16_0 : h0.size ≤ b16_0 := Nat.le_trans k19.1 hz_b16_0
    have N16 := Fr.app N7 N16q
    have fq20 := (fq18.keep K16)
    have fq21 := (fq10.keep K16 nin0)
    obtain ⟨T22, h22, X22, e22, W22, st22⟩ := putF X16 hx hZ hown (host := "") (Or.inl (hw _ (List.mem_of_getElem? (i := 13) rfl))) Via.refl rfl fq21 fq20 (Or.inl (hw _ (List.mem_of_getElem? (i := 14) rfl))) (hw _ (List.mem_of_getElem? (i := 2) rfl)) (ty := (.array .int)) (by decide) rfl rfl (g := (mkF m 52 #[.val (.ref a1), .val (.int p2), .val (.int (F4 p2 L_c1))] [(.ref b16_0), (.ref a1)])) rfl rfl (hb hby d4005_52)
    have Fw22 := Fld.same W22 fq21
    have N22 := Fr.snoc X22 N16 g_a1
    obtain ⟨T23, X23, e23, st23⟩ := getF X22 hx hZ hown (host := "") (Or.inl (hw _ (List.mem_of_getElem? (i := 13) rfl))) Via.refl e22 Fw22 (g := (mkF m 56 #[.val (.ref a1), .val (.int p2), .val (.int (F4 p2 L_c1))] [(.ref a1)])) rfl rfl (hb hby d4005_56)
    have fq24 := (Fld.other W22 (fq8.keep K16 nin0) (Or.inr (slot_ne (Or.inl (hw _ (List.mem_of_getElem? (i := 31) rfl))) (Or.inl (hw _ (List.mem_of_getElem? (i := 14) rfl))) (by decide) (t := .int) (t' := (.array .int)) (by decide) (by decide))))
    obtain ⟨T25, X25, e25, st25⟩ := getF X23 hx hZ hown (host := "") (Or.inl (hw _ (List.mem_of_getElem? (i := 30) rfl))) Via.refl e23 fq24 (g := (mkF m 61 #[.val (.ref a1), .val (.int p2), .val (.int (F4 p2 L_c1))] [(.ref a1), (.ref a1), (.ref b16_0)])) rfl rfl (hb hby d4005_61)
    have fq26 := (Exa.wr W22 fq20)
    obtain ⟨T27, h27, X27, e27, W27, st27⟩ := putF X25 hx hZ hown (host := "") (Or.inl (hw _ (List.mem_of_getElem? (i := 30) rfl))) Via.refl e25 fq24 fq26 (Or.inl (hw _ (List.mem_of_getElem? (i := 31) rfl))) (hw _ (List.mem_of_getElem? (i := 2) rfl)) (ty := .int) (by decide) rfl rfl (g := (mkF m 67 #[.val (.ref a1), .val (.int p2), .val (.int (F4 p2 L_c1))] [(.int (5 : Int32)), (.ref a1), (.int (4 : Int32)), (.ref b16_0)])) rfl rfl (hb hby d4005_67)
    have Fw27 := Fld.same W27 fq24
    have N27 := Fr.snoc X27 N22 g_a1
    have fq28 := ((f16_0.other W22 (Ne.symm ne_a1_b16_0)).other W27 (Ne.symm ne_a1_b16_0))
    obtain ⟨cl29, Ar29, aq29, S29, M29, H29, G29⟩ := id fq28
    have hin29 : ¬ ((4 : Int32) < 0 ∨ cl29.slots.size ≤ ((4 : Int32)).toNatClampNeg) := inb_of S29 ⟨by decide, by decide⟩
    obtain ⟨T29, h29, X29, e29, W29, st29⟩ := stI X27 hx hZ e27 Ar29 (j := (4 : Int32)) hin29 (g := (mkF m 71 #[.val (.ref a1), .val (.int p2), .val (.int (F4 p2 L_c1))] [(.int p2), (.int (4 : Int32)), (.ref b16_0)])) rfl rfl (hb hby d4005_71)
    have V29 : Arv Z h29 b16_0 kk16_0 .int (8 : Int32) [(.int e_c2_0), (.int e_c2_1), (.int e_c2_2), (.int e_c2_3), (.int p2), (.int (0 : Int32)), (.int (0 : Int32)), (.int (0 : Int32))] (.int (0 : Int32)) := Arv.set Ar29 aq29 S29 M29 H29 G29 rfl W29 4 rfl (Nat.le_of_ble_eq_true rfl)
    have N29 := Fr.snoc X29 N27 g_b16_0
    have fq30 := (Fld.other W29 Fw27 (Or.inl ne_a1_b16_0))
    obtain ⟨T31, X31, e31, st31⟩ := getF X29 hx hZ hown (host := "") (Or.inl (hw _ (List.mem_of_getElem? (i := 30) rfl))) Via.refl e29 fq30 (g := (mkF m 73 #[.val (.ref a1), .val (.int p2), .val (.int (F4 p2 L_c1))] [(.ref a1)])) rfl rfl (hb hby d4005_73)
    have fq32 := (Fld.other W29 (Fld.other W27 (Fld.other W22 ((Fld.other W7 F_slots_a1 (Or.inl ne_a1_c1)).keep K16 nin0) (Or.inr (slot_ne (Or.inl (hw _ (List.mem_of_getElem? (i := 12) rfl))) (Or.inl (hw _ (List.mem_of_getElem? (i := 14) rfl))) (by decide) (t := (.array .int)) (t' := (.array .int)) (by decide) (by decide)))) (Or.inr (slot_ne (Or.inl (hw _ (List.mem_of_getElem? (i := 12) rfl))) (Or.inl (hw _ (List.mem_of_getElem? (i := 31) rfl))) (by decide) (t := (.array .int)) (t' := .int) (by decide) (by decide)))) (Or.inl ne_a1_b16_0))
    obtain ⟨T33, X33, e33, st33⟩ := getF X31 hx hZ hown (host := "") (Or.inl (hw _ (List.mem_of_getElem? (i := 11) rfl))) Via.refl e31 fq32 (g := (mkF m 79 #[.val (.ref a1), .val (.int p2), .val (.int (F4 p2 L_c1))] [(.ref a1), (.int (10 : Int32))])) rfl rfl (hb hby d4005_79)
    have fq34 := ((((V7.keep K16 nin0).other W22 (Ne.symm ne_a1_c1)).other W27 (Ne.symm ne_a1_c1)).other W29 ne_c1_b16_0)
    obtain ⟨cl35, Ar35, aq35, S35, M35, H35, G35⟩ := id fq34
    obtain ⟨T36, X36, e36, st36⟩ := getF X33 hx hZ hown (host := "") (Or.inl (hw _ (List.mem_of_getElem? (i := 11) rfl))) Via.refl e33 fq32 (g := (mkF m 88 #[.val (.ref a1), .val (.int p2), .val (.int (F4 p2 L_c1))] [(.ref a1), (.ref a1)])) rfl rfl (hb hby d4005_88)
    obtain ⟨cl37, Ar37, aq37, S37, M37, H37, G37⟩ := id fq34
    have fq39 := (Fld.other W29 (Fld.other W27 Fw22 (Or.inr (slot_ne (Or.inl (hw _ (List.mem_of_getElem? (i := 14) rfl))) (Or.inl (hw _ (List.mem_of_getElem? (i := 31) rfl))) (by decide) (t := (.array .int)) (t' := .int) (by decide) (by decide)))) (Or.inl ne_a1_b16_0))
    have fq40 := (Exa.wr W29 (Exa.wr W27 fq26))
    have z41 : n0 ≤ h29.size := (Nat.le_trans (Nat.le_trans (Nat.le_trans (Nat.le_trans z17 K16.1) (Keep.of_wr W22).1) (Keep.of_wr W27).1) (Keep.of_wr W29).1)
    obtain ⟨cq38, iq38, iq38'⟩ := fq40.cell
    obtain ⟨_, _, ⟨T38, L38, k38, n38⟩, -, X38, ⟨Lc38, hQ38, l38, y38, z38⟩, st38⟩ := X36.privateBack hx (y := (⟨"com/example/krel/krel/saturation/AtomSet", "rehash", "(I)V"⟩ : MethodName)) hown (mvT hZ (hw _ (List.mem_of_getElem? (i := 44) rfl))) (mvT hZ (hw _ (List.mem_of_getElem? (i := 45) rfl))) (own_selp (z := (⟨"com/example/krel/krel/saturation/AtomSet", "contains", "(I)Z"⟩ : MethodName)) (mvT hZ (hw _ (List.mem_of_getElem? (i := 18) rfl))) rfl (Cond.privateMethod_at (mvP hZ (hw _ (List.mem_of_getElem? (i := 46) rfl)) (args := #[]))) (mvT hZ (hw _ (List.mem_of_getElem? (i := 45) rfl))) (by decide)) (Cond.privateMethod_at (mvP hZ (hw _ (List.mem_of_getElem? (i := 46) rfl)) (args := #[]))) (mvT hZ (hw _ (List.mem_of_getElem? (i := 47) rfl))) (by decide) (backOf (W := 0) (rm8 l Z a0 hw [] a1 b16_0 kk16_0 e_c2_0 e_c2_1 e_c2_2 e_c2_3 p2 (0 : Int32) (0 : Int32) (0 : Int32) (.ref c1) h29 n0 z41 fq40 fq30 fq39 V29 (side_4005_94 p2 L_c1 e_c2_0 e_c2_1 e_c2_2 e_c2_3 hl_c1 hI hnn hnd hpos hc5) fq32 g_a1 (Ne.symm ne_a1_b16_0)) hZ (hw _ (List.mem_of_getElem? (i := 47) rfl)) (hw _ (List.mem_of_getElem? (i := 3) rfl)) (by decide) (by decide)) (g := (mkF m 94 #[.val (.ref a1), .val (.int p2), .val (.int (F4 p2 L_c1))] [(.int (16 : Int32)), (.ref a1)])) rfl (by rw [hml]; rfl) (Steps.refl _) (a := a1) (by rw [e36]; exact iq38) iq38' (argsL := [(.int (16 : Int32))]) (rest := []) (lenOf pd_4005_6 rfl) rfl (by show 2 * 0 + _ ≤ _; exact Nat.le_of_eq rfl) (hb hby d4005_94) (fun _ _ => ⟨rfl, e36, (by decide : 1 + 1 ≤ _), (by decide : 8 + 16 ≤ _)⟩)
    dsimp only [Pt.U, Pt.locs, Pt.cells, Pt.slots] at X38 l38 y38 z38 st38 hQ38
    subst l38 y38 z38
    have fq42 := ((((fq12.keep K16 nin0).other W22 ne_c2_a1).other W27 ne_c2_a1).other W29 ne_c2_b16_0)
    have k43 : Keep h0 h29 [c1, a1] := ((((k19.trans K16 all0).wr W22 (Or.inl (by simp))).wr W27 (Or.inl (by simp))).wr W29 (Or.inr sz_b16_0))
    obtain ⟨b38_0, kk38_0, rfl, N38q, g_b38_0, hz_b38_0, K38, f38_0, f38_1, f38_2, f38_3, f38_4⟩ := hQ38
    have ne_a1_b38_0 : a1 ≠ b38_0 := Nat.ne_of_lt (Nat.lt_of_lt_of_le fq40.lt hz_b38_0)
    have ne_b16_0_b38_0 : b16_0 ≠ b38_0 := Nat.ne_of_lt (Nat.lt_of_lt_of_le V29.lt hz_b38_0)
    have ne_c1_b38_0 : c1 ≠ b38_0 := Nat.ne_of_lt (Nat.lt_of_lt_of_le fq34.lt hz_b38_0)
    have ne_c2_b38_0 : c2 ≠ b38_0 := Nat.ne_of_lt (Nat.lt_of_lt_of_le fq42.lt hz_b38_0)
    have sz_b38_0 : h0.size ≤ b38_0 := Nat.le_trans k43.1 hz_b38_0
    have hl38_rb0 : (own_L8_4 e_c2_0 e_c2_1 e_c2_2 e_c2_3 p2 (0 : Int32) (0 : Int32) (0 : Int32)).length = 16 := (own_len8 e_c2_0 e_c2_1 e_c2_2 e_c2_3 p2 (0 : Int32) (0 : Int32) (0 : Int32))
    have N38 := Fr.app N29 N38q
    have k44 : Keep h0 T38.heap [c1, a1] := (k43.trans K38 (allS (Or.inl (by simp)) all0))
    have fq45 := (V29.keep K38 (ninS (Ne.symm ne_a1_b16_0) nin0))
    obtain ⟨fs, hr, hrun, hended, hW, hsame⟩ := X38.leave (v := some (.int (1 : Int32))) (fun h => by rw [Bd.returns] at h; cases h)
    refine ⟨_, _, pre4 _ ?_, hrun, hended, _, _, rfl, ?_, ⟨_, rfl⟩, hW, hsame.mono (by decide) (by decide)⟩
    · show Steps p.tables e below (T2.setTop (mkF m 12 #[.val (.ref a1), .val (.int p2), .val (.int (F4 p2 L_c1))] [(.int (own_at L_c1 (F4 p2 L_c1)))])) _
      refine XS.ifYes X2.here hx rfl (pc0 := 12) (pc' := 17) rfl (hb hby d4005_12) rfl ((if0 _ _).trans (teq hc5).1) (by decide) (by decide) ?_
      show Steps p.tables e below (T2.setTop (mkF m 17 #[.val (.ref a1), .val (.int p2), .val (.int (F4 p2 L_c1))] [])) _
      refine XS.aloadN X2.here hx rfl (hb hby d4005_17) rfl rfl ?_
      show Steps p.tables e below (T2.setTop (mkF m 18 #[.val (.ref a1), .val (.int p2), .val (.int (F4 p2 L_c1))] [(.ref a1)])) _
      refine st6 _ ?_
      show Steps p.tables e below (T6.setTop (mkF m 21 #[.val (.ref a1), .val (.int p2), .val (.int (F4 p2 L_c1))] [(.ref c1)])) _
      refine XS.iloadN X6.here hx rfl (hb hby d4005_21) rfl ?_
      show Steps p.tables e below (T6.setTop (mkF m 22 #[.val (.ref a1), .val (.int p2), .val (.int (F4 p2 L_c1))] [(.int (F4 p2 L_c1)), (.ref c1)])) _
      refine XS.iloadN X6.here hx rfl (hb hby d4005_22) rfl ?_
      show Steps p.tables e below (T6.setTop (mkF m 23 #[.val (.ref a1), .val (.int p2), .val (.int (F4 p2 L_c1))] [(.int p2), (.int (F4 p2 L_c1)), (.ref c1)])) _
      refine XS.iconst X6.here hx rfl (hb hby d4005_23) ?_
      show Steps p.tables e below (T6.setTop (mkF m 24 #[.val (.ref a1), .val (.int p2), .val (.int (F4 p2 L_c1))] [(.int (1 : Int32)), (.int p2), (.int (F4 p2 L_c1)), (.ref c1)])) _
      refine XS.iadd X6.here hx rfl (hb hby d4005_24) rfl ?_
      show Steps p.tables e below (T6.setTop (mkF m 25 #[.val (.ref a1), .val (.int p2), .val (.int (F4 p2 L_c1))] [(.int (p2 + (1 : Int32))), (.int (F4 p2 L_c1)), (.ref c1)])) _
      refine st7 _ ?_
      show Steps p.tables e below (T7.setTop (mkF m 26 #[.val (.ref a1), .val (.int p2), .val (.int (F4 p2 L_c1))] [])) _
      refine XS.aloadN X7.here hx rfl (hb hby d4005_26) rfl rfl ?_
      show Steps p.tables e below (T7.setTop (mkF m 27 #[.val (.ref a1), .val (.int p2), .val (.int (F4 p2 L_c1))] [(.ref a1)])) _
      refine st9 _ ?_
      show Steps p.tables e below (T9.setTop (mkF m 30 #[.val (.ref a1), .val (.int p2), .val (.int (F4 p2 L_c1))] [(.int (4 : Int32))])) _
      refine XS.aloadN X9.here hx rfl (hb hby d4005_30) rfl rfl ?_
      show Steps p.tables e below (T9.setTop (mkF m 31 #[.val (.ref a1), .val (.int p2), .val (.int (F4 p2 L_c1))] [(.ref a1), (.int (4 : Int32))])) _
      refine st11 _ ?_
      show Steps p.tables e below (T11.setTop (mkF m 34 #[.val (.ref a1), .val (.int p2), .val (.int (F4 p2 L_c1))] [(.ref c2), (.int (4 : Int32))])) _
      refine X11.arraylength hx (by rw [e11]; exact Ar13.1) (State.isArrayOf_alike hZ.alike Ar13.2.1) (g := (mkF m 34 #[.val (.ref a1), .val (.int p2), .val (.int (F4 p2 L_c1))] [(.ref c2), (.int (4 : Int32))])) rfl rfl (hb hby d4005_34) _ ?_
      rw [len_of S13 M13]
      show Steps p.tables e below (T11.setTop (mkF m 35 #[.val (.ref a1), .val (.int p2), .val (.int (F4 p2 L_c1))] [(.int (4 : Int32)), (.int (4 : Int32))])) _
      refine XS.icmpNo X11.here hx rfl (hb hby d4005_35) rfl (teq (rfl : (4 : Int32) = (4 : Int32))).2 ?_
      show Steps p.tables e below (T11.setTop (mkF m 38 #[.val (.ref a1), .val (.int p2), .val (.int (F4 p2 L_c1))] [])) _
      refine XS.aloadN X11.here hx rfl (hb hby d4005_38) rfl rfl ?_
      show Steps p.tables e below (T11.setTop (mkF m 39 #[.val (.ref a1), .val (.int p2), .val (.int (F4 p2 L_c1))] [(.ref a1)])) _
      refine XS.aloadN X11.here hx rfl (hb hby d4005_39) rfl rfl ?_
      show Steps p.tables e below (T11.setTop (mkF m 40 #[.val (.ref a1), .val (.int p2), .val (.int (F4 p2 L_c1))] [(.ref a1), (.ref a1)])) _
      refine st14 _ ?_
      show Steps p.tables e below (T14.setTop (mkF m 43 #[.val (.ref a1), .val (.int p2), .val (.int (F4 p2 L_c1))] [(.ref c2), (.ref a1)])) _
      refine XS.aloadN X14.here hx rfl (hb hby d4005_43) rfl rfl ?_
      show Steps p.tables e below (T14.setTop (mkF m 44 #[.val (.ref a1), .val (.int p2), .val (.int (F4 p2 L_c1))] [(.ref a1), (.ref c2), (.ref a1)])) _
      refine st15 _ ?_
      show Steps p.tables e below (T15.setTop (mkF m 47 #[.val (.ref a1), .val (.int p2), .val (.int (F4 p2 L_c1))] [(.int (4 : Int32)), (.ref c2), (.ref a1)])) _
      refine XS.iconst X15.here hx rfl (hb hby d4005_47) ?_
      show Steps p.tables e below (T15.setTop (mkF m 48 #[.val (.ref a1), .val (.int p2), .val (.int (F4 p2 L_c1))] [(.int (2 : Int32)), (.int (4 : Int32)), (.ref c2), (.ref a1)])) _
      refine XS.imul X15.here hx rfl (hb hby d4005_48) rfl ?_
      show Steps p.tables e below (T15.setTop (mkF m 49 #[.val (.ref a1), .val (.int p2), .val (.int (F4 p2 L_c1))] [(.int (8 : Int32)), (.ref c2), (.ref a1)])) _
      refine st16 _ ?_
      show Steps p.tables e below (T16.setTop (mkF m 52 #[.val (.ref a1), .val (.int p2), .val (.int (F4 p2 L_c1))] [(.ref b16_0), (.ref a1)])) _
      refine st22 _ ?_
      show Steps p.tables e below (T22.setTop (mkF m 55 #[.val (.ref a1), .val (.int p2), .val (.int (F4 p2 L_c1))] [])) _
      refine XS.aloadN X22.here hx rfl (hb hby d4005_55) rfl rfl ?_
      show Steps p.tables e below (T22.setTop (mkF m 56 #[.val (.ref a1), .val (.int p2), .val (.int (F4 p2 L_c1))] [(.ref a1)])) _
      refine st23 _ ?_
      show Steps p.tables e below (T23.setTop (mkF m 59 #[.val (.ref a1), .val (.int p2), .val (.int (F4 p2 L_c1))] [(.ref b16_0)])) _
      refine XS.aloadN X23.here hx rfl (hb hby d4005_59) rfl rfl ?_
      show Steps p.tables e below (T23.setTop (mkF m 60 #[.val (.ref a1), .val (.int p2), .val (.int (F4 p2 L_c1))] [(.ref a1), (.ref b16_0)])) _
      refine XS.dup X23.here hx rfl (hb hby d4005_60) rfl rfl ?_
      show Steps p.tables e below (T23.setTop (mkF m 61 #[.val (.ref a1), .val (.int p2), .val (.int (F4 p2 L_c1))] [(.ref a1), (.ref a1), (.ref b16_0)])) _
      refine st25 _ ?_
      show Steps p.tables e below (T25.setTop (mkF m 64 #[.val (.ref a1), .val (.int p2), .val (.int (F4 p2 L_c1))] [(.int (4 : Int32)), (.ref a1), (.ref b16_0)])) _
      refine XS.dupX1 X25.here hx rfl (hb hby d4005_64) rfl rfl rfl ?_
      show Steps p.tables e below (T25.setTop (mkF m 65 #[.val (.ref a1), .val (.int p2), .val (.int (F4 p2 L_c1))] [(.int (4 : Int32)), (.ref a1), (.int (4 : Int32)), (.ref b16_0)])) _
      refine XS.iconst X25.here hx rfl (hb hby d4005_65) ?_
      show Steps p.tables e below (T25.setTop (mkF m 66 #[.val (.ref a1), .val (.int p2), .val (.int (F4 p2 L_c1))] [(.int (1 : Int32)), (.int (4 : Int32)), (.ref a1), (.int (4 : Int32)), (.ref b16_0)])) _
      refine XS.iadd X25.here hx rfl (hb hby d4005_66) rfl ?_
      show Steps p.tables e below (T25.setTop (mkF m 67 #[.val (.ref a1), .val (.int p2), .val (.int (F4 p2 L_c1))] [(.int (5 : Int32)), (.ref a1), (.int (4 : Int32)), (.ref b16_0)])) _
      refine st27 _ ?_
      show Steps p.tables e below (T27.setTop (mkF m 70 #[.val (.ref a1), .val (.int p2), .val (.int (F4 p2 L_c1))] [(.int (4 : Int32)), (.ref b16_0)])) _
      refine XS.iloadN X27.here hx rfl (hb hby d4005_70) rfl ?_
      show Steps p.tables e below (T27.setTop (mkF m 71 #[.val (.ref a1), .val (.int p2), .val (.int (F4 p2 L_c1))] [(.int p2), (.int (4 : Int32)), (.ref b16_0)])) _
      refine st29 _ ?_
      show Steps p.tables e below (T29.setTop (mkF m 72 #[.val (.ref a1), .val (.int p2), .val (.int (F4 p2 L_c1))] [])) _
      refine XS.aloadN X29.here hx rfl (hb hby d4005_72) rfl rfl ?_
      show Steps p.tables e below (T29.setTop (mkF m 73 #[.val (.ref a1), .val (.int p2), .val (.int (F4 p2 L_c1))] [(.ref a1)])) _
      refine st31 _ ?_
      show Steps p.tables e below (T31.setTop (mkF m 76 #[.val (.ref a1), .val (.int p2), .val (.int (F4 p2 L_c1))] [(.int (5 : Int32))])) _
      refine XS.iconst X31.here hx rfl (hb hby d4005_76) ?_
      show Steps p.tables e below (T31.setTop (mkF m 77 #[.val (.ref a1), .val (.int p2), .val (.int (F4 p2 L_c1))] [(.int (2 : Int32)), (.int (5 : Int32))])) _
      refine XS.imul X31.here hx rfl (hb hby d4005_77) rfl ?_
      show Steps p.tables e below (T31.setTop (mkF m 78 #[.val (.ref a1), .val (.int p2), .val (.int (F4 p2 L_c1))] [(.int (10 : Int32))])) _
      refine XS.aloadN X31.here hx rfl (hb hby d4005_78) rfl rfl ?_
      show Steps p.tables e below (T31.setTop (mkF m 79 #[.val (.ref a1), .val (.int p2), .val (.int (F4 p2 L_c1))] [(.ref a1), (.int (10 : Int32))])) _
      refine st33 _ ?_
      show Steps p.tables e below (T33.setTop (mkF m 82 #[.val (.ref a1), .val (.int p2), .val (.int (F4 p2 L_c1))] [(.ref c1), (.int (10 : Int32))])) _
      refine X33.arraylength hx (by rw [e33]; exact Ar35.1) (State.isArrayOf_alike hZ.alike Ar35.2.1) (g := (mkF m 82 #[.val (.ref a1), .val (.int p2), .val (.int (F4 p2 L_c1))] [(.ref c1), (.int (10 : Int32))])) rfl rfl (hb hby d4005_82) _ ?_
      rw [len_of S35 M35]
      show Steps p.tables e below (T33.setTop (mkF m 83 #[.val (.ref a1), .val (.int p2), .val (.int (F4 p2 L_c1))] [(.int (8 : Int32)), (.int (10 : Int32))])) _
      refine XS.icmpNo X33.here hx rfl (hb hby d4005_83) rfl (tlt (by decide : (8 : Int32) < (10 : Int32))).2.2.2 ?_
      show Steps p.tables e below (T33.setTop (mkF m 86 #[.val (.ref a1), .val (.int p2), .val (.int (F4 p2 L_c1))] [])) _
      refine XS.aloadN X33.here hx rfl (hb hby d4005_86) rfl rfl ?_
      show Steps p.tables e below (T33.setTop (mkF m 87 #[.val (.ref a1), .val (.int p2), .val (.int (F4 p2 L_c1))] [(.ref a1)])) _
      refine XS.aloadN X33.here hx rfl (hb hby d4005_87) rfl rfl ?_
      show Steps p.tables e below (T33.setTop (mkF m 88 #[.val (.ref a1), .val (.int p2), .val (.int (F4 p2 L_c1))] [(.ref a1), (.ref a1)])) _
      refine st36 _ ?_
      show Steps p.tables e below (T36.setTop (mkF m 91 #[.val (.ref a1), .val (.int p2), .val (.int (F4 p2 L_c1))] [(.ref c1), (.ref a1)])) _
      refine X36.arraylength hx (by rw [e36]; exact Ar37.1) (State.isArrayOf_alike hZ.alike Ar37.2.1) (g := (mkF m 91 #[.val (.ref a1), .val (.int p2), .val (.int (F4 p2 L_c1))] [(.ref c1), (.ref a1)])) rfl rfl (hb hby d4005_91) _ ?_
      rw [len_of S37 M37]
      show Steps p.tables e below (T36.setTop (mkF m 92 #[.val (.ref a1), .val (.int p2), .val (.int (F4 p2 L_c1))] [(.int (8 : Int32)), (.ref a1)])) _
      refine XS.iconst X36.here hx rfl (hb hby d4005_92) ?_
      show Steps p.tables e below (T36.setTop (mkF m 93 #[.val (.ref a1), .val (.int p2), .val (.int (F4 p2 L_c1))] [(.int (2 : Int32)), (.int (8 : Int32)), (.ref a1)])) _
      refine XS.imul X36.here hx rfl (hb hby d4005_93) rfl ?_
      show Steps p.tables e below (T36.setTop (mkF m 94 #[.val (.ref a1), .val (.int p2), .val (.int (F4 p2 L_c1))] [(.int (16 : Int32)), (.ref a1)])) _
      refine st38.trans ?_
      show Steps p.tables e below (T38.setTop (mkF m 97 #[.val (.ref a1), .val (.int p2), .val (.int (F4 p2 L_c1))] [])) _
      refine XS.iconst X38.here hx rfl (hb hby d4005_97) ?_
      show Steps p.tables e below (T38.setTop (mkF m 98 #[.val (.ref a1), .val (.int p2), .val (.int (F4 p2 L_c1))] [(.int (1 : Int32))])) _
      exact retN X38 hx (t := .boolean) Bd.returns (by simp) (hb hby d4005_98) hr
    · show Q4005 Z a1 p2 c1 k_c1 L_c1 c2 k_c2 e_c2_0 e_c2_1 e_c2_2 e_c2_3 h0 n0 _ T38.heap _
      refine ⟨⟨_, rfl⟩, N38, k44.1, ?_⟩
      have hm : ¬ p2 ∈ [e_c2_0, e_c2_1, e_c2_2, e_c2_3] := (own_found_8 hl_c1 hI hnn (by simp) p2 hpos).1 hc5
      rw [own_ins, if_neg hm]
      have hok2 : own_Ok e_c2_0 e_c2_1 e_c2_2 e_c2_3 p2 := ⟨own_nnS hnn hpos, own_ndS hnd hm⟩
      exact ⟨b38_0, b16_0, kk38_0, kk16_0, (own_L8_4 e_c2_0 e_c2_1 e_c2_2 e_c2_3 p2 (0 : Int32) (0 : Int32) (0 : Int32)), [], f38_0, f38_3, f38_1, f38_2, g_a1, g_b38_0, g_b16_0, ne_a1_b38_0, ne_a1_b16_0, (Ne.symm ne_b16_0_b38_0), own_nnS hnn hpos, own_ndS hnd hm, Or.inr ⟨by simp, hl38_rb0, f38_4, own_I8_4 e_c2_0 e_c2_1 e_c2_2 e_c2_3 p2 0 0 0 hok2⟩⟩
  · obtain ⟨fs, hr, hrun, hended, hW, hsame⟩ := X2.leave (v := some (.int (0 : Int32))) (fun h => by rw [Bd.returns] at h; cases h)
    refine ⟨_, _, pre4 _ ?_, hrun, hended, _, _, rfl, ?_, ⟨_, rfl⟩, hW, hsame.mono (by decide) (by decide)⟩
    · show Steps p.tables e below (T2.setTop (mkF m 12 #[.val (.ref a1), .val (.int p2), .val (.int (F4 p2 L_c1))] [(.int (own_at L_c1 (F4 p2 L_c1)))])) _
      refine XS.ifNo X2.here hx rfl (hb hby d4005_12) rfl ((if0 _ _).trans (feq hc5).1) ?_
      show Steps p.tables e below (T2.setTop (mkF m 15 #[.val (.ref a1), .val (.int p2), .val (.int (F4 p2 L_c1))] [])) _
      refine XS.iconst X2.here hx rfl (hb hby d4005_15) ?_
      show Steps p.tables e below (T2.setTop (mkF m 16 #[.val (.ref a1), .val (.int p2), .val (.int (F4 p2 L_c1))] [(.int (0 : Int32))])) _
      exact retN X2 hx (t := .boolean) Bd.returns (by simp) (hb hby d4005_16) hr
    · show Q4005 Z a1 p2 c1 k_c1 L_c1 c2 k_c2 e_c2_0 e_c2_1 e_c2_2 e_c2_3 h0 n0 _ T2.heap _
      rw [e2]
      refine ⟨⟨_, rfl⟩, N1, Nat.le_refl _, ?_⟩
      have hm : p2 ∈ [e_c2_0, e_c2_1, e_c2_2, e_c2_3] := (own_found_8 hl_c1 hI hnn (by simp) p2 hpos).2 hc5
      rw [own_ins, if_pos hm]
      exact ⟨c1, c2, k_c1, k_c2, L_c1, [e_c2_0, e_c2_1, e_c2_2, e_c2_3], E_a1, F_slots_a1, F_atoms_a1, F_size_a1, g_a1, g_c1, g_c2, ne_a1_c1, ne_a1_c2, ne_c1_c2, hnn, hnd, Or.inl ⟨by simp, hl_c1, V_c1, hI, rfl, V_c2, rfl⟩⟩
def Q90005 (Z : State) (a1 : Addr) (p2 : Int32) (xs : List Int32) (h0 : Heap) (n0 : Nat) (v : Option Value) (h : Heap) (L : List Loc) : Prop := (∃ r : Int32, v = some (.int r)) ∧ Fr n0 L ∧ h0.size ≤ h.size ∧ own_AS Z h n0 a1 (own_ins xs p2)
set_option maxRecDepth 65536 in
set_option maxHeartbeats 40000000 in
theorem rm90005 (l : Launch) (Z : State) (a0 : Array Value) (hw : ∀ d ∈ tables_1, d.before a0 Z = true) (ws : List Jvm.Cond) (a1 : Addr) (p2 : Int32) (xs : List Int32) (h0 : Heap) (n0 : Nat) (Z0 : n0 ≤ h0.size) (A : own_AS Z h0 n0 a1 xs) (hlen : xs.length ≤ 4) (hpos : ¬ p2 + 1 = 0) :
    MetFree l (⟨"com/example/krel/krel/saturation/AtomSet", "add", "(I)Z"⟩ : MethodName) (head1 (Jvm.Cond.code (⟨"com/example/krel/krel/saturation/AtomSet", "add", "(I)Z"⟩ : MethodName) prog_40_method_2_code 3 (some .boolean) :: ws) ({ frames := 2, cells := 2, slots := 24, locals := 80 } : Room)) (fun a U => a = #[(.ref a1), (.int p2)] ∧ Z.Warmed39 U.vm ∧ U.heap = h0) (fun _ _ _ _ _ => True) (fun _ U o U' => ∃ v L, o = .returned v ∧ Q90005 Z a1 p2 xs h0 n0 v U'.heap L ∧ FrameEnd U o U' L ({ frames := 2, cells := 2, slots := 24, locals := 80 } : Room).cells ({ frames := 2, cells := 2, slots := 24, locals := 80 } : Room).slots) := by
  obtain ⟨c1, c2, k_c1, k_c2, L_c1, E, E_a1, F_slots_a1, F_atoms_a1, F_size_a1, g_a1, g_c1, g_c2, ne_a1_c1, ne_a1_c2, ne_c1_c2, hnn, hnd, hR⟩ := A
  have ne_c2_c1 := ne_c1_c2.symm
  have ne_c2_a1 := ne_a1_c2.symm
  have ne_c1_a1 := ne_a1_c1.symm
  rcases hR with ⟨-, hl_c1, V_c1, hI, hE, V_c2, ht⟩ | ⟨h5, -⟩
  · match E, hE, V_c2, ht with
    | [e_c2_0, e_c2_1, e_c2_2, e_c2_3], _, V_c2, ht =>
      have hk : xs.length = 0 ∨ xs.length = 1 ∨ xs.length = 2 ∨ xs.length = 3 ∨ xs.length = 4 := by omega
      rcases hk with hk | hk | hk | hk | hk
      · rw [hk] at ht
        have hx : ([] : List Int32) = xs := ht
        subst hx
        exact rm5 l Z a0 hw ws a1 p2 c1 k_c1 L_c1 c2 k_c2 e_c2_0 e_c2_1 e_c2_2 e_c2_3 h0 n0 Z0 E_a1 F_size_a1 F_slots_a1 V_c1 hl_c1 F_atoms_a1 V_c2 hI hnn hnd hpos g_c1 ne_a1_c1 ne_c2_c1 g_a1 ne_c2_a1 g_c2 ne_a1_c2 ne_c1_c2
      · rw [hk] at ht
        have hx : [e_c2_0] = xs := ht
        subst hx
        exact rm1005 l Z a0 hw ws a1 p2 c1 k_c1 L_c1 c2 k_c2 e_c2_0 e_c2_1 e_c2_2 e_c2_3 h0 n0 Z0 E_a1 F_size_a1 F_slots_a1 V_c1 hl_c1 F_atoms_a1 V_c2 hI hnn hnd hpos g_c1 ne_a1_c1 ne_c2_c1 g_a1 ne_c2_a1 g_c2 ne_a1_c2 ne_c1_c2
      · rw [hk] at ht
        have hx : [e_c2_0, e_c2_1] = xs := ht
        subst hx
        exact rm2005 l Z a0 hw ws a1 p2 c1 k_c1 L_c1 c2 k_c2 e_c2_0 e_c2_1 e_c2_2 e_c2_3 h0 n0 Z0 E_a1 F_size_a1 F_slots_a1 V_c1 hl_c1 F_atoms_a1 V_c2 hI hnn hnd hpos g_c1 ne_a1_c1 ne_c2_c1 g_a1 ne_c2_a1 g_c2 ne_a1_c2 ne_c1_c2
      · rw [hk] at ht
        have hx : [e_c2_0, e_c2_1, e_c2_2] = xs := ht
        subst hx
        exact rm3005 l Z a0 hw ws a1 p2 c1 k_c1 L_c1 c2 k_c2 e_c2_0 e_c2_1 e_c2_2 e_c2_3 h0 n0 Z0 E_a1 F_size_a1 F_slots_a1 V_c1 hl_c1 F_atoms_a1 V_c2 hI hnn hnd hpos g_c1 ne_a1_c1 ne_c2_c1 g_a1 ne_c2_a1 g_c2 ne_a1_c2 ne_c1_c2
      · rw [hk] at ht
        have hx : [e_c2_0, e_c2_1, e_c2_2, e_c2_3] = xs := ht
        subst hx
        exact rm4005 l Z a0 hw ws a1 p2 c1 k_c1 L_c1 c2 k_c2 e_c2_0 e_c2_1 e_c2_2 e_c2_3 h0 n0 Z0 E_a1 F_size_a1 F_slots_a1 V_c1 hl_c1 F_atoms_a1 V_c2 hI hnn hnd hpos g_c1 ne_a1_c1 ne_c2_c1 g_a1 ne_c2_a1 g_c2 ne_a1_c2 ne_c1_c2
  · omega
theorem d3_0 : decode prog_40_method_3_code 0 = .ok (.aload_n 0, 1) := by decide +kernel
theorem d3_1 : decode prog_40_method_3_code 1 = .ok (.getfield 7, 3) := by decide +kernel
theorem d3_4 : decode prog_40_method_3_code 4 = .ok (.aload_n 0, 1) := by decide +kernel
theorem d3_5 : decode prog_40_method_3_code 5 = .ok (.iload_n 1, 1) := by decide +kernel
theorem d3_6 : decode prog_40_method_3_code 6 = .ok (.invokevirtual 16, 3) := by decide +kernel
theorem d3_9 : decode prog_40_method_3_code 9 = .ok (.iaload, 1) := by decide +kernel
theorem d3_10 : decode prog_40_method_3_code 10 = .ok (.ifCond .eq 7, 3) := by decide +kernel
theorem d3_13 : decode prog_40_method_3_code 13 = .ok (.iconst 1, 1) := by decide +kernel
theorem d3_14 : decode prog_40_method_3_code 14 = .ok (.goto 4, 3) := by decide +kernel
theorem d3_17 : decode prog_40_method_3_code 17 = .ok (.iconst 0, 1) := by decide +kernel
theorem d3_18 : decode prog_40_method_3_code 18 = .ok (.ireturn, 1) := by decide +kernel
theorem pn_3 : plainName "com/example/krel/krel/saturation/AtomSet" = true := by first | (simp [plainName, overriddenIn]; done) | decide +kernel
theorem pd_3_2 : parseMethodDescriptor "(I)I" = some ⟨[.int], some .int⟩ := by decide +kernel
theorem ef_3 (m : MethodId) (a1 : Addr) (p2 : Int32) : entryFrame m #[(.ref a1), (.int p2)] 2 = mkF m 0 #[.val (.ref a1), .val (.int p2)] [] := by first | (simp [entryFrame, mkF, argsToLocals, Value.category]; done) | rfl

def F3 (p2 : Int32) (L_c1 : List Int32) : Int32 := (if (own_at L_c1 (F4 p2 L_c1)) = (0 : Int32) then (0 : Int32) else (1 : Int32))
set_option maxRecDepth 65536 in
set_option maxHeartbeats 40000000 in
theorem side_3_9_3 (p2 : Int32) (L_c1 : List Int32) (hl_c1 : L_c1.length = 8) (hz : own_Free 8 L_c1 p2) : ¬ ((F4 p2 L_c1) < 0) ∧ (F4 p2 L_c1) < (8 : Int32) := by
  exact own_bd_8 _ _ hl_c1
def Q3 (Z : State) (a1 : Addr) (p2 : Int32) (c1 : Addr) (k_c1 : ClassId) (L_c1 : List Int32) (h0 : Heap) (n0 : Nat) (v : Option Value) (h : Heap) (L : List Loc) : Prop := v = some (.int (F3 p2 L_c1)) ∧ Fr n0 L ∧ h = h0
set_option maxRecDepth 65536 in
set_option maxHeartbeats 40000000 in
theorem rm3 (l : Launch) (Z : State) (a0 : Array Value) (hw : ∀ d ∈ tables_1, d.before a0 Z = true) (ws : List Jvm.Cond) (a1 : Addr) (p2 : Int32) (c1 : Addr) (k_c1 : ClassId) (L_c1 : List Int32) (h0 : Heap) (n0 : Nat) (Z0 : n0 ≤ h0.size) (E_a1 : Exa Z h0 a1 "com/example/krel/krel/saturation/AtomSet") (F_slots_a1 : Fld Z h0 a1 "com/example/krel/krel/saturation/AtomSet" "slots" "[I" (.ref c1)) (V_c1 : Arv Z h0 c1 k_c1 .int (8 : Int32) (L_c1.map Value.int) (.int (0 : Int32))) (hl_c1 : L_c1.length = 8) (hz : own_Free 8 L_c1 p2) :
    MetFree l (⟨"com/example/krel/krel/saturation/AtomSet", "contains", "(I)Z"⟩ : MethodName) (head1 (Jvm.Cond.code (⟨"com/example/krel/krel/saturation/AtomSet", "contains", "(I)Z"⟩ : MethodName) prog_40_method_3_code 2 (some .boolean) :: ws) ({ frames := 1, cells := 0, slots := 0, locals := 17 } : Room)) (fun a U => a = #[(.ref a1), (.int p2)] ∧ Z.Warmed39 U.vm ∧ U.heap = h0) (fun _ _ _ _ _ => True) (fun _ U o U' => ∃ v L, o = .returned v ∧ Q3 Z a1 p2 c1 k_c1 L_c1 h0 n0 v U'.heap L ∧ FrameEnd U o U' L ({ frames := 1, cells := 0, slots := 0, locals := 17 } : Room).cells ({ frames := 1, cells := 0, slots := 0, locals := 17 } : Room).slots) := by
  refine MetFree.of_bodySF (plainFor_of_name pn_3) hisR ?_
  intro p e s m args below meth c s₁ Bd hml0 hP hK
  obtain ⟨rfl, hZ, hh⟩ := hP
  skip
  skip
  skip
  skip
  skip
  skip
  have hx := Bd.exec
  have hby := Bd.bytes
  have hml : c.maxLocals = 2 := hml0
  have hown : s.vm.findClass "com/example/krel/krel/saturation/AtomSet" = some m.cls := findClass_of_methodNamed Bd.named
  have hnm := (name_of_methodNamed Bd.named Bd.method).1
  have X0 : Stand p l e ({ frames := 1, cells := 0, slots := 0, locals := 17 } : Room) s m #[(.ref a1), (.int p2)] below meth c s₁ [] 0 0 := Stand.of_body Bd
  have e0 : s₁.heap = h0 := by rw [← hh, Bd.state]; rfl
  have N0 := Fr.nil n0
  have pre0 : ∀ t, Steps p.tables e below (s₁.setTop (mkF m 0 #[.val (.ref a1), .val (.int p2)] [])) t → Steps p.tables e below (s₁.setTop (entryFrame m #[(.ref a1), (.int p2)] 2)) t := fun t k => castTop (ef_3 m a1 p2) k
  obtain ⟨T1, X1, e1, st1⟩ := getF X0 hx hZ hown (host := "") (Or.inl (hw _ (List.mem_of_getElem? (i := 11) rfl))) Via.refl e0 F_slots_a1 (g := (mkF m 1 #[.val (.ref a1), .val (.int p2)] [(.ref a1)])) rfl rfl (hb hby d3_1)
  obtain ⟨cq2, iq2, iq2'⟩ := E_a1.cell
  obtain ⟨_, _, ⟨T2, L2, k2, n2⟩, -, X2, ⟨Lc2, hQ2, l2, y2, z2⟩, st2⟩ := X1.privateBack hx (y := (⟨"com/example/krel/krel/saturation/AtomSet", "slotOf", "(I)I"⟩ : MethodName)) hown (mvT hZ (hw _ (List.mem_of_getElem? (i := 20) rfl))) (mvT hZ (hw _ (List.mem_of_getElem? (i := 21) rfl))) (own_selp (z := (⟨"com/example/krel/krel/saturation/AtomSet", "contains", "(I)Z"⟩ : MethodName)) (mvT hZ (hw _ (List.mem_of_getElem? (i := 18) rfl))) rfl (Cond.privateMethod_at (mvP hZ (hw _ (List.mem_of_getElem? (i := 22) rfl)) (args := #[]))) (mvT hZ (hw _ (List.mem_of_getElem? (i := 21) rfl))) (by decide)) (Cond.privateMethod_at (mvP hZ (hw _ (List.mem_of_getElem? (i := 22) rfl)) (args := #[]))) (mvT hZ (hw _ (List.mem_of_getElem? (i := 23) rfl))) (by decide) (backOf (W := 1) (rm4 l Z a0 hw [] a1 p2 c1 k_c1 L_c1 h0 n0 Z0 E_a1 F_slots_a1 V_c1 hl_c1 hz) hZ (hw _ (List.mem_of_getElem? (i := 23) rfl)) (hw _ (List.mem_of_getElem? (i := 3) rfl)) (by decide) (by decide)) (g := (mkF m 6 #[.val (.ref a1), .val (.int p2)] [(.int p2), (.ref a1), (.ref c1)])) rfl (by rw [hml]; rfl) (Steps.refl _) (a := a1) (by rw [e1]; exact iq2) iq2' (argsL := [(.int p2)]) (rest := [(.ref c1)]) (lenOf pd_3_2 rfl) rfl (by show 2 * 0 + _ ≤ _; exact Nat.le_of_eq rfl) (hb hby d3_6) (fun _ _ => ⟨rfl, e1, (by decide : 0 + 0 ≤ _), (by decide : 0 + 0 ≤ _)⟩)
  dsimp only [Pt.U, Pt.locs, Pt.cells, Pt.slots] at X2 l2 y2 z2 st2 hQ2
  subst l2 y2 z2
  obtain ⟨rfl, N2q, e2⟩ := hQ2
  have N2 := Fr.app N0 N2q
  obtain ⟨cl3, Ar3, aq3, S3, M3, H3, G3⟩ := id V_c1
  have hin3 : ¬ ((F4 p2 L_c1) < 0 ∨ cl3.slots.size ≤ ((F4 p2 L_c1)).toNatClampNeg) := inb_of S3 (side_3_9_3 p2 L_c1 hl_c1 hz)
  have hat3 : cl3.slots[((F4 p2 L_c1)).toNatClampNeg]? = some (.int (own_at L_c1 (F4 p2 L_c1))) := Has.at H3 hin3 (own_getD L_c1 ((F4 p2 L_c1)).toNatClampNeg)
  have pre4 : ∀ t, Steps p.tables e below (T2.setTop (mkF m 10 #[.val (.ref a1), .val (.int p2)] [(.int (own_at L_c1 (F4 p2 L_c1)))])) t → Steps p.tables e below (s₁.setTop (entryFrame m #[(.ref a1), (.int p2)] 2)) t := fun t kt => by
    refine pre0 t ?_
    show Steps p.tables e below (s₁.setTop (mkF m 0 #[.val (.ref a1), .val (.int p2)] [])) _
    refine XS.aloadN X0.here hx rfl (hb hby d3_0) rfl rfl ?_
    show Steps p.tables e below (s₁.setTop (mkF m 1 #[.val (.ref a1), .val (.int p2)] [(.ref a1)])) _
    refine st1 _ ?_
    show Steps p.tables e below (T1.setTop (mkF m 4 #[.val (.ref a1), .val (.int p2)] [(.ref c1)])) _
    refine XS.aloadN X1.here hx rfl (hb hby d3_4) rfl rfl ?_
    show Steps p.tables e below (T1.setTop (mkF m 5 #[.val (.ref a1), .val (.int p2)] [(.ref a1), (.ref c1)])) _
    refine XS.iloadN X1.here hx rfl (hb hby d3_5) rfl ?_
    show Steps p.tables e below (T1.setTop (mkF m 6 #[.val (.ref a1), .val (.int p2)] [(.int p2), (.ref a1), (.ref c1)])) _
    refine st2.trans ?_
    show Steps p.tables e below (T2.setTop (mkF m 9 #[.val (.ref a1), .val (.int p2)] [(.int (F4 p2 L_c1)), (.ref c1)])) _
    refine X2.iaload hx (j := (F4 p2 L_c1)) (v := (.int (own_at L_c1 (F4 p2 L_c1)))) (by rw [e2]; exact Ar3.1) (State.isArrayOf_alike hZ.alike Ar3.2.1) Ar3.2.2 hin3 hat3 (g := (mkF m 9 #[.val (.ref a1), .val (.int p2)] [(.int (F4 p2 L_c1)), (.ref c1)])) rfl rfl (hb hby d3_9) _ ?_
    exact kt
  by_cases hc5 : (own_at L_c1 (F4 p2 L_c1)) = (0 : Int32)
  · obtain ⟨fs, hr, hrun, hended, hW, hsame⟩ := X2.leave (v := some (.int (0 : Int32))) (fun h => by rw [Bd.returns] at h; cases h)
    refine ⟨_, _, pre4 _ ?_, hrun, hended, _, _, rfl, ?_, ⟨_, rfl⟩, hW, hsame.mono (by decide) (by decide)⟩
    · show Steps p.tables e below (T2.setTop (mkF m 10 #[.val (.ref a1), .val (.int p2)] [(.int (own_at L_c1 (F4 p2 L_c1)))])) _
      refine XS.ifYes X2.here hx rfl (pc0 := 10) (pc' := 17) rfl (hb hby d3_10) rfl ((if0 _ _).trans (teq hc5).1) (by decide) (by decide) ?_
      show Steps p.tables e below (T2.setTop (mkF m 17 #[.val (.ref a1), .val (.int p2)] [])) _
      refine XS.iconst X2.here hx rfl (hb hby d3_17) ?_
      show Steps p.tables e below (T2.setTop (mkF m 18 #[.val (.ref a1), .val (.int p2)] [(.int (0 : Int32))])) _
      exact retN X2 hx (t := .boolean) Bd.returns (by simp) (hb hby d3_18) hr
    · show Q3 Z a1 p2 c1 k_c1 L_c1 h0 n0 _ T2.heap _
      rw [e2]
      refine ⟨?_, N2, rfl⟩
      show (some (.int (0 : Int32)) : Option Value) = some (.int (F3 p2 L_c1))
      rw [F3, if_pos hc5]
  · obtain ⟨fs, hr, hrun, hended, hW, hsame⟩ := X2.leave (v := some (.int (1 : Int32))) (fun h => by rw [Bd.returns] at h; cases h)
    refine ⟨_, _, pre4 _ ?_, hrun, hended, _, _, rfl, ?_, ⟨_, rfl⟩, hW, hsame.mono (by decide) (by decide)⟩
    · show Steps p.tables e below (T2.setTop (mkF m 10 #[.val (.ref a1), .val (.int p2)] [(.int (own_at L_c1 (F4 p2 L_c1)))])) _
      refine XS.ifNo X2.here hx rfl (hb hby d3_10) rfl ((if0 _ _).trans (feq hc5).1) ?_
      show Steps p.tables e below (T2.setTop (mkF m 13 #[.val (.ref a1), .val (.int p2)] [])) _
      refine XS.iconst X2.here hx rfl (hb hby d3_13) ?_
      show Steps p.tables e below (T2.setTop (mkF m 14 #[.val (.ref a1), .val (.int p2)] [(.int (1 : Int32))])) _
      refine XS.goto X2.here hx rfl (pc0 := 14) (pc' := 18) rfl (hb hby d3_14) (by decide) (by decide) ?_
      show Steps p.tables e below (T2.setTop (mkF m 18 #[.val (.ref a1), .val (.int p2)] [(.int (1 : Int32))])) _
      exact retN X2 hx (t := .boolean) Bd.returns (by simp) (hb hby d3_18) hr
    · show Q3 Z a1 p2 c1 k_c1 L_c1 h0 n0 _ T2.heap _
      rw [e2]
      refine ⟨?_, N2, rfl⟩
      show (some (.int (1 : Int32)) : Option Value) = some (.int (F3 p2 L_c1))
      rw [F3, if_neg hc5]
theorem d1003_0 : decode prog_40_method_3_code 0 = .ok (.aload_n 0, 1) := by decide +kernel
theorem d1003_1 : decode prog_40_method_3_code 1 = .ok (.getfield 7, 3) := by decide +kernel
theorem d1003_4 : decode prog_40_method_3_code 4 = .ok (.aload_n 0, 1) := by decide +kernel
theorem d1003_5 : decode prog_40_method_3_code 5 = .ok (.iload_n 1, 1) := by decide +kernel
theorem d1003_6 : decode prog_40_method_3_code 6 = .ok (.invokevirtual 16, 3) := by decide +kernel
theorem d1003_9 : decode prog_40_method_3_code 9 = .ok (.iaload, 1) := by decide +kernel
theorem d1003_10 : decode prog_40_method_3_code 10 = .ok (.ifCond .eq 7, 3) := by decide +kernel
theorem d1003_13 : decode prog_40_method_3_code 13 = .ok (.iconst 1, 1) := by decide +kernel
theorem d1003_14 : decode prog_40_method_3_code 14 = .ok (.goto 4, 3) := by decide +kernel
theorem d1003_17 : decode prog_40_method_3_code 17 = .ok (.iconst 0, 1) := by decide +kernel
theorem d1003_18 : decode prog_40_method_3_code 18 = .ok (.ireturn, 1) := by decide +kernel
theorem pn_1003 : plainName "com/example/krel/krel/saturation/AtomSet" = true := by first | (simp [plainName, overriddenIn]; done) | decide +kernel
theorem pd_1003_2 : parseMethodDescriptor "(I)I" = some ⟨[.int], some .int⟩ := by decide +kernel
theorem ef_1003 (m : MethodId) (a1 : Addr) (p2 : Int32) : entryFrame m #[(.ref a1), (.int p2)] 2 = mkF m 0 #[.val (.ref a1), .val (.int p2)] [] := by first | (simp [entryFrame, mkF, argsToLocals, Value.category]; done) | rfl

def F1003 (p2 : Int32) (L_c1 : List Int32) : Int32 := (if (own_at L_c1 (F1004 p2 L_c1)) = (0 : Int32) then (0 : Int32) else (1 : Int32))
set_option maxRecDepth 65536 in
set_option maxHeartbeats 40000000 in
theorem side_1003_9_3 (p2 : Int32) (L_c1 : List Int32) (hl_c1 : L_c1.length = 16) (hz : own_Free 16 L_c1 p2) : ¬ ((F1004 p2 L_c1) < 0) ∧ (F1004 p2 L_c1) < (16 : Int32) := by
  exact own_bd_16 _ _ hl_c1
def Q1003 (Z : State) (a1 : Addr) (p2 : Int32) (c1 : Addr) (k_c1 : ClassId) (L_c1 : List Int32) (h0 : Heap) (n0 : Nat) (v : Option Value) (h : Heap) (L : List Loc) : Prop := v = some (.int (F1003 p2 L_c1)) ∧ Fr n0 L ∧ h = h0
set_option maxRecDepth 65536 in
set_option maxHeartbeats 40000000 in
theorem rm1003 (l : Launch) (Z : State) (a0 : Array Value) (hw : ∀ d ∈ tables_1, d.before a0 Z = true) (ws : List Jvm.Cond) (a1 : Addr) (p2 : Int32) (c1 : Addr) (k_c1 : ClassId) (L_c1 : List Int32) (h0 : Heap) (n0 : Nat) (Z0 : n0 ≤ h0.size) (E_a1 : Exa Z h0 a1 "com/example/krel/krel/saturation/AtomSet") (F_slots_a1 : Fld Z h0 a1 "com/example/krel/krel/saturation/AtomSet" "slots" "[I" (.ref c1)) (V_c1 : Arv Z h0 c1 k_c1 .int (16 : Int32) (L_c1.map Value.int) (.int (0 : Int32))) (hl_c1 : L_c1.length = 16) (hz : own_Free 16 L_c1 p2) :
    MetFree l (⟨"com/example/krel/krel/saturation/AtomSet", "contains", "(I)Z"⟩ : MethodName) (head1 (Jvm.Cond.code (⟨"com/example/krel/krel/saturation/AtomSet", "contains", "(I)Z"⟩ : MethodName) prog_40_method_3_code 2 (some .boolean) :: ws) ({ frames := 1, cells := 0, slots := 0, locals := 17 } : Room)) (fun a U => a = #[(.ref a1), (.int p2)] ∧ Z.Warmed39 U.vm ∧ U.heap = h0) (fun _ _ _ _ _ => True) (fun _ U o U' => ∃ v L, o = .returned v ∧ Q1003 Z a1 p2 c1 k_c1 L_c1 h0 n0 v U'.heap L ∧ FrameEnd U o U' L ({ frames := 1, cells := 0, slots := 0, locals := 17 } : Room).cells ({ frames := 1, cells := 0, slots := 0, locals := 17 } : Room).slots) := by
  refine MetFree.of_bodySF (plainFor_of_name pn_1003) hisR ?_
  intro p e s m args below meth c s₁ Bd hml0 hP hK
  obtain ⟨rfl, hZ, hh⟩ := hP
  skip
  skip
  skip
  skip
  skip
  skip
  have hx := Bd.exec
  have hby := Bd.bytes
  have hml : c.maxLocals = 2 := hml0
  have hown : s.vm.findClass "com/example/krel/krel/saturation/AtomSet" = some m.cls := findClass_of_methodNamed Bd.named
  have hnm := (name_of_methodNamed Bd.named Bd.method).1
  have X0 : Stand p l e ({ frames := 1, cells := 0, slots := 0, locals := 17 } : Room) s m #[(.ref a1), (.int p2)] below meth c s₁ [] 0 0 := Stand.of_body Bd
  have e0 : s₁.heap = h0 := by rw [← hh, Bd.state]; rfl
  have N0 := Fr.nil n0
  have pre0 : ∀ t, Steps p.tables e below (s₁.setTop (mkF m 0 #[.val (.ref a1), .val (.int p2)] [])) t → Steps p.tables e below (s₁.setTop (entryFrame m #[(.ref a1), (.int p2)] 2)) t := fun t k => castTop (ef_1003 m a1 p2) k
  obtain ⟨T1, X1, e1, st1⟩ := getF X0 hx hZ hown (host := "") (Or.inl (hw _ (List.mem_of_getElem? (i := 11) rfl))) Via.refl e0 F_slots_a1 (g := (mkF m 1 #[.val (.ref a1), .val (.int p2)] [(.ref a1)])) rfl rfl (hb hby d1003_1)
  obtain ⟨cq2, iq2, iq2'⟩ := E_a1.cell
  obtain ⟨_, _, ⟨T2, L2, k2, n2⟩, -, X2, ⟨Lc2, hQ2, l2, y2, z2⟩, st2⟩ := X1.privateBack hx (y := (⟨"com/example/krel/krel/saturation/AtomSet", "slotOf", "(I)I"⟩ : MethodName)) hown (mvT hZ (hw _ (List.mem_of_getElem? (i := 20) rfl))) (mvT hZ (hw _ (List.mem_of_getElem? (i := 21) rfl))) (own_selp (z := (⟨"com/example/krel/krel/saturation/AtomSet", "contains", "(I)Z"⟩ : MethodName)) (mvT hZ (hw _ (List.mem_of_getElem? (i := 18) rfl))) rfl (Cond.privateMethod_at (mvP hZ (hw _ (List.mem_of_getElem? (i := 22) rfl)) (args := #[]))) (mvT hZ (hw _ (List.mem_of_getElem? (i := 21) rfl))) (by decide)) (Cond.privateMethod_at (mvP hZ (hw _ (List.mem_of_getElem? (i := 22) rfl)) (args := #[]))) (mvT hZ (hw _ (List.mem_of_getElem? (i := 23) rfl))) (by decide) (backOf (W := 1) (rm1004 l Z a0 hw [] a1 p2 c1 k_c1 L_c1 h0 n0 Z0 E_a1 F_slots_a1 V_c1 hl_c1 hz) hZ (hw _ (List.mem_of_getElem? (i := 23) rfl)) (hw _ (List.mem_of_getElem? (i := 3) rfl)) (by decide) (by decide)) (g := (mkF m 6 #[.val (.ref a1), .val (.int p2)] [(.int p2), (.ref a1), (.ref c1)])) rfl (by rw [hml]; rfl) (Steps.refl _) (a := a1) (by rw [e1]; exact iq2) iq2' (argsL := [(.int p2)]) (rest := [(.ref c1)]) (lenOf pd_1003_2 rfl) rfl (by show 2 * 0 + _ ≤ _; exact Nat.le_of_eq rfl) (hb hby d1003_6) (fun _ _ => ⟨rfl, e1, (by decide : 0 + 0 ≤ _), (by decide : 0 + 0 ≤ _)⟩)
  dsimp only [Pt.U, Pt.locs, Pt.cells, Pt.slots] at X2 l2 y2 z2 st2 hQ2
  subst l2 y2 z2
  obtain ⟨rfl, N2q, e2⟩ := hQ2
  have N2 := Fr.app N0 N2q
  obtain ⟨cl3, Ar3, aq3, S3, M3, H3, G3⟩ := id V_c1
  have hin3 : ¬ ((F1004 p2 L_c1) < 0 ∨ cl3.slots.size ≤ ((F1004 p2 L_c1)).toNatClampNeg) := inb_of S3 (side_1003_9_3 p2 L_c1 hl_c1 hz)
  have hat3 : cl3.slots[((F1004 p2 L_c1)).toNatClampNeg]? = some (.int (own_at L_c1 (F1004 p2 L_c1))) := Has.at H3 hin3 (own_getD L_c1 ((F1004 p2 L_c1)).toNatClampNeg)
  have pre4 : ∀ t, Steps p.tables e below (T2.setTop (mkF m 10 #[.val (.ref a1), .val (.int p2)] [(.int (own_at L_c1 (F1004 p2 L_c1)))])) t → Steps p.tables e below (s₁.setTop (entryFrame m #[(.ref a1), (.int p2)] 2)) t := fun t kt => by
    refine pre0 t ?_
    show Steps p.tables e below (s₁.setTop (mkF m 0 #[.val (.ref a1), .val (.int p2)] [])) _
    refine XS.aloadN X0.here hx rfl (hb hby d1003_0) rfl rfl ?_
    show Steps p.tables e below (s₁.setTop (mkF m 1 #[.val (.ref a1), .val (.int p2)] [(.ref a1)])) _
    refine st1 _ ?_
    show Steps p.tables e below (T1.setTop (mkF m 4 #[.val (.ref a1), .val (.int p2)] [(.ref c1)])) _
    refine XS.aloadN X1.here hx rfl (hb hby d1003_4) rfl rfl ?_
    show Steps p.tables e below (T1.setTop (mkF m 5 #[.val (.ref a1), .val (.int p2)] [(.ref a1), (.ref c1)])) _
    refine XS.iloadN X1.here hx rfl (hb hby d1003_5) rfl ?_
    show Steps p.tables e below (T1.setTop (mkF m 6 #[.val (.ref a1), .val (.int p2)] [(.int p2), (.ref a1), (.ref c1)])) _
    refine st2.trans ?_
    show Steps p.tables e below (T2.setTop (mkF m 9 #[.val (.ref a1), .val (.int p2)] [(.int (F1004 p2 L_c1)), (.ref c1)])) _
    refine X2.iaload hx (j := (F1004 p2 L_c1)) (v := (.int (own_at L_c1 (F1004 p2 L_c1)))) (by rw [e2]; exact Ar3.1) (State.isArrayOf_alike hZ.alike Ar3.2.1) Ar3.2.2 hin3 hat3 (g := (mkF m 9 #[.val (.ref a1), .val (.int p2)] [(.int (F1004 p2 L_c1)), (.ref c1)])) rfl rfl (hb hby d1003_9) _ ?_
    exact kt
  by_cases hc5 : (own_at L_c1 (F1004 p2 L_c1)) = (0 : Int32)
  · obtain ⟨fs, hr, hrun, hended, hW, hsame⟩ := X2.leave (v := some (.int (0 : Int32))) (fun h => by rw [Bd.returns] at h; cases h)
    refine ⟨_, _, pre4 _ ?_, hrun, hended, _, _, rfl, ?_, ⟨_, rfl⟩, hW, hsame.mono (by decide) (by decide)⟩
    · show Steps p.tables e below (T2.setTop (mkF m 10 #[.val (.ref a1), .val (.int p2)] [(.int (own_at L_c1 (F1004 p2 L_c1)))])) _
      refine XS.ifYes X2.here hx rfl (pc0 := 10) (pc' := 17) rfl (hb hby d1003_10) rfl ((if0 _ _).trans (teq hc5).1) (by decide) (by decide) ?_
      show Steps p.tables e below (T2.setTop (mkF m 17 #[.val (.ref a1), .val (.int p2)] [])) _
      refine XS.iconst X2.here hx rfl (hb hby d1003_17) ?_
      show Steps p.tables e below (T2.setTop (mkF m 18 #[.val (.ref a1), .val (.int p2)] [(.int (0 : Int32))])) _
      exact retN X2 hx (t := .boolean) Bd.returns (by simp) (hb hby d1003_18) hr
    · show Q1003 Z a1 p2 c1 k_c1 L_c1 h0 n0 _ T2.heap _
      rw [e2]
      refine ⟨?_, N2, rfl⟩
      show (some (.int (0 : Int32)) : Option Value) = some (.int (F1003 p2 L_c1))
      rw [F1003, if_pos hc5]
  · obtain ⟨fs, hr, hrun, hended, hW, hsame⟩ := X2.leave (v := some (.int (1 : Int32))) (fun h => by rw [Bd.returns] at h; cases h)
    refine ⟨_, _, pre4 _ ?_, hrun, hended, _, _, rfl, ?_, ⟨_, rfl⟩, hW, hsame.mono (by decide) (by decide)⟩
    · show Steps p.tables e below (T2.setTop (mkF m 10 #[.val (.ref a1), .val (.int p2)] [(.int (own_at L_c1 (F1004 p2 L_c1)))])) _
      refine XS.ifNo X2.here hx rfl (hb hby d1003_10) rfl ((if0 _ _).trans (feq hc5).1) ?_
      show Steps p.tables e below (T2.setTop (mkF m 13 #[.val (.ref a1), .val (.int p2)] [])) _
      refine XS.iconst X2.here hx rfl (hb hby d1003_13) ?_
      show Steps p.tables e below (T2.setTop (mkF m 14 #[.val (.ref a1), .val (.int p2)] [(.int (1 : Int32))])) _
      refine XS.goto X2.here hx rfl (pc0 := 14) (pc' := 18) rfl (hb hby d1003_14) (by decide) (by decide) ?_
      show Steps p.tables e below (T2.setTop (mkF m 18 #[.val (.ref a1), .val (.int p2)] [(.int (1 : Int32))])) _
      exact retN X2 hx (t := .boolean) Bd.returns (by simp) (hb hby d1003_18) hr
    · show Q1003 Z a1 p2 c1 k_c1 L_c1 h0 n0 _ T2.heap _
      rw [e2]
      refine ⟨?_, N2, rfl⟩
      show (some (.int (1 : Int32)) : Option Value) = some (.int (F1003 p2 L_c1))
      rw [F1003, if_neg hc5]
def Q90003 (Z : State) (a1 : Addr) (p2 : Int32) (xs : List Int32) (h0 : Heap) (n0 : Nat) (v : Option Value) (h : Heap) (L : List Loc) : Prop := v = some (.int (if p2 ∈ xs then (1 : Int32) else (0 : Int32))) ∧ Fr n0 L ∧ h = h0
set_option maxRecDepth 65536 in
set_option maxHeartbeats 40000000 in
theorem rm90003 (l : Launch) (Z : State) (a0 : Array Value) (hw : ∀ d ∈ tables_1, d.before a0 Z = true) (ws : List Jvm.Cond) (a1 : Addr) (p2 : Int32) (xs : List Int32) (h0 : Heap) (n0 : Nat) (Z0 : n0 ≤ h0.size) (A : own_AS Z h0 n0 a1 xs) (hpos : ¬ p2 + 1 = 0) :
    MetFree l (⟨"com/example/krel/krel/saturation/AtomSet", "contains", "(I)Z"⟩ : MethodName) (head1 (Jvm.Cond.code (⟨"com/example/krel/krel/saturation/AtomSet", "contains", "(I)Z"⟩ : MethodName) prog_40_method_3_code 2 (some .boolean) :: ws) ({ frames := 1, cells := 0, slots := 0, locals := 17 } : Room)) (fun a U => a = #[(.ref a1), (.int p2)] ∧ Z.Warmed39 U.vm ∧ U.heap = h0) (fun _ _ _ _ _ => True) (fun _ U o U' => ∃ v L, o = .returned v ∧ Q90003 Z a1 p2 xs h0 n0 v U'.heap L ∧ FrameEnd U o U' L ({ frames := 1, cells := 0, slots := 0, locals := 17 } : Room).cells ({ frames := 1, cells := 0, slots := 0, locals := 17 } : Room).slots) := by
  obtain ⟨c1, c2, k_c1, k_c2, L_c1, E, E_a1, F_slots_a1, F_atoms_a1, F_size_a1, g_a1, g_c1, g_c2, ne_a1_c1, ne_a1_c2, ne_c1_c2, hnn, hnd, hR⟩ := A
  have ne_c2_c1 := ne_c1_c2.symm
  have ne_c2_a1 := ne_a1_c2.symm
  have ne_c1_a1 := ne_a1_c1.symm
  rcases hR with ⟨h4, hl_c1, V_c1, hI, hE, V_c2, ht⟩ | ⟨h5, hl_c1, V_c1, hI⟩
  · have hz : own_Free 8 L_c1 p2 := own_free_8 hl_c1 hI (by omega) p2
    have hfd := own_found_8 hl_c1 hI hnn (by omega) p2 hpos
    have hF : F3 p2 L_c1 = if p2 ∈ xs then (1 : Int32) else (0 : Int32) := by
      by_cases q : own_at L_c1 (F4 p2 L_c1) = 0
      · rw [F3, if_pos q, if_neg (hfd.1 q)]
      · rw [F3, if_neg q, if_pos (hfd.2 q)]
    have R := rm3 l Z a0 hw ws a1 p2 c1 k_c1 L_c1 h0 n0 Z0 E_a1 F_slots_a1 V_c1 hl_c1 hz
    simp only [Q3, hF] at R
    exact R
  · have hz : own_Free 16 L_c1 p2 := own_free_16 hl_c1 hI (by omega) p2
    have hfd := own_found_16 hl_c1 hI hnn (by omega) p2 hpos
    have hF : F1003 p2 L_c1 = if p2 ∈ xs then (1 : Int32) else (0 : Int32) := by
      by_cases q : own_at L_c1 (F1004 p2 L_c1) = 0
      · rw [F1003, if_pos q, if_neg (hfd.1 q)]
      · rw [F1003, if_neg q, if_pos (hfd.2 q)]
    have R := rm1003 l Z a0 hw ws a1 p2 c1 k_c1 L_c1 h0 n0 Z0 E_a1 F_slots_a1 V_c1 hl_c1 hz
    simp only [Q1003, hF] at R
    exact R

theorem d1_0 : decode prog_40_method_1_code 0 = .ok (.aload_n 0, 1) := by decide +kernel
theorem d1_1 : decode prog_40_method_1_code 1 = .ok (.invokespecial 1, 3) := by decide +kernel
theorem d1_4 : decode prog_40_method_1_code 4 = .ok (.aload_n 0, 1) := by decide +kernel
theorem d1_5 : decode prog_40_method_1_code 5 = .ok (.bipush 8, 2) := by decide +kernel
theorem d1_7 : decode prog_40_method_1_code 7 = .ok (.newarray .int, 2) := by decide +kernel
theorem d1_9 : decode prog_40_method_1_code 9 = .ok (.putfield 7, 3) := by decide +kernel
theorem d1_12 : decode prog_40_method_1_code 12 = .ok (.aload_n 0, 1) := by decide +kernel
theorem d1_13 : decode prog_40_method_1_code 13 = .ok (.iconst 4, 1) := by decide +kernel
theorem d1_14 : decode prog_40_method_1_code 14 = .ok (.newarray .int, 2) := by decide +kernel
theorem d1_16 : decode prog_40_method_1_code 16 = .ok (.putfield 13, 3) := by decide +kernel
theorem d1_19 : decode prog_40_method_1_code 19 = .ok (.return_, 1) := by decide +kernel
theorem pn_1 : plainName "com/example/krel/krel/saturation/AtomSet" = true := by first | (simp [plainName, overriddenIn]; done) | decide +kernel
theorem ef_1 (m : MethodId) (a1 : Addr) : entryFrame m #[(.ref a1)] 1 = mkF m 0 #[.val (.ref a1)] [] := by first | (simp [entryFrame, mkF, argsToLocals, Value.category]; done) | rfl

def Q1 (Z : State) (a1 : Addr) (u_size_a1 : Value) (u_slots_a1 : Value) (u_atoms_a1 : Value) (h0 : Heap) (n0 : Nat) (v : Option Value) (h : Heap) (L : List Loc) : Prop := ∃ (rb0 : Addr) (rb1 : Addr) (kb0 : ClassId) (kb1 : ClassId) , v = none ∧ Fr n0 L ∧ n0 ≤ rb0 ∧ n0 ≤ rb1 ∧ h0.size ≤ rb0 ∧ h0.size ≤ rb1 ∧ rb0 ≠ rb1 ∧ Keep h0 h [a1] ∧ Exa Z h a1 "com/example/krel/krel/saturation/AtomSet" ∧ Fld Z h a1 "com/example/krel/krel/saturation/AtomSet" "atoms" "[I" (.ref rb1) ∧ Fld Z h a1 "com/example/krel/krel/saturation/AtomSet" "size" "I" u_size_a1 ∧ Fld Z h a1 "com/example/krel/krel/saturation/AtomSet" "slots" "[I" (.ref rb0) ∧ Arv Z h rb0 kb0 .int (8 : Int32) [(.int (0 : Int32)), (.int (0 : Int32)), (.int (0 : Int32)), (.int (0 : Int32)), (.int (0 : Int32)), (.int (0 : Int32)), (.int (0 : Int32)), (.int (0 : Int32))] (.int (0 : Int32)) ∧ Arv Z h rb1 kb1 .int (4 : Int32) [(.int (0 : Int32)), (.int (0 : Int32)), (.int (0 : Int32)), (.int (0 : Int32))] (.int (0 : Int32))
set_option maxRecDepth 65536 in
set_option maxHeartbeats 40000000 in
theorem rm1 (l : Launch) (Z : State) (a0 : Array Value) (hw : ∀ d ∈ tables_1, d.before a0 Z = true) (ws : List Jvm.Cond) (a1 : Addr) (u_size_a1 : Value) (u_slots_a1 : Value) (u_atoms_a1 : Value) (h0 : Heap) (n0 : Nat) (Z0 : n0 ≤ h0.size) (E_a1 : Exa Z h0 a1 "com/example/krel/krel/saturation/AtomSet") (F_size_a1 : Fld Z h0 a1 "com/example/krel/krel/saturation/AtomSet" "size" "I" u_size_a1) (F_slots_a1 : Fld Z h0 a1 "com/example/krel/krel/saturation/AtomSet" "slots" "[I" u_slots_a1) (g_a1 : n0 ≤ a1) (F_atoms_a1 : Fld Z h0 a1 "com/example/krel/krel/saturation/AtomSet" "atoms" "[I" u_atoms_a1) :
    MetFree l (⟨"com/example/krel/krel/saturation/AtomSet", "<init>", "()V"⟩ : MethodName) (head1 (Jvm.Cond.code (⟨"com/example/krel/krel/saturation/AtomSet", "<init>", "()V"⟩ : MethodName) prog_40_method_1_code 1 none :: ws) ({ frames := 1, cells := 2, slots := 12, locals := 12 } : Room)) (fun a U => a = #[(.ref a1)] ∧ Z.Warmed39 U.vm ∧ U.heap = h0) (fun _ _ _ _ _ => True) (fun _ U o U' => ∃ v L, o = .returned v ∧ Q1 Z a1 u_size_a1 u_slots_a1 u_atoms_a1 h0 n0 v U'.heap L ∧ FrameEnd U o U' L ({ frames := 1, cells := 2, slots := 12, locals := 12 } : Room).cells ({ frames := 1, cells := 2, slots := 12, locals := 12 } : Room).slots) := by
  refine MetFree.of_bodySF (plainFor_of_name pn_1) hisR ?_
  intro p e s m args below meth c s₁ Bd hml0 hP hK
  obtain ⟨rfl, hZ, hh⟩ := hP
  skip
  skip
  skip
  skip
  skip
  skip
  have hx := Bd.exec
  have hby := Bd.bytes
  have hml : c.maxLocals = 1 := hml0
  have hown : s.vm.findClass "com/example/krel/krel/saturation/AtomSet" = some m.cls := findClass_of_methodNamed Bd.named
  have hnm := (name_of_methodNamed Bd.named Bd.method).1
  have X0 : Stand p l e ({ frames := 1, cells := 2, slots := 12, locals := 12 } : Room) s m #[(.ref a1)] below meth c s₁ [] 0 0 := Stand.of_body Bd
  have e0 : s₁.heap = h0 := by rw [← hh, Bd.state]; rfl
  have N0 := Fr.nil n0
  have pre0 : ∀ t, Steps p.tables e below (s₁.setTop (mkF m 0 #[.val (.ref a1)] [])) t → Steps p.tables e below (s₁.setTop (entryFrame m #[(.ref a1)] 1)) t := fun t k => castTop (ef_1 m a1) k
  obtain ⟨T1, X1, e1, st1⟩ := initO X0 hx hZ hown (hw _ (List.mem_of_getElem? (i := 7) rfl)) (hw _ (List.mem_of_getElem? (i := 8) rfl)) (hw _ (List.mem_of_getElem? (i := 9) rfl)) e0 (g := (mkF m 1 #[.val (.ref a1)] [(.ref a1)])) rfl (by rw [hml]; rfl) rfl (hb hby d1_1) (by decide) (W := 0) (by show 2 * 0 + _ ≤ _; exact Nat.le_of_eq rfl) (by decide)
  obtain ⟨b2, g2⟩ : ∃ z, z = h0.size := ⟨_, rfl⟩
  obtain ⟨T2, h2, k2, X2, e2, E2, A2, st2⟩ := newP X1 hx hZ (hw _ (List.mem_of_getElem? (i := 10) rfl)) e1 (g := (mkF m 7 #[.val (.ref a1)] [(.int (8 : Int32)), (.ref a1)])) rfl (hb hby d1_7) rfl (by decide) (cap := 8) (by decide) (by decide) (by decide) (by decide)
  rw [← g2] at A2 st2
  have g_b2 : n0 ≤ b2 := Nat.le_trans Z0 (Nat.le_of_eq g2.symm)
  have sz_b2 : h0.size ≤ b2 := Nat.le_trans (Keep.refl h0 ([] : List Addr)).1 (Nat.le_of_eq g2.symm)
  have ne_a1_b2 : a1 ≠ b2 := Nat.ne_of_lt (Nat.lt_of_lt_of_le E_a1.lt (Nat.le_of_eq g2.symm))
  have V2 : Arv Z h2 b2 k2 .int (8 : Int32) [(.int (0 : Int32)), (.int (0 : Int32)), (.int (0 : Int32)), (.int (0 : Int32)), (.int (0 : Int32)), (.int (0 : Int32)), (.int (0 : Int32)), (.int (0 : Int32))] (.int (0 : Int32)) := (Arv.new A2 (by decide)).pad (pad_rep [] (.int (0 : Int32)) 8)
  have fq3 := (Exa.ext E2 E_a1)
  have fq4 := (Fld.ext E2 F_slots_a1)
  obtain ⟨T5, h5, X5, e5, W5, st5⟩ := putF X2 hx hZ hown (host := "") (Or.inl (hw _ (List.mem_of_getElem? (i := 11) rfl))) Via.refl e2 fq4 fq3 (Or.inl (hw _ (List.mem_of_getElem? (i := 12) rfl))) (hw _ (List.mem_of_getElem? (i := 2) rfl)) (ty := (.array .int)) (by decide) rfl rfl (g := (mkF m 9 #[.val (.ref a1)] [(.ref b2), (.ref a1)])) rfl rfl (hb hby d1_9)
  have Fw5 := Fld.same W5 fq4
  have N5 := Fr.snoc X5 N0 g_a1
  have fq7 := (Exa.wr W5 fq3)
  have fq8 := (V2.other W5 (Ne.symm ne_a1_b2))
  have z9 : n0 ≤ h5.size := (Nat.le_trans (Nat.le_trans Z0 E2.1) (Keep.of_wr W5).1)
  have k10 : Keep h0 h5 [a1] := (((Keep.refl h0 [a1]).ext E2).wr W5 (Or.inl (by simp)))
  obtain ⟨b6, g6⟩ : ∃ z, z = h5.size := ⟨_, rfl⟩
  obtain ⟨T6, h6, k6, X6, e6, E6, A6, st6⟩ := newP X5 hx hZ (hw _ (List.mem_of_getElem? (i := 10) rfl)) e5 (g := (mkF m 14 #[.val (.ref a1)] [(.int (4 : Int32)), (.ref a1)])) rfl (hb hby d1_14) rfl (by decide) (cap := 4) (by decide) (by decide) (by decide) (by decide)
  rw [← g6] at A6 st6
  have g_b6 : n0 ≤ b6 := Nat.le_trans z9 (Nat.le_of_eq g6.symm)
  have sz_b6 : h0.size ≤ b6 := Nat.le_trans k10.1 (Nat.le_of_eq g6.symm)
  have ne_a1_b6 : a1 ≠ b6 := Nat.ne_of_lt (Nat.lt_of_lt_of_le fq7.lt (Nat.le_of_eq g6.symm))
  have ne_b2_b6 : b2 ≠ b6 := Nat.ne_of_lt (Nat.lt_of_lt_of_le fq8.lt (Nat.le_of_eq g6.symm))
  have V6 : Arv Z h6 b6 k6 .int (4 : Int32) [(.int (0 : Int32)), (.int (0 : Int32)), (.int (0 : Int32)), (.int (0 : Int32))] (.int (0 : Int32)) := (Arv.new A6 (by decide)).pad (pad_rep [] (.int (0 : Int32)) 4)
  have fq11 := (Exa.ext E6 fq7)
  have fq12 := (Fld.ext E6 (Fld.other W5 (Fld.ext E2 F_atoms_a1) (Or.inr (slot_ne (Or.inl (hw _ (List.mem_of_getElem? (i := 14) rfl))) (Or.inl (hw _ (List.mem_of_getElem? (i := 12) rfl))) (by decide) (t := (.array .int)) (t' := (.array .int)) (by decide) (by decide)))))
  obtain ⟨T13, h13, X13, e13, W13, st13⟩ := putF X6 hx hZ hown (host := "") (Or.inl (hw _ (List.mem_of_getElem? (i := 13) rfl))) Via.refl e6 fq12 fq11 (Or.inl (hw _ (List.mem_of_getElem? (i := 14) rfl))) (hw _ (List.mem_of_getElem? (i := 2) rfl)) (ty := (.array .int)) (by decide) rfl rfl (g := (mkF m 16 #[.val (.ref a1)] [(.ref b6), (.ref a1)])) rfl rfl (hb hby d1_16)
  have Fw13 := Fld.same W13 fq12
  have N13 := Fr.snoc X13 N5 g_a1
  have k14 : Keep h0 h13 [a1] := ((k10.ext E6).wr W13 (Or.inl (by simp)))
  have fq15 := (Exa.wr W13 fq11)
  have fq16 := (Fld.other W13 (Fld.ext E6 (Fld.other W5 (Fld.ext E2 F_size_a1) (Or.inr (slot_ne (Or.inl (hw _ (List.mem_of_getElem? (i := 31) rfl))) (Or.inl (hw _ (List.mem_of_getElem? (i := 12) rfl))) (by decide) (t := .int) (t' := (.array .int)) (by decide) (by decide))))) (Or.inr (slot_ne (Or.inl (hw _ (List.mem_of_getElem? (i := 31) rfl))) (Or.inl (hw _ (List.mem_of_getElem? (i := 14) rfl))) (by decide) (t := .int) (t' := (.array .int)) (by decide) (by decide))))
  have fq17 := (Fld.other W13 (Fld.ext E6 Fw5) (Or.inr (slot_ne (Or.inl (hw _ (List.mem_of_getElem? (i := 12) rfl))) (Or.inl (hw _ (List.mem_of_getElem? (i := 14) rfl))) (by decide) (t := (.array .int)) (t' := (.array .int)) (by decide) (by decide))))
  have fq18 := ((fq8.ext E6).other W13 (Ne.symm ne_a1_b2))
  have fq19 := (V6.other W13 (Ne.symm ne_a1_b6))
  obtain ⟨fs, hr, hrun, hended, hW, hsame⟩ := X13.leave (v := none) (fun _ => rfl)
  refine ⟨_, _, pre0 _ ?_, hrun, hended, _, _, rfl, ?_, ⟨_, rfl⟩, hW, hsame.mono (by decide) (by decide)⟩
  · show Steps p.tables e below (s₁.setTop (mkF m 0 #[.val (.ref a1)] [])) _
    refine XS.aloadN X0.here hx rfl (hb hby d1_0) rfl rfl ?_
    show Steps p.tables e below (s₁.setTop (mkF m 1 #[.val (.ref a1)] [(.ref a1)])) _
    refine st1 _ ?_
    show Steps p.tables e below (T1.setTop (mkF m 4 #[.val (.ref a1)] [])) _
    refine XS.aloadN X1.here hx rfl (hb hby d1_4) rfl rfl ?_
    show Steps p.tables e below (T1.setTop (mkF m 5 #[.val (.ref a1)] [(.ref a1)])) _
    refine XS.bipush X1.here hx rfl (hb hby d1_5) ?_
    show Steps p.tables e below (T1.setTop (mkF m 7 #[.val (.ref a1)] [(.int (8 : Int32)), (.ref a1)])) _
    refine st2 _ ?_
    show Steps p.tables e below (T2.setTop (mkF m 9 #[.val (.ref a1)] [(.ref b2), (.ref a1)])) _
    refine st5 _ ?_
    show Steps p.tables e below (T5.setTop (mkF m 12 #[.val (.ref a1)] [])) _
    refine XS.aloadN X5.here hx rfl (hb hby d1_12) rfl rfl ?_
    show Steps p.tables e below (T5.setTop (mkF m 13 #[.val (.ref a1)] [(.ref a1)])) _
    refine XS.iconst X5.here hx rfl (hb hby d1_13) ?_
    show Steps p.tables e below (T5.setTop (mkF m 14 #[.val (.ref a1)] [(.int (4 : Int32)), (.ref a1)])) _
    refine st6 _ ?_
    show Steps p.tables e below (T6.setTop (mkF m 16 #[.val (.ref a1)] [(.ref b6), (.ref a1)])) _
    refine st13 _ ?_
    show Steps p.tables e below (T13.setTop (mkF m 19 #[.val (.ref a1)] [])) _
    exact X13.returnOut hx Bd.returns (hb hby d1_19) hr
  · show Q1 Z a1 u_size_a1 u_slots_a1 u_atoms_a1 h0 n0 _ T13.heap _
    rw [e13]
    exact ⟨b2, b6, k2, k6, rfl, N13, g_b2, g_b6, sz_b2, sz_b6, ne_b2_b6, k14, fq15, Fw13, fq16, fq17, fq18, fq19⟩
theorem pn_0 : plainName "com/example/krel/krel/saturation/AtomSetContainsPinLaw" = true := by first | (simp [plainName, overriddenIn]; done) | decide +kernel
theorem pd_0_0 : parseMethodDescriptor "()V" = some ⟨[], none⟩ := by decide +kernel
theorem pd_0_1 : parseMethodDescriptor "(I)Z" = some ⟨[.int], some .boolean⟩ := by decide +kernel
theorem ef_0 (m : MethodId) (p1 : Int32) (p2 : Int32) (p3 : Int32) (p4 : Int32) (p5 : Int32) (q6 : Int64) : entryFrame m #[(.int p1), (.int p2), (.int p3), (.int p4), (.int p5), (.long q6)] maxLocals = mkF m 0 #[.val (.int p1), .val (.int p2), .val (.int p3), .val (.int p4), .val (.int p5), .val (.long q6), .second, .unset, .unset, .unset, .unset, .unset, .unset, .unset, .unset, .unset, .unset] [] := by first | (simp [entryFrame, mkF, argsToLocals, Value.category, maxLocals]; done) | rfl

set_option maxRecDepth 65536 in
set_option maxHeartbeats 40000000 in
theorem case_0_125 (p1 : Int32) (p2 : Int32) (p3 : Int32) (p4 : Int32) (p5 : Int32) (q6 : Int64) (x7 : Int32) (hx7 : x7 = (p1 &&& (2147483647 : Int32))) (x8 : Int32) (hx8 : x8 = (p2 &&& (2147483647 : Int32))) (x9 : Int32) (hx9 : x9 = (p3 &&& (2147483647 : Int32))) (x10 : Int32) (hx10 : x10 = (p4 &&& (2147483647 : Int32))) (x11 : Int32) (hx11 : x11 = (p5 &&& (2147483647 : Int32))) (x12 : Int32) (hx12 : x12 = (((((q6.toUInt64 >>> ((32 : Int32) &&& 0x3f).toInt64.toUInt64).toInt64).toInt32) &&& (7 : Int32)) % (6 : Int32))) (x13 : Int32) (hx13 : x13 = ((((q6.toUInt64 >>> ((35 : Int32) &&& 0x3f).toInt64.toUInt64).toInt64).toInt32) &&& (7 : Int32))) (x14 : Int32) (hx14 : x14 = ((q6.toInt32) &&& (2147483647 : Int32))) (v13 : Int32) (hv13 : v13 = (if x13 = (0 : Int32) then x7 else (if x13 = (1 : Int32) then x8 else (if x13 = (2 : Int32) then x9 else (if x13 = (3 : Int32) then x10 else (if x13 = (4 : Int32) then x11 else x14)))))) : x12 = (0 : Int32) ∨ x12 = (1 : Int32) ∨ x12 = (2 : Int32) ∨ x12 = (3 : Int32) ∨ x12 = (4 : Int32) ∨ x12 = (5 : Int32) := by
  have m := Jvm.Kit.i32_mask (((q6.toUInt64 >>> ((32 : Int32) &&& 0x3f).toInt64.toUInt64).toInt64).toInt32) 7 (k := 3) (by decide) (by decide)
  have d := (own_dm ((((q6.toUInt64 >>> ((32 : Int32) &&& 0x3f).toInt64.toUInt64).toInt64).toInt32) &&& 7) 6 (by decide)).1 (by omega)
  rw [hx12]
  generalize (((q6.toUInt64 >>> ((32 : Int32) &&& 0x3f).toInt64.toUInt64).toInt64).toInt32) &&& 7 = z at *
  simp only [own_eqI, Int32.reduceToInt] at d ⊢
  omega
set_option maxRecDepth 65536 in
set_option maxHeartbeats 40000000 in
theorem side_0_pos278 (p1 : Int32) (p2 : Int32) (p3 : Int32) (p4 : Int32) (p5 : Int32) (q6 : Int64) (x7 : Int32) (hx7 : x7 = (p1 &&& (2147483647 : Int32))) (x8 : Int32) (hx8 : x8 = (p2 &&& (2147483647 : Int32))) (x9 : Int32) (hx9 : x9 = (p3 &&& (2147483647 : Int32))) (x10 : Int32) (hx10 : x10 = (p4 &&& (2147483647 : Int32))) (x11 : Int32) (hx11 : x11 = (p5 &&& (2147483647 : Int32))) (x12 : Int32) (hx12 : x12 = (((((q6.toUInt64 >>> ((32 : Int32) &&& 0x3f).toInt64.toUInt64).toInt64).toInt32) &&& (7 : Int32)) % (6 : Int32))) (x13 : Int32) (hx13 : x13 = ((((q6.toUInt64 >>> ((35 : Int32) &&& 0x3f).toInt64.toUInt64).toInt64).toInt32) &&& (7 : Int32))) (x14 : Int32) (hx14 : x14 = ((q6.toInt32) &&& (2147483647 : Int32))) (v13 : Int32) (hv13 : v13 = (if x13 = (0 : Int32) then x7 else (if x13 = (1 : Int32) then x8 else (if x13 = (2 : Int32) then x9 else (if x13 = (3 : Int32) then x10 else (if x13 = (4 : Int32) then x11 else x14)))))) (hk14 : x12 = (0 : Int32)) : ¬ v13 + 1 = 0 := by
  rw [hv13]
  repeat' split
  all_goals first | (rw [hx7]; exact own_pos _) | (rw [hx8]; exact own_pos _) | (rw [hx9]; exact own_pos _) | (rw [hx10]; exact own_pos _) | (rw [hx11]; exact own_pos _) | (rw [hx14]; exact own_pos _)
set_option maxRecDepth 65536 in
set_option maxHeartbeats 40000000 in
theorem leaf_0_2 (p1 : Int32) (p2 : Int32) (p3 : Int32) (p4 : Int32) (p5 : Int32) (q6 : Int64) (x7 : Int32) (hx7 : x7 = (p1 &&& (2147483647 : Int32))) (x8 : Int32) (hx8 : x8 = (p2 &&& (2147483647 : Int32))) (x9 : Int32) (hx9 : x9 = (p3 &&& (2147483647 : Int32))) (x10 : Int32) (hx10 : x10 = (p4 &&& (2147483647 : Int32))) (x11 : Int32) (hx11 : x11 = (p5 &&& (2147483647 : Int32))) (x12 : Int32) (hx12 : x12 = (((((q6.toUInt64 >>> ((32 : Int32) &&& 0x3f).toInt64.toUInt64).toInt64).toInt32) &&& (7 : Int32)) % (6 : Int32))) (x13 : Int32) (hx13 : x13 = ((((q6.toUInt64 >>> ((35 : Int32) &&& 0x3f).toInt64.toUInt64).toInt64).toInt32) &&& (7 : Int32))) (x14 : Int32) (hx14 : x14 = ((q6.toInt32) &&& (2147483647 : Int32))) (v13 : Int32) (hv13 : v13 = (if x13 = (0 : Int32) then x7 else (if x13 = (1 : Int32) then x8 else (if x13 = (2 : Int32) then x9 else (if x13 = (3 : Int32) then x10 else (if x13 = (4 : Int32) then x11 else x14)))))) (hk14 : x12 = (0 : Int32)) (hc22 : ¬ ((if v13 ∈ [] then (1 : Int32) else (0 : Int32)) = (0 : Int32))) : False := by
  refine hc22 ?_
  try rw [hk14]
  clear hx7 hx8 hx9 hx10 hx11 hx12 hx13 hx14 hv13 hc22
  simp only [own_insmem, List.not_mem_nil, false_or]
  repeat' split
  all_goals first | rfl | simp_all
set_option maxRecDepth 65536 in
set_option maxHeartbeats 40000000 in
theorem side_0_pos143 (p1 : Int32) (p2 : Int32) (p3 : Int32) (p4 : Int32) (p5 : Int32) (q6 : Int64) (x7 : Int32) (hx7 : x7 = (p1 &&& (2147483647 : Int32))) (x8 : Int32) (hx8 : x8 = (p2 &&& (2147483647 : Int32))) (x9 : Int32) (hx9 : x9 = (p3 &&& (2147483647 : Int32))) (x10 : Int32) (hx10 : x10 = (p4 &&& (2147483647 : Int32))) (x11 : Int32) (hx11 : x11 = (p5 &&& (2147483647 : Int32))) (x12 : Int32) (hx12 : x12 = (((((q6.toUInt64 >>> ((32 : Int32) &&& 0x3f).toInt64.toUInt64).toInt64).toInt32) &&& (7 : Int32)) % (6 : Int32))) (x13 : Int32) (hx13 : x13 = ((((q6.toUInt64 >>> ((35 : Int32) &&& 0x3f).toInt64.toUInt64).toInt64).toInt32) &&& (7 : Int32))) (x14 : Int32) (hx14 : x14 = ((q6.toInt32) &&& (2147483647 : Int32))) (v13 : Int32) (hv13 : v13 = (if x13 = (0 : Int32) then x7 else (if x13 = (1 : Int32) then x8 else (if x13 = (2 : Int32) then x9 else (if x13 = (3 : Int32) then x10 else (if x13 = (4 : Int32) then x11 else x14)))))) (hk14 : x12 = (1 : Int32)) : ¬ x7 + 1 = 0 := by
  rw [hx7]; exact own_pos _
set_option maxRecDepth 65536 in
set_option maxHeartbeats 40000000 in
theorem side_0_pos278_2 (p1 : Int32) (p2 : Int32) (p3 : Int32) (p4 : Int32) (p5 : Int32) (q6 : Int64) (x7 : Int32) (hx7 : x7 = (p1 &&& (2147483647 : Int32))) (x8 : Int32) (hx8 : x8 = (p2 &&& (2147483647 : Int32))) (x9 : Int32) (hx9 : x9 = (p3 &&& (2147483647 : Int32))) (x10 : Int32) (hx10 : x10 = (p4 &&& (2147483647 : Int32))) (x11 : Int32) (hx11 : x11 = (p5 &&& (2147483647 : Int32))) (x12 : Int32) (hx12 : x12 = (((((q6.toUInt64 >>> ((32 : Int32) &&& 0x3f).toInt64.toUInt64).toInt64).toInt32) &&& (7 : Int32)) % (6 : Int32))) (x13 : Int32) (hx13 : x13 = ((((q6.toUInt64 >>> ((35 : Int32) &&& 0x3f).toInt64.toUInt64).toInt64).toInt32) &&& (7 : Int32))) (x14 : Int32) (hx14 : x14 = ((q6.toInt32) &&& (2147483647 : Int32))) (v13 : Int32) (hv13 : v13 = (if x13 = (0 : Int32) then x7 else (if x13 = (1 : Int32) then x8 else (if x13 = (2 : Int32) then x9 else (if x13 = (3 : Int32) then x10 else (if x13 = (4 : Int32) then x11 else x14)))))) (hk14 : x12 = (1 : Int32)) (v32 : Int32) (hv32 : v32 = (if v13 = x7 then (1 : Int32) else (0 : Int32))) : ¬ v13 + 1 = 0 := by
  rw [hv13]
  repeat' split
  all_goals first | (rw [hx7]; exact own_pos _) | (rw [hx8]; exact own_pos _) | (rw [hx9]; exact own_pos _) | (rw [hx10]; exact own_pos _) | (rw [hx11]; exact own_pos _) | (rw [hx14]; exact own_pos _)
set_option maxRecDepth 65536 in
set_option maxHeartbeats 40000000 in
theorem leaf_0_4 (p1 : Int32) (p2 : Int32) (p3 : Int32) (p4 : Int32) (p5 : Int32) (q6 : Int64) (x7 : Int32) (hx7 : x7 = (p1 &&& (2147483647 : Int32))) (x8 : Int32) (hx8 : x8 = (p2 &&& (2147483647 : Int32))) (x9 : Int32) (hx9 : x9 = (p3 &&& (2147483647 : Int32))) (x10 : Int32) (hx10 : x10 = (p4 &&& (2147483647 : Int32))) (x11 : Int32) (hx11 : x11 = (p5 &&& (2147483647 : Int32))) (x12 : Int32) (hx12 : x12 = (((((q6.toUInt64 >>> ((32 : Int32) &&& 0x3f).toInt64.toUInt64).toInt64).toInt32) &&& (7 : Int32)) % (6 : Int32))) (x13 : Int32) (hx13 : x13 = ((((q6.toUInt64 >>> ((35 : Int32) &&& 0x3f).toInt64.toUInt64).toInt64).toInt32) &&& (7 : Int32))) (x14 : Int32) (hx14 : x14 = ((q6.toInt32) &&& (2147483647 : Int32))) (v13 : Int32) (hv13 : v13 = (if x13 = (0 : Int32) then x7 else (if x13 = (1 : Int32) then x8 else (if x13 = (2 : Int32) then x9 else (if x13 = (3 : Int32) then x10 else (if x13 = (4 : Int32) then x11 else x14)))))) (hk14 : x12 = (1 : Int32)) (v32 : Int32) (hv32 : v32 = (if v13 = x7 then (1 : Int32) else (0 : Int32))) (hc36 : ¬ ((if v13 ∈ (own_ins [] x7) then (1 : Int32) else (0 : Int32)) = v32)) : False := by
  refine hc36 ?_
  try rw [hv32]
  clear hx7 hx8 hx9 hx10 hx11 hx12 hx13 hx14 hv13 hc36
  simp only [own_insmem, List.not_mem_nil, false_or]
  repeat' split
  all_goals first | rfl | simp_all
set_option maxRecDepth 65536 in
set_option maxHeartbeats 40000000 in
theorem side_0_pos143_2 (p1 : Int32) (p2 : Int32) (p3 : Int32) (p4 : Int32) (p5 : Int32) (q6 : Int64) (x7 : Int32) (hx7 : x7 = (p1 &&& (2147483647 : Int32))) (x8 : Int32) (hx8 : x8 = (p2 &&& (2147483647 : Int32))) (x9 : Int32) (hx9 : x9 = (p3 &&& (2147483647 : Int32))) (x10 : Int32) (hx10 : x10 = (p4 &&& (2147483647 : Int32))) (x11 : Int32) (hx11 : x11 = (p5 &&& (2147483647 : Int32))) (x12 : Int32) (hx12 : x12 = (((((q6.toUInt64 >>> ((32 : Int32) &&& 0x3f).toInt64.toUInt64).toInt64).toInt32) &&& (7 : Int32)) % (6 : Int32))) (x13 : Int32) (hx13 : x13 = ((((q6.toUInt64 >>> ((35 : Int32) &&& 0x3f).toInt64.toUInt64).toInt64).toInt32) &&& (7 : Int32))) (x14 : Int32) (hx14 : x14 = ((q6.toInt32) &&& (2147483647 : Int32))) (v13 : Int32) (hv13 : v13 = (if x13 = (0 : Int32) then x7 else (if x13 = (1 : Int32) then x8 else (if x13 = (2 : Int32) then x9 else (if x13 = (3 : Int32) then x10 else (if x13 = (4 : Int32) then x11 else x14)))))) (hk14 : x12 = (2 : Int32)) : ¬ x7 + 1 = 0 := by
  rw [hx7]; exact own_pos _
set_option maxRecDepth 65536 in
set_option maxHeartbeats 40000000 in
theorem side_0_pos157 (p1 : Int32) (p2 : Int32) (p3 : Int32) (p4 : Int32) (p5 : Int32) (q6 : Int64) (x7 : Int32) (hx7 : x7 = (p1 &&& (2147483647 : Int32))) (x8 : Int32) (hx8 : x8 = (p2 &&& (2147483647 : Int32))) (x9 : Int32) (hx9 : x9 = (p3 &&& (2147483647 : Int32))) (x10 : Int32) (hx10 : x10 = (p4 &&& (2147483647 : Int32))) (x11 : Int32) (hx11 : x11 = (p5 &&& (2147483647 : Int32))) (x12 : Int32) (hx12 : x12 = (((((q6.toUInt64 >>> ((32 : Int32) &&& 0x3f).toInt64.toUInt64).toInt64).toInt32) &&& (7 : Int32)) % (6 : Int32))) (x13 : Int32) (hx13 : x13 = ((((q6.toUInt64 >>> ((35 : Int32) &&& 0x3f).toInt64.toUInt64).toInt64).toInt32) &&& (7 : Int32))) (x14 : Int32) (hx14 : x14 = ((q6.toInt32) &&& (2147483647 : Int32))) (v13 : Int32) (hv13 : v13 = (if x13 = (0 : Int32) then x7 else (if x13 = (1 : Int32) then x8 else (if x13 = (2 : Int32) then x9 else (if x13 = (3 : Int32) then x10 else (if x13 = (4 : Int32) then x11 else x14)))))) (hk14 : x12 = (2 : Int32)) : ¬ x8 + 1 = 0 := by
  rw [hx8]; exact own_pos _
set_option maxRecDepth 65536 in
set_option maxHeartbeats 40000000 in
theorem side_0_pos278_3 (p1 : Int32) (p2 : Int32) (p3 : Int32) (p4 : Int32) (p5 : Int32) (q6 : Int64) (x7 : Int32) (hx7 : x7 = (p1 &&& (2147483647 : Int32))) (x8 : Int32) (hx8 : x8 = (p2 &&& (2147483647 : Int32))) (x9 : Int32) (hx9 : x9 = (p3 &&& (2147483647 : Int32))) (x10 : Int32) (hx10 : x10 = (p4 &&& (2147483647 : Int32))) (x11 : Int32) (hx11 : x11 = (p5 &&& (2147483647 : Int32))) (x12 : Int32) (hx12 : x12 = (((((q6.toUInt64 >>> ((32 : Int32) &&& 0x3f).toInt64.toUInt64).toInt64).toInt32) &&& (7 : Int32)) % (6 : Int32))) (x13 : Int32) (hx13 : x13 = ((((q6.toUInt64 >>> ((35 : Int32) &&& 0x3f).toInt64.toUInt64).toInt64).toInt32) &&& (7 : Int32))) (x14 : Int32) (hx14 : x14 = ((q6.toInt32) &&& (2147483647 : Int32))) (v13 : Int32) (hv13 : v13 = (if x13 = (0 : Int32) then x7 else (if x13 = (1 : Int32) then x8 else (if x13 = (2 : Int32) then x9 else (if x13 = (3 : Int32) then x10 else (if x13 = (4 : Int32) then x11 else x14)))))) (hk14 : x12 = (2 : Int32)) (v50 : Int32) (hv50 : v50 = (if v13 = x7 then (1 : Int32) else (if v13 = x8 then (1 : Int32) else (0 : Int32)))) : ¬ v13 + 1 = 0 := by
  rw [hv13]
  repeat' split
  all_goals first | (rw [hx7]; exact own_pos _) | (rw [hx8]; exact own_pos _) | (rw [hx9]; exact own_pos _) | (rw [hx10]; exact own_pos _) | (rw [hx11]; exact own_pos _) | (rw [hx14]; exact own_pos _)
set_option maxRecDepth 65536 in
set_option maxHeartbeats 40000000 in
theorem leaf_0_6 (p1 : Int32) (p2 : Int32) (p3 : Int32) (p4 : Int32) (p5 : Int32) (q6 : Int64) (x7 : Int32) (hx7 : x7 = (p1 &&& (2147483647 : Int32))) (x8 : Int32) (hx8 : x8 = (p2 &&& (2147483647 : Int32))) (x9 : Int32) (hx9 : x9 = (p3 &&& (2147483647 : Int32))) (x10 : Int32) (hx10 : x10 = (p4 &&& (2147483647 : Int32))) (x11 : Int32) (hx11 : x11 = (p5 &&& (2147483647 : Int32))) (x12 : Int32) (hx12 : x12 = (((((q6.toUInt64 >>> ((32 : Int32) &&& 0x3f).toInt64.toUInt64).toInt64).toInt32) &&& (7 : Int32)) % (6 : Int32))) (x13 : Int32) (hx13 : x13 = ((((q6.toUInt64 >>> ((35 : Int32) &&& 0x3f).toInt64.toUInt64).toInt64).toInt32) &&& (7 : Int32))) (x14 : Int32) (hx14 : x14 = ((q6.toInt32) &&& (2147483647 : Int32))) (v13 : Int32) (hv13 : v13 = (if x13 = (0 : Int32) then x7 else (if x13 = (1 : Int32) then x8 else (if x13 = (2 : Int32) then x9 else (if x13 = (3 : Int32) then x10 else (if x13 = (4 : Int32) then x11 else x14)))))) (hk14 : x12 = (2 : Int32)) (v50 : Int32) (hv50 : v50 = (if v13 = x7 then (1 : Int32) else (if v13 = x8 then (1 : Int32) else (0 : Int32)))) (hc54 : ¬ ((if v13 ∈ (own_ins (own_ins [] x7) x8) then (1 : Int32) else (0 : Int32)) = v50)) : False := by
  refine hc54 ?_
  try rw [hv50]
  clear hx7 hx8 hx9 hx10 hx11 hx12 hx13 hx14 hv13 hc54
  simp only [own_insmem, List.not_mem_nil, false_or]
  repeat' split
  all_goals first | rfl | simp_all
set_option maxRecDepth 65536 in
set_option maxHeartbeats 40000000 in
theorem side_0_pos143_3 (p1 : Int32) (p2 : Int32) (p3 : Int32) (p4 : Int32) (p5 : Int32) (q6 : Int64) (x7 : Int32) (hx7 : x7 = (p1 &&& (2147483647 : Int32))) (x8 : Int32) (hx8 : x8 = (p2 &&& (2147483647 : Int32))) (x9 : Int32) (hx9 : x9 = (p3 &&& (2147483647 : Int32))) (x10 : Int32) (hx10 : x10 = (p4 &&& (2147483647 : Int32))) (x11 : Int32) (hx11 : x11 = (p5 &&& (2147483647 : Int32))) (x12 : Int32) (hx12 : x12 = (((((q6.toUInt64 >>> ((32 : Int32) &&& 0x3f).toInt64.toUInt64).toInt64).toInt32) &&& (7 : Int32)) % (6 : Int32))) (x13 : Int32) (hx13 : x13 = ((((q6.toUInt64 >>> ((35 : Int32) &&& 0x3f).toInt64.toUInt64).toInt64).toInt32) &&& (7 : Int32))) (x14 : Int32) (hx14 : x14 = ((q6.toInt32) &&& (2147483647 : Int32))) (v13 : Int32) (hv13 : v13 = (if x13 = (0 : Int32) then x7 else (if x13 = (1 : Int32) then x8 else (if x13 = (2 : Int32) then x9 else (if x13 = (3 : Int32) then x10 else (if x13 = (4 : Int32) then x11 else x14)))))) (hk14 : x12 = (3 : Int32)) : ¬ x7 + 1 = 0 := by
  rw [hx7]; exact own_pos _
set_option maxRecDepth 65536 in
set_option maxHeartbeats 40000000 in
theorem side_0_pos157_2 (p1 : Int32) (p2 : Int32) (p3 : Int32) (p4 : Int32) (p5 : Int32) (q6 : Int64) (x7 : Int32) (hx7 : x7 = (p1 &&& (2147483647 : Int32))) (x8 : Int32) (hx8 : x8 = (p2 &&& (2147483647 : Int32))) (x9 : Int32) (hx9 : x9 = (p3 &&& (2147483647 : Int32))) (x10 : Int32) (hx10 : x10 = (p4 &&& (2147483647 : Int32))) (x11 : Int32) (hx11 : x11 = (p5 &&& (2147483647 : Int32))) (x12 : Int32) (hx12 : x12 = (((((q6.toUInt64 >>> ((32 : Int32) &&& 0x3f).toInt64.toUInt64).toInt64).toInt32) &&& (7 : Int32)) % (6 : Int32))) (x13 : Int32) (hx13 : x13 = ((((q6.toUInt64 >>> ((35 : Int32) &&& 0x3f).toInt64.toUInt64).toInt64).toInt32) &&& (7 : Int32))) (x14 : Int32) (hx14 : x14 = ((q6.toInt32) &&& (2147483647 : Int32))) (v13 : Int32) (hv13 : v13 = (if x13 = (0 : Int32) then x7 else (if x13 = (1 : Int32) then x8 else (if x13 = (2 : Int32) then x9 else (if x13 = (3 : Int32) then x10 else (if x13 = (4 : Int32) then x11 else x14)))))) (hk14 : x12 = (3 : Int32)) : ¬ x8 + 1 = 0 := by
  rw [hx8]; exact own_pos _
set_option maxRecDepth 65536 in
set_option maxHeartbeats 40000000 in
theorem side_0_pos171 (p1 : Int32) (p2 : Int32) (p3 : Int32) (p4 : Int32) (p5 : Int32) (q6 : Int64) (x7 : Int32) (hx7 : x7 = (p1 &&& (2147483647 : Int32))) (x8 : Int32) (hx8 : x8 = (p2 &&& (2147483647 : Int32))) (x9 : Int32) (hx9 : x9 = (p3 &&& (2147483647 : Int32))) (x10 : Int32) (hx10 : x10 = (p4 &&& (2147483647 : Int32))) (x11 : Int32) (hx11 : x11 = (p5 &&& (2147483647 : Int32))) (x12 : Int32) (hx12 : x12 = (((((q6.toUInt64 >>> ((32 : Int32) &&& 0x3f).toInt64.toUInt64).toInt64).toInt32) &&& (7 : Int32)) % (6 : Int32))) (x13 : Int32) (hx13 : x13 = ((((q6.toUInt64 >>> ((35 : Int32) &&& 0x3f).toInt64.toUInt64).toInt64).toInt32) &&& (7 : Int32))) (x14 : Int32) (hx14 : x14 = ((q6.toInt32) &&& (2147483647 : Int32))) (v13 : Int32) (hv13 : v13 = (if x13 = (0 : Int32) then x7 else (if x13 = (1 : Int32) then x8 else (if x13 = (2 : Int32) then x9 else (if x13 = (3 : Int32) then x10 else (if x13 = (4 : Int32) then x11 else x14)))))) (hk14 : x12 = (3 : Int32)) : ¬ x9 + 1 = 0 := by
  rw [hx9]; exact own_pos _
set_option maxRecDepth 65536 in
set_option maxHeartbeats 40000000 in
theorem side_0_pos278_4 (p1 : Int32) (p2 : Int32) (p3 : Int32) (p4 : Int32) (p5 : Int32) (q6 : Int64) (x7 : Int32) (hx7 : x7 = (p1 &&& (2147483647 : Int32))) (x8 : Int32) (hx8 : x8 = (p2 &&& (2147483647 : Int32))) (x9 : Int32) (hx9 : x9 = (p3 &&& (2147483647 : Int32))) (x10 : Int32) (hx10 : x10 = (p4 &&& (2147483647 : Int32))) (x11 : Int32) (hx11 : x11 = (p5 &&& (2147483647 : Int32))) (x12 : Int32) (hx12 : x12 = (((((q6.toUInt64 >>> ((32 : Int32) &&& 0x3f).toInt64.toUInt64).toInt64).toInt32) &&& (7 : Int32)) % (6 : Int32))) (x13 : Int32) (hx13 : x13 = ((((q6.toUInt64 >>> ((35 : Int32) &&& 0x3f).toInt64.toUInt64).toInt64).toInt32) &&& (7 : Int32))) (x14 : Int32) (hx14 : x14 = ((q6.toInt32) &&& (2147483647 : Int32))) (v13 : Int32) (hv13 : v13 = (if x13 = (0 : Int32) then x7 else (if x13 = (1 : Int32) then x8 else (if x13 = (2 : Int32) then x9 else (if x13 = (3 : Int32) then x10 else (if x13 = (4 : Int32) then x11 else x14)))))) (hk14 : x12 = (3 : Int32)) (v72 : Int32) (hv72 : v72 = (if v13 = x7 then (1 : Int32) else (if v13 = x8 then (1 : Int32) else (if v13 = x9 then (1 : Int32) else (0 : Int32))))) : ¬ v13 + 1 = 0 := by
  rw [hv13]
  repeat' split
  all_goals first | (rw [hx7]; exact own_pos _) | (rw [hx8]; exact own_pos _) | (rw [hx9]; exact own_pos _) | (rw [hx10]; exact own_pos _) | (rw [hx11]; exact own_pos _) | (rw [hx14]; exact own_pos _)
set_option maxRecDepth 65536 in
set_option maxHeartbeats 40000000 in
theorem leaf_0_8 (p1 : Int32) (p2 : Int32) (p3 : Int32) (p4 : Int32) (p5 : Int32) (q6 : Int64) (x7 : Int32) (hx7 : x7 = (p1 &&& (2147483647 : Int32))) (x8 : Int32) (hx8 : x8 = (p2 &&& (2147483647 : Int32))) (x9 : Int32) (hx9 : x9 = (p3 &&& (2147483647 : Int32))) (x10 : Int32) (hx10 : x10 = (p4 &&& (2147483647 : Int32))) (x11 : Int32) (hx11 : x11 = (p5 &&& (2147483647 : Int32))) (x12 : Int32) (hx12 : x12 = (((((q6.toUInt64 >>> ((32 : Int32) &&& 0x3f).toInt64.toUInt64).toInt64).toInt32) &&& (7 : Int32)) % (6 : Int32))) (x13 : Int32) (hx13 : x13 = ((((q6.toUInt64 >>> ((35 : Int32) &&& 0x3f).toInt64.toUInt64).toInt64).toInt32) &&& (7 : Int32))) (x14 : Int32) (hx14 : x14 = ((q6.toInt32) &&& (2147483647 : Int32))) (v13 : Int32) (hv13 : v13 = (if x13 = (0 : Int32) then x7 else (if x13 = (1 : Int32) then x8 else (if x13 = (2 : Int32) then x9 else (if x13 = (3 : Int32) then x10 else (if x13 = (4 : Int32) then x11 else x14)))))) (hk14 : x12 = (3 : Int32)) (v72 : Int32) (hv72 : v72 = (if v13 = x7 then (1 : Int32) else (if v13 = x8 then (1 : Int32) else (if v13 = x9 then (1 : Int32) else (0 : Int32))))) (hc76 : ¬ ((if v13 ∈ (own_ins (own_ins (own_ins [] x7) x8) x9) then (1 : Int32) else (0 : Int32)) = v72)) : False := by
  refine hc76 ?_
  try rw [hv72]
  clear hx7 hx8 hx9 hx10 hx11 hx12 hx13 hx14 hv13 hc76
  simp only [own_insmem, List.not_mem_nil, false_or]
  repeat' split
  all_goals first | rfl | simp_all
set_option maxRecDepth 65536 in
set_option maxHeartbeats 40000000 in
theorem side_0_pos143_4 (p1 : Int32) (p2 : Int32) (p3 : Int32) (p4 : Int32) (p5 : Int32) (q6 : Int64) (x7 : Int32) (hx7 : x7 = (p1 &&& (2147483647 : Int32))) (x8 : Int32) (hx8 : x8 = (p2 &&& (2147483647 : Int32))) (x9 : Int32) (hx9 : x9 = (p3 &&& (2147483647 : Int32))) (x10 : Int32) (hx10 : x10 = (p4 &&& (2147483647 : Int32))) (x11 : Int32) (hx11 : x11 = (p5 &&& (2147483647 : Int32))) (x12 : Int32) (hx12 : x12 = (((((q6.toUInt64 >>> ((32 : Int32) &&& 0x3f).toInt64.toUInt64).toInt64).toInt32) &&& (7 : Int32)) % (6 : Int32))) (x13 : Int32) (hx13 : x13 = ((((q6.toUInt64 >>> ((35 : Int32) &&& 0x3f).toInt64.toUInt64).toInt64).toInt32) &&& (7 : Int32))) (x14 : Int32) (hx14 : x14 = ((q6.toInt32) &&& (2147483647 : Int32))) (v13 : Int32) (hv13 : v13 = (if x13 = (0 : Int32) then x7 else (if x13 = (1 : Int32) then x8 else (if x13 = (2 : Int32) then x9 else (if x13 = (3 : Int32) then x10 else (if x13 = (4 : Int32) then x11 else x14)))))) (hk14 : x12 = (4 : Int32)) : ¬ x7 + 1 = 0 := by
  rw [hx7]; exact own_pos _
set_option maxRecDepth 65536 in
set_option maxHeartbeats 40000000 in
theorem side_0_pos157_3 (p1 : Int32) (p2 : Int32) (p3 : Int32) (p4 : Int32) (p5 : Int32) (q6 : Int64) (x7 : Int32) (hx7 : x7 = (p1 &&& (2147483647 : Int32))) (x8 : Int32) (hx8 : x8 = (p2 &&& (2147483647 : Int32))) (x9 : Int32) (hx9 : x9 = (p3 &&& (2147483647 : Int32))) (x10 : Int32) (hx10 : x10 = (p4 &&& (2147483647 : Int32))) (x11 : Int32) (hx11 : x11 = (p5 &&& (2147483647 : Int32))) (x12 : Int32) (hx12 : x12 = (((((q6.toUInt64 >>> ((32 : Int32) &&& 0x3f).toInt64.toUInt64).toInt64).toInt32) &&& (7 : Int32)) % (6 : Int32))) (x13 : Int32) (hx13 : x13 = ((((q6.toUInt64 >>> ((35 : Int32) &&& 0x3f).toInt64.toUInt64).toInt64).toInt32) &&& (7 : Int32))) (x14 : Int32) (hx14 : x14 = ((q6.toInt32) &&& (2147483647 : Int32))) (v13 : Int32) (hv13 : v13 = (if x13 = (0 : Int32) then x7 else (if x13 = (1 : Int32) then x8 else (if x13 = (2 : Int32) then x9 else (if x13 = (3 : Int32) then x10 else (if x13 = (4 : Int32) then x11 else x14)))))) (hk14 : x12 = (4 : Int32)) : ¬ x8 + 1 = 0 := by
  rw [hx8]; exact own_pos _
set_option maxRecDepth 65536 in
set_option maxHeartbeats 40000000 in
theorem side_0_pos171_2 (p1 : Int32) (p2 : Int32) (p3 : Int32) (p4 : Int32) (p5 : Int32) (q6 : Int64) (x7 : Int32) (hx7 : x7 = (p1 &&& (2147483647 : Int32))) (x8 : Int32) (hx8 : x8 = (p2 &&& (2147483647 : Int32))) (x9 : Int32) (hx9 : x9 = (p3 &&& (2147483647 : Int32))) (x10 : Int32) (hx10 : x10 = (p4 &&& (2147483647 : Int32))) (x11 : Int32) (hx11 : x11 = (p5 &&& (2147483647 : Int32))) (x12 : Int32) (hx12 : x12 = (((((q6.toUInt64 >>> ((32 : Int32) &&& 0x3f).toInt64.toUInt64).toInt64).toInt32) &&& (7 : Int32)) % (6 : Int32))) (x13 : Int32) (hx13 : x13 = ((((q6.toUInt64 >>> ((35 : Int32) &&& 0x3f).toInt64.toUInt64).toInt64).toInt32) &&& (7 : Int32))) (x14 : Int32) (hx14 : x14 = ((q6.toInt32) &&& (2147483647 : Int32))) (v13 : Int32) (hv13 : v13 = (if x13 = (0 : Int32) then x7 else (if x13 = (1 : Int32) then x8 else (if x13 = (2 : Int32) then x9 else (if x13 = (3 : Int32) then x10 else (if x13 = (4 : Int32) then x11 else x14)))))) (hk14 : x12 = (4 : Int32)) : ¬ x9 + 1 = 0 := by
  rw [hx9]; exact own_pos _
set_option maxRecDepth 65536 in
set_option maxHeartbeats 40000000 in
theorem side_0_pos185 (p1 : Int32) (p2 : Int32) (p3 : Int32) (p4 : Int32) (p5 : Int32) (q6 : Int64) (x7 : Int32) (hx7 : x7 = (p1 &&& (2147483647 : Int32))) (x8 : Int32) (hx8 : x8 = (p2 &&& (2147483647 : Int32))) (x9 : Int32) (hx9 : x9 = (p3 &&& (2147483647 : Int32))) (x10 : Int32) (hx10 : x10 = (p4 &&& (2147483647 : Int32))) (x11 : Int32) (hx11 : x11 = (p5 &&& (2147483647 : Int32))) (x12 : Int32) (hx12 : x12 = (((((q6.toUInt64 >>> ((32 : Int32) &&& 0x3f).toInt64.toUInt64).toInt64).toInt32) &&& (7 : Int32)) % (6 : Int32))) (x13 : Int32) (hx13 : x13 = ((((q6.toUInt64 >>> ((35 : Int32) &&& 0x3f).toInt64.toUInt64).toInt64).toInt32) &&& (7 : Int32))) (x14 : Int32) (hx14 : x14 = ((q6.toInt32) &&& (2147483647 : Int32))) (v13 : Int32) (hv13 : v13 = (if x13 = (0 : Int32) then x7 else (if x13 = (1 : Int32) then x8 else (if x13 = (2 : Int32) then x9 else (if x13 = (3 : Int32) then x10 else (if x13 = (4 : Int32) then x11 else x14)))))) (hk14 : x12 = (4 : Int32)) : ¬ x10 + 1 = 0 := by
  rw [hx10]; exact own_pos _
set_option maxRecDepth 65536 in
set_option maxHeartbeats 40000000 in
theorem side_0_pos278_5 (p1 : Int32) (p2 : Int32) (p3 : Int32) (p4 : Int32) (p5 : Int32) (q6 : Int64) (x7 : Int32) (hx7 : x7 = (p1 &&& (2147483647 : Int32))) (x8 : Int32) (hx8 : x8 = (p2 &&& (2147483647 : Int32))) (x9 : Int32) (hx9 : x9 = (p3 &&& (2147483647 : Int32))) (x10 : Int32) (hx10 : x10 = (p4 &&& (2147483647 : Int32))) (x11 : Int32) (hx11 : x11 = (p5 &&& (2147483647 : Int32))) (x12 : Int32) (hx12 : x12 = (((((q6.toUInt64 >>> ((32 : Int32) &&& 0x3f).toInt64.toUInt64).toInt64).toInt32) &&& (7 : Int32)) % (6 : Int32))) (x13 : Int32) (hx13 : x13 = ((((q6.toUInt64 >>> ((35 : Int32) &&& 0x3f).toInt64.toUInt64).toInt64).toInt32) &&& (7 : Int32))) (x14 : Int32) (hx14 : x14 = ((q6.toInt32) &&& (2147483647 : Int32))) (v13 : Int32) (hv13 : v13 = (if x13 = (0 : Int32) then x7 else (if x13 = (1 : Int32) then x8 else (if x13 = (2 : Int32) then x9 else (if x13 = (3 : Int32) then x10 else (if x13 = (4 : Int32) then x11 else x14)))))) (hk14 : x12 = (4 : Int32)) (v98 : Int32) (hv98 : v98 = (if v13 = x7 then (1 : Int32) else (if v13 = x8 then (1 : Int32) else (if v13 = x9 then (1 : Int32) else (if v13 = x10 then (1 : Int32) else (0 : Int32)))))) : ¬ v13 + 1 = 0 := by
  rw [hv13]
  repeat' split
  all_goals first | (rw [hx7]; exact own_pos _) | (rw [hx8]; exact own_pos _) | (rw [hx9]; exact own_pos _) | (rw [hx10]; exact own_pos _) | (rw [hx11]; exact own_pos _) | (rw [hx14]; exact own_pos _)
set_option maxRecDepth 65536 in
set_option maxHeartbeats 40000000 in
theorem leaf_0_10 (p1 : Int32) (p2 : Int32) (p3 : Int32) (p4 : Int32) (p5 : Int32) (q6 : Int64) (x7 : Int32) (hx7 : x7 = (p1 &&& (2147483647 : Int32))) (x8 : Int32) (hx8 : x8 = (p2 &&& (2147483647 : Int32))) (x9 : Int32) (hx9 : x9 = (p3 &&& (2147483647 : Int32))) (x10 : Int32) (hx10 : x10 = (p4 &&& (2147483647 : Int32))) (x11 : Int32) (hx11 : x11 = (p5 &&& (2147483647 : Int32))) (x12 : Int32) (hx12 : x12 = (((((q6.toUInt64 >>> ((32 : Int32) &&& 0x3f).toInt64.toUInt64).toInt64).toInt32) &&& (7 : Int32)) % (6 : Int32))) (x13 : Int32) (hx13 : x13 = ((((q6.toUInt64 >>> ((35 : Int32) &&& 0x3f).toInt64.toUInt64).toInt64).toInt32) &&& (7 : Int32))) (x14 : Int32) (hx14 : x14 = ((q6.toInt32) &&& (2147483647 : Int32))) (v13 : Int32) (hv13 : v13 = (if x13 = (0 : Int32) then x7 else (if x13 = (1 : Int32) then x8 else (if x13 = (2 : Int32) then x9 else (if x13 = (3 : Int32) then x10 else (if x13 = (4 : Int32) then x11 else x14)))))) (hk14 : x12 = (4 : Int32)) (v98 : Int32) (hv98 : v98 = (if v13 = x7 then (1 : Int32) else (if v13 = x8 then (1 : Int32) else (if v13 = x9 then (1 : Int32) else (if v13 = x10 then (1 : Int32) else (0 : Int32)))))) (hc102 : ¬ ((if v13 ∈ (own_ins (own_ins (own_ins (own_ins [] x7) x8) x9) x10) then (1 : Int32) else (0 : Int32)) = v98)) : False := by
  refine hc102 ?_
  try rw [hv98]
  clear hx7 hx8 hx9 hx10 hx11 hx12 hx13 hx14 hv13 hc102
  simp only [own_insmem, List.not_mem_nil, false_or]
  repeat' split
  all_goals first | rfl | simp_all
set_option maxRecDepth 65536 in
set_option maxHeartbeats 40000000 in
theorem side_0_pos143_5 (p1 : Int32) (p2 : Int32) (p3 : Int32) (p4 : Int32) (p5 : Int32) (q6 : Int64) (x7 : Int32) (hx7 : x7 = (p1 &&& (2147483647 : Int32))) (x8 : Int32) (hx8 : x8 = (p2 &&& (2147483647 : Int32))) (x9 : Int32) (hx9 : x9 = (p3 &&& (2147483647 : Int32))) (x10 : Int32) (hx10 : x10 = (p4 &&& (2147483647 : Int32))) (x11 : Int32) (hx11 : x11 = (p5 &&& (2147483647 : Int32))) (x12 : Int32) (hx12 : x12 = (((((q6.toUInt64 >>> ((32 : Int32) &&& 0x3f).toInt64.toUInt64).toInt64).toInt32) &&& (7 : Int32)) % (6 : Int32))) (x13 : Int32) (hx13 : x13 = ((((q6.toUInt64 >>> ((35 : Int32) &&& 0x3f).toInt64.toUInt64).toInt64).toInt32) &&& (7 : Int32))) (x14 : Int32) (hx14 : x14 = ((q6.toInt32) &&& (2147483647 : Int32))) (v13 : Int32) (hv13 : v13 = (if x13 = (0 : Int32) then x7 else (if x13 = (1 : Int32) then x8 else (if x13 = (2 : Int32) then x9 else (if x13 = (3 : Int32) then x10 else (if x13 = (4 : Int32) then x11 else x14)))))) (hk14 : x12 = (5 : Int32)) : ¬ x7 + 1 = 0 := by
  rw [hx7]; exact own_pos _
set_option maxRecDepth 65536 in
set_option maxHeartbeats 40000000 in
theorem side_0_pos157_4 (p1 : Int32) (p2 : Int32) (p3 : Int32) (p4 : Int32) (p5 : Int32) (q6 : Int64) (x7 : Int32) (hx7 : x7 = (p1 &&& (2147483647 : Int32))) (x8 : Int32) (hx8 : x8 = (p2 &&& (2147483647 : Int32))) (x9 : Int32) (hx9 : x9 = (p3 &&& (2147483647 : Int32))) (x10 : Int32) (hx10 : x10 = (p4 &&& (2147483647 : Int32))) (x11 : Int32) (hx11 : x11 = (p5 &&& (2147483647 : Int32))) (x12 : Int32) (hx12 : x12 = (((((q6.toUInt64 >>> ((32 : Int32) &&& 0x3f).toInt64.toUInt64).toInt64).toInt32) &&& (7 : Int32)) % (6 : Int32))) (x13 : Int32) (hx13 : x13 = ((((q6.toUInt64 >>> ((35 : Int32) &&& 0x3f).toInt64.toUInt64).toInt64).toInt32) &&& (7 : Int32))) (x14 : Int32) (hx14 : x14 = ((q6.toInt32) &&& (2147483647 : Int32))) (v13 : Int32) (hv13 : v13 = (if x13 = (0 : Int32) then x7 else (if x13 = (1 : Int32) then x8 else (if x13 = (2 : Int32) then x9 else (if x13 = (3 : Int32) then x10 else (if x13 = (4 : Int32) then x11 else x14)))))) (hk14 : x12 = (5 : Int32)) : ¬ x8 + 1 = 0 := by
  rw [hx8]; exact own_pos _
set_option maxRecDepth 65536 in
set_option maxHeartbeats 40000000 in
theorem side_0_pos171_3 (p1 : Int32) (p2 : Int32) (p3 : Int32) (p4 : Int32) (p5 : Int32) (q6 : Int64) (x7 : Int32) (hx7 : x7 = (p1 &&& (2147483647 : Int32))) (x8 : Int32) (hx8 : x8 = (p2 &&& (2147483647 : Int32))) (x9 : Int32) (hx9 : x9 = (p3 &&& (2147483647 : Int32))) (x10 : Int32) (hx10 : x10 = (p4 &&& (2147483647 : Int32))) (x11 : Int32) (hx11 : x11 = (p5 &&& (2147483647 : Int32))) (x12 : Int32) (hx12 : x12 = (((((q6.toUInt64 >>> ((32 : Int32) &&& 0x3f).toInt64.toUInt64).toInt64).toInt32) &&& (7 : Int32)) % (6 : Int32))) (x13 : Int32) (hx13 : x13 = ((((q6.toUInt64 >>> ((35 : Int32) &&& 0x3f).toInt64.toUInt64).toInt64).toInt32) &&& (7 : Int32))) (x14 : Int32) (hx14 : x14 = ((q6.toInt32) &&& (2147483647 : Int32))) (v13 : Int32) (hv13 : v13 = (if x13 = (0 : Int32) then x7 else (if x13 = (1 : Int32) then x8 else (if x13 = (2 : Int32) then x9 else (if x13 = (3 : Int32) then x10 else (if x13 = (4 : Int32) then x11 else x14)))))) (hk14 : x12 = (5 : Int32)) : ¬ x9 + 1 = 0 := by
  rw [hx9]; exact own_pos _
set_option maxRecDepth 65536 in
set_option maxHeartbeats 40000000 in
theorem side_0_pos185_2 (p1 : Int32) (p2 : Int32) (p3 : Int32) (p4 : Int32) (p5 : Int32) (q6 : Int64) (x7 : Int32) (hx7 : x7 = (p1 &&& (2147483647 : Int32))) (x8 : Int32) (hx8 : x8 = (p2 &&& (2147483647 : Int32))) (x9 : Int32) (hx9 : x9 = (p3 &&& (2147483647 : Int32))) (x10 : Int32) (hx10 : x10 = (p4 &&& (2147483647 : Int32))) (x11 : Int32) (hx11 : x11 = (p5 &&& (2147483647 : Int32))) (x12 : Int32) (hx12 : x12 = (((((q6.toUInt64 >>> ((32 : Int32) &&& 0x3f).toInt64.toUInt64).toInt64).toInt32) &&& (7 : Int32)) % (6 : Int32))) (x13 : Int32) (hx13 : x13 = ((((q6.toUInt64 >>> ((35 : Int32) &&& 0x3f).toInt64.toUInt64).toInt64).toInt32) &&& (7 : Int32))) (x14 : Int32) (hx14 : x14 = ((q6.toInt32) &&& (2147483647 : Int32))) (v13 : Int32) (hv13 : v13 = (if x13 = (0 : Int32) then x7 else (if x13 = (1 : Int32) then x8 else (if x13 = (2 : Int32) then x9 else (if x13 = (3 : Int32) then x10 else (if x13 = (4 : Int32) then x11 else x14)))))) (hk14 : x12 = (5 : Int32)) : ¬ x10 + 1 = 0 := by
  rw [hx10]; exact own_pos _
set_option maxRecDepth 65536 in
set_option maxHeartbeats 40000000 in
theorem side_0_pos199 (p1 : Int32) (p2 : Int32) (p3 : Int32) (p4 : Int32) (p5 : Int32) (q6 : Int64) (x7 : Int32) (hx7 : x7 = (p1 &&& (2147483647 : Int32))) (x8 : Int32) (hx8 : x8 = (p2 &&& (2147483647 : Int32))) (x9 : Int32) (hx9 : x9 = (p3 &&& (2147483647 : Int32))) (x10 : Int32) (hx10 : x10 = (p4 &&& (2147483647 : Int32))) (x11 : Int32) (hx11 : x11 = (p5 &&& (2147483647 : Int32))) (x12 : Int32) (hx12 : x12 = (((((q6.toUInt64 >>> ((32 : Int32) &&& 0x3f).toInt64.toUInt64).toInt64).toInt32) &&& (7 : Int32)) % (6 : Int32))) (x13 : Int32) (hx13 : x13 = ((((q6.toUInt64 >>> ((35 : Int32) &&& 0x3f).toInt64.toUInt64).toInt64).toInt32) &&& (7 : Int32))) (x14 : Int32) (hx14 : x14 = ((q6.toInt32) &&& (2147483647 : Int32))) (v13 : Int32) (hv13 : v13 = (if x13 = (0 : Int32) then x7 else (if x13 = (1 : Int32) then x8 else (if x13 = (2 : Int32) then x9 else (if x13 = (3 : Int32) then x10 else (if x13 = (4 : Int32) then x11 else x14)))))) (hk14 : x12 = (5 : Int32)) : ¬ x11 + 1 = 0 := by
  rw [hx11]; exact own_pos _
set_option maxRecDepth 65536 in
set_option maxHeartbeats 40000000 in
theorem side_0_pos278_6 (p1 : Int32) (p2 : Int32) (p3 : Int32) (p4 : Int32) (p5 : Int32) (q6 : Int64) (x7 : Int32) (hx7 : x7 = (p1 &&& (2147483647 : Int32))) (x8 : Int32) (hx8 : x8 = (p2 &&& (2147483647 : Int32))) (x9 : Int32) (hx9 : x9 = (p3 &&& (2147483647 : Int32))) (x10 : Int32) (hx10 : x10 = (p4 &&& (2147483647 : Int32))) (x11 : Int32) (hx11 : x11 = (p5 &&& (2147483647 : Int32))) (x12 : Int32) (hx12 : x12 = (((((q6.toUInt64 >>> ((32 : Int32) &&& 0x3f).toInt64.toUInt64).toInt64).toInt32) &&& (7 : Int32)) % (6 : Int32))) (x13 : Int32) (hx13 : x13 = ((((q6.toUInt64 >>> ((35 : Int32) &&& 0x3f).toInt64.toUInt64).toInt64).toInt32) &&& (7 : Int32))) (x14 : Int32) (hx14 : x14 = ((q6.toInt32) &&& (2147483647 : Int32))) (v13 : Int32) (hv13 : v13 = (if x13 = (0 : Int32) then x7 else (if x13 = (1 : Int32) then x8 else (if x13 = (2 : Int32) then x9 else (if x13 = (3 : Int32) then x10 else (if x13 = (4 : Int32) then x11 else x14)))))) (hk14 : x12 = (5 : Int32)) (v128 : Int32) (hv128 : v128 = (if v13 = x7 then (1 : Int32) else (if v13 = x8 then (1 : Int32) else (if v13 = x9 then (1 : Int32) else (if v13 = x10 then (1 : Int32) else (if v13 = x11 then (1 : Int32) else (0 : Int32))))))) : ¬ v13 + 1 = 0 := by
  rw [hv13]
  repeat' split
  all_goals first | (rw [hx7]; exact own_pos _) | (rw [hx8]; exact own_pos _) | (rw [hx9]; exact own_pos _) | (rw [hx10]; exact own_pos _) | (rw [hx11]; exact own_pos _) | (rw [hx14]; exact own_pos _)
set_option maxRecDepth 65536 in
set_option maxHeartbeats 40000000 in
theorem leaf_0_12 (p1 : Int32) (p2 : Int32) (p3 : Int32) (p4 : Int32) (p5 : Int32) (q6 : Int64) (x7 : Int32) (hx7 : x7 = (p1 &&& (2147483647 : Int32))) (x8 : Int32) (hx8 : x8 = (p2 &&& (2147483647 : Int32))) (x9 : Int32) (hx9 : x9 = (p3 &&& (2147483647 : Int32))) (x10 : Int32) (hx10 : x10 = (p4 &&& (2147483647 : Int32))) (x11 : Int32) (hx11 : x11 = (p5 &&& (2147483647 : Int32))) (x12 : Int32) (hx12 : x12 = (((((q6.toUInt64 >>> ((32 : Int32) &&& 0x3f).toInt64.toUInt64).toInt64).toInt32) &&& (7 : Int32)) % (6 : Int32))) (x13 : Int32) (hx13 : x13 = ((((q6.toUInt64 >>> ((35 : Int32) &&& 0x3f).toInt64.toUInt64).toInt64).toInt32) &&& (7 : Int32))) (x14 : Int32) (hx14 : x14 = ((q6.toInt32) &&& (2147483647 : Int32))) (v13 : Int32) (hv13 : v13 = (if x13 = (0 : Int32) then x7 else (if x13 = (1 : Int32) then x8 else (if x13 = (2 : Int32) then x9 else (if x13 = (3 : Int32) then x10 else (if x13 = (4 : Int32) then x11 else x14)))))) (hk14 : x12 = (5 : Int32)) (v128 : Int32) (hv128 : v128 = (if v13 = x7 then (1 : Int32) else (if v13 = x8 then (1 : Int32) else (if v13 = x9 then (1 : Int32) else (if v13 = x10 then (1 : Int32) else (if v13 = x11 then (1 : Int32) else (0 : Int32))))))) (hc132 : ¬ ((if v13 ∈ (own_ins (own_ins (own_ins (own_ins (own_ins [] x7) x8) x9) x10) x11) then (1 : Int32) else (0 : Int32)) = v128)) : False := by
  refine hc132 ?_
  try rw [hv128]
  clear hx7 hx8 hx9 hx10 hx11 hx12 hx13 hx14 hv13 hc132
  simp only [own_insmem, List.not_mem_nil, false_or]
  repeat' split
  all_goals first | rfl | simp_all
def Q0 (Z : State) (p1 : Int32) (p2 : Int32) (p3 : Int32) (p4 : Int32) (p5 : Int32) (q6 : Int64) (h0 : Heap) (n0 : Nat) (v : Option Value) (h : Heap) (L : List Loc) : Prop := v = some (.int (1 : Int32)) ∧ Fr n0 L
set_option maxRecDepth 65536 in
set_option maxHeartbeats 40000000 in
theorem rm0 (l : Launch) (Z : State) (a0 : Array Value) (hw : ∀ d ∈ tables_1, d.before a0 Z = true) (ws : List Jvm.Cond) (p1 : Int32) (p2 : Int32) (p3 : Int32) (p4 : Int32) (p5 : Int32) (q6 : Int64) (h0 : Heap) (n0 : Nat) (Z0 : n0 ≤ h0.size) :
    MetFree l x (head1 (Jvm.Cond.code x code maxLocals ret :: ws) room_1) (fun a U => a = #[(.int p1), (.int p2), (.int p3), (.int p4), (.int p5), (.long q6)] ∧ Z.Warmed39 U.vm ∧ U.heap = h0) (fun _ _ _ _ _ => True) (fun _ U o U' => ∃ v L, o = .returned v ∧ Q0 Z p1 p2 p3 p4 p5 q6 h0 n0 v U'.heap L ∧ FrameEnd U o U' L room_1.cells room_1.slots) := by
  refine MetFree.of_bodySF (plainFor_of_name pn_0) hisR ?_
  intro p e s m args below meth c s₁ Bd hml0 hP hK
  obtain ⟨rfl, hZ, hh⟩ := hP
  skip
  skip
  skip
  skip
  skip
  skip
  have hx := Bd.exec
  have hby := Bd.bytes
  have hml : c.maxLocals = 17 := hml0
  have hown : s.vm.findClass "com/example/krel/krel/saturation/AtomSetContainsPinLaw" = some m.cls := findClass_of_methodNamed Bd.named
  have hnm := (name_of_methodNamed Bd.named Bd.method).1
  have X0 : Stand p l e room_1 s m #[(.int p1), (.int p2), (.int p3), (.int p4), (.int p5), (.long q6)] below meth c s₁ [] 0 0 := Stand.of_body Bd
  have e0 : s₁.heap = h0 := by rw [← hh, Bd.state]; rfl
  have N0 := Fr.nil n0
  have pre0 : ∀ t, Steps p.tables e below (s₁.setTop (mkF m 0 #[.val (.int p1), .val (.int p2), .val (.int p3), .val (.int p4), .val (.int p5), .val (.long q6), .second, .unset, .unset, .unset, .unset, .unset, .unset, .unset, .unset, .unset, .unset] [])) t → Steps p.tables e below (s₁.setTop (entryFrame m #[(.int p1), (.int p2), (.int p3), (.int p4), (.int p5), (.long q6)] maxLocals)) t := fun t k => castTop (ef_0 m p1 p2 p3 p4 p5 q6) k
  have pre1 : ∀ t, Steps p.tables e below (s₁.setTop (mkF m 64 #[.val (.int p1), .val (.int p2), .val (.int p3), .val (.int p4), .val (.int p5), .val (.long q6), .second, .val (.int (p1 &&& (2147483647 : Int32))), .val (.int (p2 &&& (2147483647 : Int32))), .val (.int (p3 &&& (2147483647 : Int32))), .val (.int (p4 &&& (2147483647 : Int32))), .val (.int (p5 &&& (2147483647 : Int32))), .val (.int (((((q6.toUInt64 >>> ((32 : Int32) &&& 0x3f).toInt64.toUInt64).toInt64).toInt32) &&& (7 : Int32)) % (6 : Int32))), .val (.int ((((q6.toUInt64 >>> ((35 : Int32) &&& 0x3f).toInt64.toUInt64).toInt64).toInt32) &&& (7 : Int32))), .val (.int ((q6.toInt32) &&& (2147483647 : Int32))), .unset, .unset] [])) t → Steps p.tables e below (s₁.setTop (entryFrame m #[(.int p1), (.int p2), (.int p3), (.int p4), (.int p5), (.long q6)] maxLocals)) t := fun t kt => by
    refine pre0 t ?_
    show Steps p.tables e below (s₁.setTop (mkF m 0 #[.val (.int p1), .val (.int p2), .val (.int p3), .val (.int p4), .val (.int p5), .val (.long q6), .second, .unset, .unset, .unset, .unset, .unset, .unset, .unset, .unset, .unset, .unset] [])) _
    refine XS.iloadN X0.here hx rfl (hb hby at_0) rfl ?_
    show Steps p.tables e below (s₁.setTop (mkF m 1 #[.val (.int p1), .val (.int p2), .val (.int p3), .val (.int p4), .val (.int p5), .val (.long q6), .second, .unset, .unset, .unset, .unset, .unset, .unset, .unset, .unset, .unset, .unset] [(.int p1)])) _
    refine X0.ldcInt hx hown (mvT hZ (hw _ (List.mem_of_getElem? (i := 0) rfl))) (g := (mkF m 1 #[.val (.int p1), .val (.int p2), .val (.int p3), .val (.int p4), .val (.int p5), .val (.long q6), .second, .unset, .unset, .unset, .unset, .unset, .unset, .unset, .unset, .unset, .unset] [(.int p1)])) rfl (hb hby at_1) _ ?_
    show Steps p.tables e below (s₁.setTop (mkF m 3 #[.val (.int p1), .val (.int p2), .val (.int p3), .val (.int p4), .val (.int p5), .val (.long q6), .second, .unset, .unset, .unset, .unset, .unset, .unset, .unset, .unset, .unset, .unset] [(.int (2147483647 : Int32)), (.int p1)])) _
    refine XS.iand X0.here hx rfl (hb hby at_3) rfl ?_
    show Steps p.tables e below (s₁.setTop (mkF m 4 #[.val (.int p1), .val (.int p2), .val (.int p3), .val (.int p4), .val (.int p5), .val (.long q6), .second, .unset, .unset, .unset, .unset, .unset, .unset, .unset, .unset, .unset, .unset] [(.int (p1 &&& (2147483647 : Int32)))])) _
    refine XS.istore X0.here hx rfl (hb hby at_4) rfl (l' := #[.val (.int p1), .val (.int p2), .val (.int p3), .val (.int p4), .val (.int p5), .val (.long q6), .second, .val (.int (p1 &&& (2147483647 : Int32))), .unset, .unset, .unset, .unset, .unset, .unset, .unset, .unset, .unset]) rfl ?_
    show Steps p.tables e below (s₁.setTop (mkF m 6 #[.val (.int p1), .val (.int p2), .val (.int p3), .val (.int p4), .val (.int p5), .val (.long q6), .second, .val (.int (p1 &&& (2147483647 : Int32))), .unset, .unset, .unset, .unset, .unset, .unset, .unset, .unset, .unset] [])) _
    refine XS.iloadN X0.here hx rfl (hb hby at_6) rfl ?_
    show Steps p.tables e below (s₁.setTop (mkF m 7 #[.val (.int p1), .val (.int p2), .val (.int p3), .val (.int p4), .val (.int p5), .val (.long q6), .second, .val (.int (p1 &&& (2147483647 : Int32))), .unset, .unset, .unset, .unset, .unset, .unset, .unset, .unset, .unset] [(.int p2)])) _
    refine X0.ldcInt hx hown (mvT hZ (hw _ (List.mem_of_getElem? (i := 0) rfl))) (g := (mkF m 7 #[.val (.int p1), .val (.int p2), .val (.int p3), .val (.int p4), .val (.int p5), .val (.long q6), .second, .val (.int (p1 &&& (2147483647 : Int32))), .unset, .unset, .unset, .unset, .unset, .unset, .unset, .unset, .unset] [(.int p2)])) rfl (hb hby at_7) _ ?_
    show Steps p.tables e below (s₁.setTop (mkF m 9 #[.val (.int p1), .val (.int p2), .val (.int p3), .val (.int p4), .val (.int p5), .val (.long q6), .second, .val (.int (p1 &&& (2147483647 : Int32))), .unset, .unset, .unset, .unset, .unset, .unset, .unset, .unset, .unset] [(.int (2147483647 : Int32)), (.int p2)])) _
    refine XS.iand X0.here hx rfl (hb hby at_9) rfl ?_
    show Steps p.tables e below (s₁.setTop (mkF m 10 #[.val (.int p1), .val (.int p2), .val (.int p3), .val (.int p4), .val (.int p5), .val (.long q6), .second, .val (.int (p1 &&& (2147483647 : Int32))), .unset, .unset, .unset, .unset, .unset, .unset, .unset, .unset, .unset] [(.int (p2 &&& (2147483647 : Int32)))])) _
    refine XS.istore X0.here hx rfl (hb hby at_10) rfl (l' := #[.val (.int p1), .val (.int p2), .val (.int p3), .val (.int p4), .val (.int p5), .val (.long q6), .second, .val (.int (p1 &&& (2147483647 : Int32))), .val (.int (p2 &&& (2147483647 : Int32))), .unset, .unset, .unset, .unset, .unset, .unset, .unset, .unset]) rfl ?_
    show Steps p.tables e below (s₁.setTop (mkF m 12 #[.val (.int p1), .val (.int p2), .val (.int p3), .val (.int p4), .val (.int p5), .val (.long q6), .second, .val (.int (p1 &&& (2147483647 : Int32))), .val (.int (p2 &&& (2147483647 : Int32))), .unset, .unset, .unset, .unset, .unset, .unset, .unset, .unset] [])) _
    refine XS.iloadN X0.here hx rfl (hb hby at_12) rfl ?_
    show Steps p.tables e below (s₁.setTop (mkF m 13 #[.val (.int p1), .val (.int p2), .val (.int p3), .val (.int p4), .val (.int p5), .val (.long q6), .second, .val (.int (p1 &&& (2147483647 : Int32))), .val (.int (p2 &&& (2147483647 : Int32))), .unset, .unset, .unset, .unset, .unset, .unset, .unset, .unset] [(.int p3)])) _
    refine X0.ldcInt hx hown (mvT hZ (hw _ (List.mem_of_getElem? (i := 0) rfl))) (g := (mkF m 13 #[.val (.int p1), .val (.int p2), .val (.int p3), .val (.int p4), .val (.int p5), .val (.long q6), .second, .val (.int (p1 &&& (2147483647 : Int32))), .val (.int (p2 &&& (2147483647 : Int32))), .unset, .unset, .unset, .unset, .unset, .unset, .unset, .unset] [(.int p3)])) rfl (hb hby at_13) _ ?_
    show Steps p.tables e below (s₁.setTop (mkF m 15 #[.val (.int p1), .val (.int p2), .val (.int p3), .val (.int p4), .val (.int p5), .val (.long q6), .second, .val (.int (p1 &&& (2147483647 : Int32))), .val (.int (p2 &&& (2147483647 : Int32))), .unset, .unset, .unset, .unset, .unset, .unset, .unset, .unset] [(.int (2147483647 : Int32)), (.int p3)])) _
    refine XS.iand X0.here hx rfl (hb hby at_15) rfl ?_
    show Steps p.tables e below (s₁.setTop (mkF m 16 #[.val (.int p1), .val (.int p2), .val (.int p3), .val (.int p4), .val (.int p5), .val (.long q6), .second, .val (.int (p1 &&& (2147483647 : Int32))), .val (.int (p2 &&& (2147483647 : Int32))), .unset, .unset, .unset, .unset, .unset, .unset, .unset, .unset] [(.int (p3 &&& (2147483647 : Int32)))])) _
    refine XS.istore X0.here hx rfl (hb hby at_16) rfl (l' := #[.val (.int p1), .val (.int p2), .val (.int p3), .val (.int p4), .val (.int p5), .val (.long q6), .second, .val (.int (p1 &&& (2147483647 : Int32))), .val (.int (p2 &&& (2147483647 : Int32))), .val (.int (p3 &&& (2147483647 : Int32))), .unset, .unset, .unset, .unset, .unset, .unset, .unset]) rfl ?_
    show Steps p.tables e below (s₁.setTop (mkF m 18 #[.val (.int p1), .val (.int p2), .val (.int p3), .val (.int p4), .val (.int p5), .val (.long q6), .second, .val (.int (p1 &&& (2147483647 : Int32))), .val (.int (p2 &&& (2147483647 : Int32))), .val (.int (p3 &&& (2147483647 : Int32))), .unset, .unset, .unset, .unset, .unset, .unset, .unset] [])) _
    refine XS.iloadN X0.here hx rfl (hb hby at_18) rfl ?_
    show Steps p.tables e below (s₁.setTop (mkF m 19 #[.val (.int p1), .val (.int p2), .val (.int p3), .val (.int p4), .val (.int p5), .val (.long q6), .second, .val (.int (p1 &&& (2147483647 : Int32))), .val (.int (p2 &&& (2147483647 : Int32))), .val (.int (p3 &&& (2147483647 : Int32))), .unset, .unset, .unset, .unset, .unset, .unset, .unset] [(.int p4)])) _
    refine X0.ldcInt hx hown (mvT hZ (hw _ (List.mem_of_getElem? (i := 0) rfl))) (g := (mkF m 19 #[.val (.int p1), .val (.int p2), .val (.int p3), .val (.int p4), .val (.int p5), .val (.long q6), .second, .val (.int (p1 &&& (2147483647 : Int32))), .val (.int (p2 &&& (2147483647 : Int32))), .val (.int (p3 &&& (2147483647 : Int32))), .unset, .unset, .unset, .unset, .unset, .unset, .unset] [(.int p4)])) rfl (hb hby at_19) _ ?_
    show Steps p.tables e below (s₁.setTop (mkF m 21 #[.val (.int p1), .val (.int p2), .val (.int p3), .val (.int p4), .val (.int p5), .val (.long q6), .second, .val (.int (p1 &&& (2147483647 : Int32))), .val (.int (p2 &&& (2147483647 : Int32))), .val (.int (p3 &&& (2147483647 : Int32))), .unset, .unset, .unset, .unset, .unset, .unset, .unset] [(.int (2147483647 : Int32)), (.int p4)])) _
    refine XS.iand X0.here hx rfl (hb hby at_21) rfl ?_
    show Steps p.tables e below (s₁.setTop (mkF m 22 #[.val (.int p1), .val (.int p2), .val (.int p3), .val (.int p4), .val (.int p5), .val (.long q6), .second, .val (.int (p1 &&& (2147483647 : Int32))), .val (.int (p2 &&& (2147483647 : Int32))), .val (.int (p3 &&& (2147483647 : Int32))), .unset, .unset, .unset, .unset, .unset, .unset, .unset] [(.int (p4 &&& (2147483647 : Int32)))])) _
    refine XS.istore X0.here hx rfl (hb hby at_22) rfl (l' := #[.val (.int p1), .val (.int p2), .val (.int p3), .val (.int p4), .val (.int p5), .val (.long q6), .second, .val (.int (p1 &&& (2147483647 : Int32))), .val (.int (p2 &&& (2147483647 : Int32))), .val (.int (p3 &&& (2147483647 : Int32))), .val (.int (p4 &&& (2147483647 : Int32))), .unset, .unset, .unset, .unset, .unset, .unset]) rfl ?_
    show Steps p.tables e below (s₁.setTop (mkF m 24 #[.val (.int p1), .val (.int p2), .val (.int p3), .val (.int p4), .val (.int p5), .val (.long q6), .second, .val (.int (p1 &&& (2147483647 : Int32))), .val (.int (p2 &&& (2147483647 : Int32))), .val (.int (p3 &&& (2147483647 : Int32))), .val (.int (p4 &&& (2147483647 : Int32))), .unset, .unset, .unset, .unset, .unset, .unset] [])) _
    refine XS.iload X0.here hx rfl (hb hby at_24) rfl ?_
    show Steps p.tables e below (s₁.setTop (mkF m 26 #[.val (.int p1), .val (.int p2), .val (.int p3), .val (.int p4), .val (.int p5), .val (.long q6), .second, .val (.int (p1 &&& (2147483647 : Int32))), .val (.int (p2 &&& (2147483647 : Int32))), .val (.int (p3 &&& (2147483647 : Int32))), .val (.int (p4 &&& (2147483647 : Int32))), .unset, .unset, .unset, .unset, .unset, .unset] [(.int p5)])) _
    refine X0.ldcInt hx hown (mvT hZ (hw _ (List.mem_of_getElem? (i := 0) rfl))) (g := (mkF m 26 #[.val (.int p1), .val (.int p2), .val (.int p3), .val (.int p4), .val (.int p5), .val (.long q6), .second, .val (.int (p1 &&& (2147483647 : Int32))), .val (.int (p2 &&& (2147483647 : Int32))), .val (.int (p3 &&& (2147483647 : Int32))), .val (.int (p4 &&& (2147483647 : Int32))), .unset, .unset, .unset, .unset, .unset, .unset] [(.int p5)])) rfl (hb hby at_26) _ ?_
    show Steps p.tables e below (s₁.setTop (mkF m 28 #[.val (.int p1), .val (.int p2), .val (.int p3), .val (.int p4), .val (.int p5), .val (.long q6), .second, .val (.int (p1 &&& (2147483647 : Int32))), .val (.int (p2 &&& (2147483647 : Int32))), .val (.int (p3 &&& (2147483647 : Int32))), .val (.int (p4 &&& (2147483647 : Int32))), .unset, .unset, .unset, .unset, .unset, .unset] [(.int (2147483647 : Int32)), (.int p5)])) _
    refine XS.iand X0.here hx rfl (hb hby at_28) rfl ?_
    show Steps p.tables e below (s₁.setTop (mkF m 29 #[.val (.int p1), .val (.int p2), .val (.int p3), .val (.int p4), .val (.int p5), .val (.long q6), .second, .val (.int (p1 &&& (2147483647 : Int32))), .val (.int (p2 &&& (2147483647 : Int32))), .val (.int (p3 &&& (2147483647 : Int32))), .val (.int (p4 &&& (2147483647 : Int32))), .unset, .unset, .unset, .unset, .unset, .unset] [(.int (p5 &&& (2147483647 : Int32)))])) _
    refine XS.istore X0.here hx rfl (hb hby at_29) rfl (l' := #[.val (.int p1), .val (.int p2), .val (.int p3), .val (.int p4), .val (.int p5), .val (.long q6), .second, .val (.int (p1 &&& (2147483647 : Int32))), .val (.int (p2 &&& (2147483647 : Int32))), .val (.int (p3 &&& (2147483647 : Int32))), .val (.int (p4 &&& (2147483647 : Int32))), .val (.int (p5 &&& (2147483647 : Int32))), .unset, .unset, .unset, .unset, .unset]) rfl ?_
    show Steps p.tables e below (s₁.setTop (mkF m 31 #[.val (.int p1), .val (.int p2), .val (.int p3), .val (.int p4), .val (.int p5), .val (.long q6), .second, .val (.int (p1 &&& (2147483647 : Int32))), .val (.int (p2 &&& (2147483647 : Int32))), .val (.int (p3 &&& (2147483647 : Int32))), .val (.int (p4 &&& (2147483647 : Int32))), .val (.int (p5 &&& (2147483647 : Int32))), .unset, .unset, .unset, .unset, .unset] [])) _
    refine XS.lload X0.here hx rfl (hb hby at_31) rfl ?_
    show Steps p.tables e below (s₁.setTop (mkF m 33 #[.val (.int p1), .val (.int p2), .val (.int p3), .val (.int p4), .val (.int p5), .val (.long q6), .second, .val (.int (p1 &&& (2147483647 : Int32))), .val (.int (p2 &&& (2147483647 : Int32))), .val (.int (p3 &&& (2147483647 : Int32))), .val (.int (p4 &&& (2147483647 : Int32))), .val (.int (p5 &&& (2147483647 : Int32))), .unset, .unset, .unset, .unset, .unset] [(.long q6)])) _
    refine XS.bipush X0.here hx rfl (hb hby at_33) ?_
    show Steps p.tables e below (s₁.setTop (mkF m 35 #[.val (.int p1), .val (.int p2), .val (.int p3), .val (.int p4), .val (.int p5), .val (.long q6), .second, .val (.int (p1 &&& (2147483647 : Int32))), .val (.int (p2 &&& (2147483647 : Int32))), .val (.int (p3 &&& (2147483647 : Int32))), .val (.int (p4 &&& (2147483647 : Int32))), .val (.int (p5 &&& (2147483647 : Int32))), .unset, .unset, .unset, .unset, .unset] [(.int (32 : Int32)), (.long q6)])) _
    refine XS.lushr X0.here hx rfl (hb hby at_35) rfl ?_
    show Steps p.tables e below (s₁.setTop (mkF m 36 #[.val (.int p1), .val (.int p2), .val (.int p3), .val (.int p4), .val (.int p5), .val (.long q6), .second, .val (.int (p1 &&& (2147483647 : Int32))), .val (.int (p2 &&& (2147483647 : Int32))), .val (.int (p3 &&& (2147483647 : Int32))), .val (.int (p4 &&& (2147483647 : Int32))), .val (.int (p5 &&& (2147483647 : Int32))), .unset, .unset, .unset, .unset, .unset] [(.long ((q6.toUInt64 >>> ((32 : Int32) &&& 0x3f).toInt64.toUInt64).toInt64))])) _
    refine XS.l2i X0.here hx rfl (hb hby at_36) rfl ?_
    show Steps p.tables e below (s₁.setTop (mkF m 37 #[.val (.int p1), .val (.int p2), .val (.int p3), .val (.int p4), .val (.int p5), .val (.long q6), .second, .val (.int (p1 &&& (2147483647 : Int32))), .val (.int (p2 &&& (2147483647 : Int32))), .val (.int (p3 &&& (2147483647 : Int32))), .val (.int (p4 &&& (2147483647 : Int32))), .val (.int (p5 &&& (2147483647 : Int32))), .unset, .unset, .unset, .unset, .unset] [(.int (((q6.toUInt64 >>> ((32 : Int32) &&& 0x3f).toInt64.toUInt64).toInt64).toInt32))])) _
    refine XS.bipush X0.here hx rfl (hb hby at_37) ?_
    show Steps p.tables e below (s₁.setTop (mkF m 39 #[.val (.int p1), .val (.int p2), .val (.int p3), .val (.int p4), .val (.int p5), .val (.long q6), .second, .val (.int (p1 &&& (2147483647 : Int32))), .val (.int (p2 &&& (2147483647 : Int32))), .val (.int (p3 &&& (2147483647 : Int32))), .val (.int (p4 &&& (2147483647 : Int32))), .val (.int (p5 &&& (2147483647 : Int32))), .unset, .unset, .unset, .unset, .unset] [(.int (7 : Int32)), (.int (((q6.toUInt64 >>> ((32 : Int32) &&& 0x3f).toInt64.toUInt64).toInt64).toInt32))])) _
    refine XS.iand X0.here hx rfl (hb hby at_39) rfl ?_
    show Steps p.tables e below (s₁.setTop (mkF m 40 #[.val (.int p1), .val (.int p2), .val (.int p3), .val (.int p4), .val (.int p5), .val (.long q6), .second, .val (.int (p1 &&& (2147483647 : Int32))), .val (.int (p2 &&& (2147483647 : Int32))), .val (.int (p3 &&& (2147483647 : Int32))), .val (.int (p4 &&& (2147483647 : Int32))), .val (.int (p5 &&& (2147483647 : Int32))), .unset, .unset, .unset, .unset, .unset] [(.int ((((q6.toUInt64 >>> ((32 : Int32) &&& 0x3f).toInt64.toUInt64).toInt64).toInt32) &&& (7 : Int32)))])) _
    refine XS.bipush X0.here hx rfl (hb hby at_40) ?_
    show Steps p.tables e below (s₁.setTop (mkF m 42 #[.val (.int p1), .val (.int p2), .val (.int p3), .val (.int p4), .val (.int p5), .val (.long q6), .second, .val (.int (p1 &&& (2147483647 : Int32))), .val (.int (p2 &&& (2147483647 : Int32))), .val (.int (p3 &&& (2147483647 : Int32))), .val (.int (p4 &&& (2147483647 : Int32))), .val (.int (p5 &&& (2147483647 : Int32))), .unset, .unset, .unset, .unset, .unset] [(.int (6 : Int32)), (.int ((((q6.toUInt64 >>> ((32 : Int32) &&& 0x3f).toInt64.toUInt64).toInt64).toInt32) &&& (7 : Int32)))])) _
    refine iremM X0 hx rfl (hb hby at_42) rfl (by decide) ?_
    show Steps p.tables e below (s₁.setTop (mkF m 43 #[.val (.int p1), .val (.int p2), .val (.int p3), .val (.int p4), .val (.int p5), .val (.long q6), .second, .val (.int (p1 &&& (2147483647 : Int32))), .val (.int (p2 &&& (2147483647 : Int32))), .val (.int (p3 &&& (2147483647 : Int32))), .val (.int (p4 &&& (2147483647 : Int32))), .val (.int (p5 &&& (2147483647 : Int32))), .unset, .unset, .unset, .unset, .unset] [(.int (((((q6.toUInt64 >>> ((32 : Int32) &&& 0x3f).toInt64.toUInt64).toInt64).toInt32) &&& (7 : Int32)) % (6 : Int32)))])) _
    refine XS.istore X0.here hx rfl (hb hby at_43) rfl (l' := #[.val (.int p1), .val (.int p2), .val (.int p3), .val (.int p4), .val (.int p5), .val (.long q6), .second, .val (.int (p1 &&& (2147483647 : Int32))), .val (.int (p2 &&& (2147483647 : Int32))), .val (.int (p3 &&& (2147483647 : Int32))), .val (.int (p4 &&& (2147483647 : Int32))), .val (.int (p5 &&& (2147483647 : Int32))), .val (.int (((((q6.toUInt64 >>> ((32 : Int32) &&& 0x3f).toInt64.toUInt64).toInt64).toInt32) &&& (7 : Int32)) % (6 : Int32))), .unset, .unset, .unset, .unset]) rfl ?_
    show Steps p.tables e below (s₁.setTop (mkF m 45 #[.val (.int p1), .val (.int p2), .val (.int p3), .val (.int p4), .val (.int p5), .val (.long q6), .second, .val (.int (p1 &&& (2147483647 : Int32))), .val (.int (p2 &&& (2147483647 : Int32))), .val (.int (p3 &&& (2147483647 : Int32))), .val (.int (p4 &&& (2147483647 : Int32))), .val (.int (p5 &&& (2147483647 : Int32))), .val (.int (((((q6.toUInt64 >>> ((32 : Int32) &&& 0x3f).toInt64.toUInt64).toInt64).toInt32) &&& (7 : Int32)) % (6 : Int32))), .unset, .unset, .unset, .unset] [])) _
    refine XS.lload X0.here hx rfl (hb hby at_45) rfl ?_
    show Steps p.tables e below (s₁.setTop (mkF m 47 #[.val (.int p1), .val (.int p2), .val (.int p3), .val (.int p4), .val (.int p5), .val (.long q6), .second, .val (.int (p1 &&& (2147483647 : Int32))), .val (.int (p2 &&& (2147483647 : Int32))), .val (.int (p3 &&& (2147483647 : Int32))), .val (.int (p4 &&& (2147483647 : Int32))), .val (.int (p5 &&& (2147483647 : Int32))), .val (.int (((((q6.toUInt64 >>> ((32 : Int32) &&& 0x3f).toInt64.toUInt64).toInt64).toInt32) &&& (7 : Int32)) % (6 : Int32))), .unset, .unset, .unset, .unset] [(.long q6)])) _
    refine XS.bipush X0.here hx rfl (hb hby at_47) ?_
    show Steps p.tables e below (s₁.setTop (mkF m 49 #[.val (.int p1), .val (.int p2), .val (.int p3), .val (.int p4), .val (.int p5), .val (.long q6), .second, .val (.int (p1 &&& (2147483647 : Int32))), .val (.int (p2 &&& (2147483647 : Int32))), .val (.int (p3 &&& (2147483647 : Int32))), .val (.int (p4 &&& (2147483647 : Int32))), .val (.int (p5 &&& (2147483647 : Int32))), .val (.int (((((q6.toUInt64 >>> ((32 : Int32) &&& 0x3f).toInt64.toUInt64).toInt64).toInt32) &&& (7 : Int32)) % (6 : Int32))), .unset, .unset, .unset, .unset] [(.int (35 : Int32)), (.long q6)])) _
    refine XS.lushr X0.here hx rfl (hb hby at_49) rfl ?_
    show Steps p.tables e below (s₁.setTop (mkF m 50 #[.val (.int p1), .val (.int p2), .val (.int p3), .val (.int p4), .val (.int p5), .val (.long q6), .second, .val (.int (p1 &&& (2147483647 : Int32))), .val (.int (p2 &&& (2147483647 : Int32))), .val (.int (p3 &&& (2147483647 : Int32))), .val (.int (p4 &&& (2147483647 : Int32))), .val (.int (p5 &&& (2147483647 : Int32))), .val (.int (((((q6.toUInt64 >>> ((32 : Int32) &&& 0x3f).toInt64.toUInt64).toInt64).toInt32) &&& (7 : Int32)) % (6 : Int32))), .unset, .unset, .unset, .unset] [(.long ((q6.toUInt64 >>> ((35 : Int32) &&& 0x3f).toInt64.toUInt64).toInt64))])) _
    refine XS.l2i X0.here hx rfl (hb hby at_50) rfl ?_
    show Steps p.tables e below (s₁.setTop (mkF m 51 #[.val (.int p1), .val (.int p2), .val (.int p3), .val (.int p4), .val (.int p5), .val (.long q6), .second, .val (.int (p1 &&& (2147483647 : Int32))), .val (.int (p2 &&& (2147483647 : Int32))), .val (.int (p3 &&& (2147483647 : Int32))), .val (.int (p4 &&& (2147483647 : Int32))), .val (.int (p5 &&& (2147483647 : Int32))), .val (.int (((((q6.toUInt64 >>> ((32 : Int32) &&& 0x3f).toInt64.toUInt64).toInt64).toInt32) &&& (7 : Int32)) % (6 : Int32))), .unset, .unset, .unset, .unset] [(.int (((q6.toUInt64 >>> ((35 : Int32) &&& 0x3f).toInt64.toUInt64).toInt64).toInt32))])) _
    refine XS.bipush X0.here hx rfl (hb hby at_51) ?_
    show Steps p.tables e below (s₁.setTop (mkF m 53 #[.val (.int p1), .val (.int p2), .val (.int p3), .val (.int p4), .val (.int p5), .val (.long q6), .second, .val (.int (p1 &&& (2147483647 : Int32))), .val (.int (p2 &&& (2147483647 : Int32))), .val (.int (p3 &&& (2147483647 : Int32))), .val (.int (p4 &&& (2147483647 : Int32))), .val (.int (p5 &&& (2147483647 : Int32))), .val (.int (((((q6.toUInt64 >>> ((32 : Int32) &&& 0x3f).toInt64.toUInt64).toInt64).toInt32) &&& (7 : Int32)) % (6 : Int32))), .unset, .unset, .unset, .unset] [(.int (7 : Int32)), (.int (((q6.toUInt64 >>> ((35 : Int32) &&& 0x3f).toInt64.toUInt64).toInt64).toInt32))])) _
    refine XS.iand X0.here hx rfl (hb hby at_53) rfl ?_
    show Steps p.tables e below (s₁.setTop (mkF m 54 #[.val (.int p1), .val (.int p2), .val (.int p3), .val (.int p4), .val (.int p5), .val (.long q6), .second, .val (.int (p1 &&& (2147483647 : Int32))), .val (.int (p2 &&& (2147483647 : Int32))), .val (.int (p3 &&& (2147483647 : Int32))), .val (.int (p4 &&& (2147483647 : Int32))), .val (.int (p5 &&& (2147483647 : Int32))), .val (.int (((((q6.toUInt64 >>> ((32 : Int32) &&& 0x3f).toInt64.toUInt64).toInt64).toInt32) &&& (7 : Int32)) % (6 : Int32))), .unset, .unset, .unset, .unset] [(.int ((((q6.toUInt64 >>> ((35 : Int32) &&& 0x3f).toInt64.toUInt64).toInt64).toInt32) &&& (7 : Int32)))])) _
    refine XS.istore X0.here hx rfl (hb hby at_54) rfl (l' := #[.val (.int p1), .val (.int p2), .val (.int p3), .val (.int p4), .val (.int p5), .val (.long q6), .second, .val (.int (p1 &&& (2147483647 : Int32))), .val (.int (p2 &&& (2147483647 : Int32))), .val (.int (p3 &&& (2147483647 : Int32))), .val (.int (p4 &&& (2147483647 : Int32))), .val (.int (p5 &&& (2147483647 : Int32))), .val (.int (((((q6.toUInt64 >>> ((32 : Int32) &&& 0x3f).toInt64.toUInt64).toInt64).toInt32) &&& (7 : Int32)) % (6 : Int32))), .val (.int ((((q6.toUInt64 >>> ((35 : Int32) &&& 0x3f).toInt64.toUInt64).toInt64).toInt32) &&& (7 : Int32))), .unset, .unset, .unset]) rfl ?_
    show Steps p.tables e below (s₁.setTop (mkF m 56 #[.val (.int p1), .val (.int p2), .val (.int p3), .val (.int p4), .val (.int p5), .val (.long q6), .second, .val (.int (p1 &&& (2147483647 : Int32))), .val (.int (p2 &&& (2147483647 : Int32))), .val (.int (p3 &&& (2147483647 : Int32))), .val (.int (p4 &&& (2147483647 : Int32))), .val (.int (p5 &&& (2147483647 : Int32))), .val (.int (((((q6.toUInt64 >>> ((32 : Int32) &&& 0x3f).toInt64.toUInt64).toInt64).toInt32) &&& (7 : Int32)) % (6 : Int32))), .val (.int ((((q6.toUInt64 >>> ((35 : Int32) &&& 0x3f).toInt64.toUInt64).toInt64).toInt32) &&& (7 : Int32))), .unset, .unset, .unset] [])) _
    refine XS.lload X0.here hx rfl (hb hby at_56) rfl ?_
    show Steps p.tables e below (s₁.setTop (mkF m 58 #[.val (.int p1), .val (.int p2), .val (.int p3), .val (.int p4), .val (.int p5), .val (.long q6), .second, .val (.int (p1 &&& (2147483647 : Int32))), .val (.int (p2 &&& (2147483647 : Int32))), .val (.int (p3 &&& (2147483647 : Int32))), .val (.int (p4 &&& (2147483647 : Int32))), .val (.int (p5 &&& (2147483647 : Int32))), .val (.int (((((q6.toUInt64 >>> ((32 : Int32) &&& 0x3f).toInt64.toUInt64).toInt64).toInt32) &&& (7 : Int32)) % (6 : Int32))), .val (.int ((((q6.toUInt64 >>> ((35 : Int32) &&& 0x3f).toInt64.toUInt64).toInt64).toInt32) &&& (7 : Int32))), .unset, .unset, .unset] [(.long q6)])) _
    refine XS.l2i X0.here hx rfl (hb hby at_58) rfl ?_
    show Steps p.tables e below (s₁.setTop (mkF m 59 #[.val (.int p1), .val (.int p2), .val (.int p3), .val (.int p4), .val (.int p5), .val (.long q6), .second, .val (.int (p1 &&& (2147483647 : Int32))), .val (.int (p2 &&& (2147483647 : Int32))), .val (.int (p3 &&& (2147483647 : Int32))), .val (.int (p4 &&& (2147483647 : Int32))), .val (.int (p5 &&& (2147483647 : Int32))), .val (.int (((((q6.toUInt64 >>> ((32 : Int32) &&& 0x3f).toInt64.toUInt64).toInt64).toInt32) &&& (7 : Int32)) % (6 : Int32))), .val (.int ((((q6.toUInt64 >>> ((35 : Int32) &&& 0x3f).toInt64.toUInt64).toInt64).toInt32) &&& (7 : Int32))), .unset, .unset, .unset] [(.int (q6.toInt32))])) _
    refine X0.ldcInt hx hown (mvT hZ (hw _ (List.mem_of_getElem? (i := 0) rfl))) (g := (mkF m 59 #[.val (.int p1), .val (.int p2), .val (.int p3), .val (.int p4), .val (.int p5), .val (.long q6), .second, .val (.int (p1 &&& (2147483647 : Int32))), .val (.int (p2 &&& (2147483647 : Int32))), .val (.int (p3 &&& (2147483647 : Int32))), .val (.int (p4 &&& (2147483647 : Int32))), .val (.int (p5 &&& (2147483647 : Int32))), .val (.int (((((q6.toUInt64 >>> ((32 : Int32) &&& 0x3f).toInt64.toUInt64).toInt64).toInt32) &&& (7 : Int32)) % (6 : Int32))), .val (.int ((((q6.toUInt64 >>> ((35 : Int32) &&& 0x3f).toInt64.toUInt64).toInt64).toInt32) &&& (7 : Int32))), .unset, .unset, .unset] [(.int (q6.toInt32))])) rfl (hb hby at_59) _ ?_
    show Steps p.tables e below (s₁.setTop (mkF m 61 #[.val (.int p1), .val (.int p2), .val (.int p3), .val (.int p4), .val (.int p5), .val (.long q6), .second, .val (.int (p1 &&& (2147483647 : Int32))), .val (.int (p2 &&& (2147483647 : Int32))), .val (.int (p3 &&& (2147483647 : Int32))), .val (.int (p4 &&& (2147483647 : Int32))), .val (.int (p5 &&& (2147483647 : Int32))), .val (.int (((((q6.toUInt64 >>> ((32 : Int32) &&& 0x3f).toInt64.toUInt64).toInt64).toInt32) &&& (7 : Int32)) % (6 : Int32))), .val (.int ((((q6.toUInt64 >>> ((35 : Int32) &&& 0x3f).toInt64.toUInt64).toInt64).toInt32) &&& (7 : Int32))), .unset, .unset, .unset] [(.int (2147483647 : Int32)), (.int (q6.toInt32))])) _
    refine XS.iand X0.here hx rfl (hb hby at_61) rfl ?_
    show Steps p.tables e below (s₁.setTop (mkF m 62 #[.val (.int p1), .val (.int p2), .val (.int p3), .val (.int p4), .val (.int p5), .val (.long q6), .second, .val (.int (p1 &&& (2147483647 : Int32))), .val (.int (p2 &&& (2147483647 : Int32))), .val (.int (p3 &&& (2147483647 : Int32))), .val (.int (p4 &&& (2147483647 : Int32))), .val (.int (p5 &&& (2147483647 : Int32))), .val (.int (((((q6.toUInt64 >>> ((32 : Int32) &&& 0x3f).toInt64.toUInt64).toInt64).toInt32) &&& (7 : Int32)) % (6 : Int32))), .val (.int ((((q6.toUInt64 >>> ((35 : Int32) &&& 0x3f).toInt64.toUInt64).toInt64).toInt32) &&& (7 : Int32))), .unset, .unset, .unset] [(.int ((q6.toInt32) &&& (2147483647 : Int32)))])) _
    refine XS.istore X0.here hx rfl (hb hby at_62) rfl (l' := #[.val (.int p1), .val (.int p2), .val (.int p3), .val (.int p4), .val (.int p5), .val (.long q6), .second, .val (.int (p1 &&& (2147483647 : Int32))), .val (.int (p2 &&& (2147483647 : Int32))), .val (.int (p3 &&& (2147483647 : Int32))), .val (.int (p4 &&& (2147483647 : Int32))), .val (.int (p5 &&& (2147483647 : Int32))), .val (.int (((((q6.toUInt64 >>> ((32 : Int32) &&& 0x3f).toInt64.toUInt64).toInt64).toInt32) &&& (7 : Int32)) % (6 : Int32))), .val (.int ((((q6.toUInt64 >>> ((35 : Int32) &&& 0x3f).toInt64.toUInt64).toInt64).toInt32) &&& (7 : Int32))), .val (.int ((q6.toInt32) &&& (2147483647 : Int32))), .unset, .unset]) rfl ?_
    exact kt
  obtain ⟨x7, hx7⟩ : ∃ z : Int32, z = (p1 &&& (2147483647 : Int32)) := ⟨_, rfl⟩
  rw [← hx7] at pre1
  obtain ⟨x8, hx8⟩ : ∃ z : Int32, z = (p2 &&& (2147483647 : Int32)) := ⟨_, rfl⟩
  rw [← hx8] at pre1
  obtain ⟨x9, hx9⟩ : ∃ z : Int32, z = (p3 &&& (2147483647 : Int32)) := ⟨_, rfl⟩
  rw [← hx9] at pre1
  obtain ⟨x10, hx10⟩ : ∃ z : Int32, z = (p4 &&& (2147483647 : Int32)) := ⟨_, rfl⟩
  rw [← hx10] at pre1
  obtain ⟨x11, hx11⟩ : ∃ z : Int32, z = (p5 &&& (2147483647 : Int32)) := ⟨_, rfl⟩
  rw [← hx11] at pre1
  obtain ⟨x12, hx12⟩ : ∃ z : Int32, z = (((((q6.toUInt64 >>> ((32 : Int32) &&& 0x3f).toInt64.toUInt64).toInt64).toInt32) &&& (7 : Int32)) % (6 : Int32)) := ⟨_, rfl⟩
  rw [← hx12] at pre1
  obtain ⟨x13, hx13⟩ : ∃ z : Int32, z = ((((q6.toUInt64 >>> ((35 : Int32) &&& 0x3f).toInt64.toUInt64).toInt64).toInt32) &&& (7 : Int32)) := ⟨_, rfl⟩
  rw [← hx13] at pre1
  obtain ⟨x14, hx14⟩ : ∃ z : Int32, z = ((q6.toInt32) &&& (2147483647 : Int32)) := ⟨_, rfl⟩
  rw [← hx14] at pre1
  have pre2 : ∀ t, Steps p.tables e below (s₁.setTop (mkF m 66 #[.val (.int p1), .val (.int p2), .val (.int p3), .val (.int p4), .val (.int p5), .val (.long q6), .second, .val (.int x7), .val (.int x8), .val (.int x9), .val (.int x10), .val (.int x11), .val (.int x12), .val (.int x13), .val (.int x14), .unset, .unset] [(.int x13)])) t → Steps p.tables e below (s₁.setTop (entryFrame m #[(.int p1), (.int p2), (.int p3), (.int p4), (.int p5), (.long q6)] maxLocals)) t := fun t kt => by
    refine pre1 t ?_
    show Steps p.tables e below (s₁.setTop (mkF m 64 #[.val (.int p1), .val (.int p2), .val (.int p3), .val (.int p4), .val (.int p5), .val (.long q6), .second, .val (.int x7), .val (.int x8), .val (.int x9), .val (.int x10), .val (.int x11), .val (.int x12), .val (.int x13), .val (.int x14), .unset, .unset] [])) _
    refine XS.iload X0.here hx rfl (hb hby at_64) rfl ?_
    exact kt
  have pre12 : ∀ t, Steps p.tables e below (s₁.setTop (mkF m 125 #[.val (.int p1), .val (.int p2), .val (.int p3), .val (.int p4), .val (.int p5), .val (.long q6), .second, .val (.int x7), .val (.int x8), .val (.int x9), .val (.int x10), .val (.int x11), .val (.int x12), .val (.int x13), .val (.int (if x13 = (0 : Int32) then x7 else (if x13 = (1 : Int32) then x8 else (if x13 = (2 : Int32) then x9 else (if x13 = (3 : Int32) then x10 else (if x13 = (4 : Int32) then x11 else x14)))))), .unset, .unset] [])) t → Steps p.tables e below (s₁.setTop (entryFrame m #[(.int p1), (.int p2), (.int p3), (.int p4), (.int p5), (.long q6)] maxLocals)) t := by
    by_cases hc3 : x13 = (0 : Int32)
    · refine fun t kt => pre2 t ?_
      repeat rw [if_pos hc3] at kt
      show Steps p.tables e below (s₁.setTop (mkF m 66 #[.val (.int p1), .val (.int p2), .val (.int p3), .val (.int p4), .val (.int p5), .val (.long q6), .second, .val (.int x7), .val (.int x8), .val (.int x9), .val (.int x10), .val (.int x11), .val (.int x12), .val (.int x13), .val (.int x14), .unset, .unset] [(.int x13)])) _
      refine XS.ifNo X0.here hx rfl (hb hby at_66) rfl ((if0 _ _).trans (teq hc3).2) ?_
      show Steps p.tables e below (s₁.setTop (mkF m 69 #[.val (.int p1), .val (.int p2), .val (.int p3), .val (.int p4), .val (.int p5), .val (.long q6), .second, .val (.int x7), .val (.int x8), .val (.int x9), .val (.int x10), .val (.int x11), .val (.int x12), .val (.int x13), .val (.int x14), .unset, .unset] [])) _
      refine XS.iload X0.here hx rfl (hb hby at_69) rfl ?_
      show Steps p.tables e below (s₁.setTop (mkF m 71 #[.val (.int p1), .val (.int p2), .val (.int p3), .val (.int p4), .val (.int p5), .val (.long q6), .second, .val (.int x7), .val (.int x8), .val (.int x9), .val (.int x10), .val (.int x11), .val (.int x12), .val (.int x13), .val (.int x14), .unset, .unset] [(.int x7)])) _
      refine XS.istore X0.here hx rfl (hb hby at_71) rfl (l' := #[.val (.int p1), .val (.int p2), .val (.int p3), .val (.int p4), .val (.int p5), .val (.long q6), .second, .val (.int x7), .val (.int x8), .val (.int x9), .val (.int x10), .val (.int x11), .val (.int x12), .val (.int x13), .val (.int x7), .unset, .unset]) rfl ?_
      show Steps p.tables e below (s₁.setTop (mkF m 73 #[.val (.int p1), .val (.int p2), .val (.int p3), .val (.int p4), .val (.int p5), .val (.long q6), .second, .val (.int x7), .val (.int x8), .val (.int x9), .val (.int x10), .val (.int x11), .val (.int x12), .val (.int x13), .val (.int x7), .unset, .unset] [])) _
      refine XS.goto X0.here hx rfl (pc0 := 73) (pc' := 125) rfl (hb hby at_73) (by decide) (by decide) ?_
      exact kt
    · have pre4 : ∀ t, Steps p.tables e below (s₁.setTop (mkF m 79 #[.val (.int p1), .val (.int p2), .val (.int p3), .val (.int p4), .val (.int p5), .val (.long q6), .second, .val (.int x7), .val (.int x8), .val (.int x9), .val (.int x10), .val (.int x11), .val (.int x12), .val (.int x13), .val (.int x14), .unset, .unset] [(.int (1 : Int32)), (.int x13)])) t → Steps p.tables e below (s₁.setTop (entryFrame m #[(.int p1), (.int p2), (.int p3), (.int p4), (.int p5), (.long q6)] maxLocals)) t := fun t kt => by
        refine pre2 t ?_
        show Steps p.tables e below (s₁.setTop (mkF m 66 #[.val (.int p1), .val (.int p2), .val (.int p3), .val (.int p4), .val (.int p5), .val (.long q6), .second, .val (.int x7), .val (.int x8), .val (.int x9), .val (.int x10), .val (.int x11), .val (.int x12), .val (.int x13), .val (.int x14), .unset, .unset] [(.int x13)])) _
        refine XS.ifYes X0.here hx rfl (pc0 := 66) (pc' := 76) rfl (hb hby at_66) rfl ((if0 _ _).trans (feq hc3).2) (by decide) (by decide) ?_
        show Steps p.tables e below (s₁.setTop (mkF m 76 #[.val (.int p1), .val (.int p2), .val (.int p3), .val (.int p4), .val (.int p5), .val (.long q6), .second, .val (.int x7), .val (.int x8), .val (.int x9), .val (.int x10), .val (.int x11), .val (.int x12), .val (.int x13), .val (.int x14), .unset, .unset] [])) _
        refine XS.iload X0.here hx rfl (hb hby at_76) rfl ?_
        show Steps p.tables e below (s₁.setTop (mkF m 78 #[.val (.int p1), .val (.int p2), .val (.int p3), .val (.int p4), .val (.int p5), .val (.long q6), .second, .val (.int x7), .val (.int x8), .val (.int x9), .val (.int x10), .val (.int x11), .val (.int x12), .val (.int x13), .val (.int x14), .unset, .unset] [(.int x13)])) _
        refine XS.iconst X0.here hx rfl (hb hby at_78) ?_
        exact kt
      by_cases hc5 : x13 = (1 : Int32)
      · refine fun t kt => pre4 t ?_
        repeat rw [if_neg hc3] at kt
        repeat rw [if_pos hc5] at kt
        show Steps p.tables e below (s₁.setTop (mkF m 79 #[.val (.int p1), .val (.int p2), .val (.int p3), .val (.int p4), .val (.int p5), .val (.long q6), .second, .val (.int x7), .val (.int x8), .val (.int x9), .val (.int x10), .val (.int x11), .val (.int x12), .val (.int x13), .val (.int x14), .unset, .unset] [(.int (1 : Int32)), (.int x13)])) _
        refine XS.icmpNo X0.here hx rfl (hb hby at_79) rfl (teq hc5).2 ?_
        show Steps p.tables e below (s₁.setTop (mkF m 82 #[.val (.int p1), .val (.int p2), .val (.int p3), .val (.int p4), .val (.int p5), .val (.long q6), .second, .val (.int x7), .val (.int x8), .val (.int x9), .val (.int x10), .val (.int x11), .val (.int x12), .val (.int x13), .val (.int x14), .unset, .unset] [])) _
        refine XS.iload X0.here hx rfl (hb hby at_82) rfl ?_
        show Steps p.tables e below (s₁.setTop (mkF m 84 #[.val (.int p1), .val (.int p2), .val (.int p3), .val (.int p4), .val (.int p5), .val (.long q6), .second, .val (.int x7), .val (.int x8), .val (.int x9), .val (.int x10), .val (.int x11), .val (.int x12), .val (.int x13), .val (.int x14), .unset, .unset] [(.int x8)])) _
        refine XS.istore X0.here hx rfl (hb hby at_84) rfl (l' := #[.val (.int p1), .val (.int p2), .val (.int p3), .val (.int p4), .val (.int p5), .val (.long q6), .second, .val (.int x7), .val (.int x8), .val (.int x9), .val (.int x10), .val (.int x11), .val (.int x12), .val (.int x13), .val (.int x8), .unset, .unset]) rfl ?_
        show Steps p.tables e below (s₁.setTop (mkF m 86 #[.val (.int p1), .val (.int p2), .val (.int p3), .val (.int p4), .val (.int p5), .val (.long q6), .second, .val (.int x7), .val (.int x8), .val (.int x9), .val (.int x10), .val (.int x11), .val (.int x12), .val (.int x13), .val (.int x8), .unset, .unset] [])) _
        refine XS.goto X0.here hx rfl (pc0 := 86) (pc' := 125) rfl (hb hby at_86) (by decide) (by decide) ?_
        exact kt
      · have pre6 : ∀ t, Steps p.tables e below (s₁.setTop (mkF m 92 #[.val (.int p1), .val (.int p2), .val (.int p3), .val (.int p4), .val (.int p5), .val (.long q6), .second, .val (.int x7), .val (.int x8), .val (.int x9), .val (.int x10), .val (.int x11), .val (.int x12), .val (.int x13), .val (.int x14), .unset, .unset] [(.int (2 : Int32)), (.int x13)])) t → Steps p.tables e below (s₁.setTop (entryFrame m #[(.int p1), (.int p2), (.int p3), (.int p4), (.int p5), (.long q6)] maxLocals)) t := fun t kt => by
          refine pre4 t ?_
          show Steps p.tables e below (s₁.setTop (mkF m 79 #[.val (.int p1), .val (.int p2), .val (.int p3), .val (.int p4), .val (.int p5), .val (.long q6), .second, .val (.int x7), .val (.int x8), .val (.int x9), .val (.int x10), .val (.int x11), .val (.int x12), .val (.int x13), .val (.int x14), .unset, .unset] [(.int (1 : Int32)), (.int x13)])) _
          refine XS.icmpYes X0.here hx rfl (pc0 := 79) (pc' := 89) rfl (hb hby at_79) rfl (feq hc5).2 (by decide) (by decide) ?_
          show Steps p.tables e below (s₁.setTop (mkF m 89 #[.val (.int p1), .val (.int p2), .val (.int p3), .val (.int p4), .val (.int p5), .val (.long q6), .second, .val (.int x7), .val (.int x8), .val (.int x9), .val (.int x10), .val (.int x11), .val (.int x12), .val (.int x13), .val (.int x14), .unset, .unset] [])) _
          refine XS.iload X0.here hx rfl (hb hby at_89) rfl ?_
          show Steps p.tables e below (s₁.setTop (mkF m 91 #[.val (.int p1), .val (.int p2), .val (.int p3), .val (.int p4), .val (.int p5), .val (.long q6), .second, .val (.int x7), .val (.int x8), .val (.int x9), .val (.int x10), .val (.int x11), .val (.int x12), .val (.int x13), .val (.int x14), .unset, .unset] [(.int x13)])) _
          refine XS.iconst X0.here hx rfl (hb hby at_91) ?_
          exact kt
        by_cases hc7 : x13 = (2 : Int32)
        · refine fun t kt => pre6 t ?_
          repeat rw [if_neg hc3] at kt
          repeat rw [if_neg hc5] at kt
          repeat rw [if_pos hc7] at kt
          show Steps p.tables e below (s₁.setTop (mkF m 92 #[.val (.int p1), .val (.int p2), .val (.int p3), .val (.int p4), .val (.int p5), .val (.long q6), .second, .val (.int x7), .val (.int x8), .val (.int x9), .val (.int x10), .val (.int x11), .val (.int x12), .val (.int x13), .val (.int x14), .unset, .unset] [(.int (2 : Int32)), (.int x13)])) _
          refine XS.icmpNo X0.here hx rfl (hb hby at_92) rfl (teq hc7).2 ?_
          show Steps p.tables e below (s₁.setTop (mkF m 95 #[.val (.int p1), .val (.int p2), .val (.int p3), .val (.int p4), .val (.int p5), .val (.long q6), .second, .val (.int x7), .val (.int x8), .val (.int x9), .val (.int x10), .val (.int x11), .val (.int x12), .val (.int x13), .val (.int x14), .unset, .unset] [])) _
          refine XS.iload X0.here hx rfl (hb hby at_95) rfl ?_
          show Steps p.tables e below (s₁.setTop (mkF m 97 #[.val (.int p1), .val (.int p2), .val (.int p3), .val (.int p4), .val (.int p5), .val (.long q6), .second, .val (.int x7), .val (.int x8), .val (.int x9), .val (.int x10), .val (.int x11), .val (.int x12), .val (.int x13), .val (.int x14), .unset, .unset] [(.int x9)])) _
          refine XS.istore X0.here hx rfl (hb hby at_97) rfl (l' := #[.val (.int p1), .val (.int p2), .val (.int p3), .val (.int p4), .val (.int p5), .val (.long q6), .second, .val (.int x7), .val (.int x8), .val (.int x9), .val (.int x10), .val (.int x11), .val (.int x12), .val (.int x13), .val (.int x9), .unset, .unset]) rfl ?_
          show Steps p.tables e below (s₁.setTop (mkF m 99 #[.val (.int p1), .val (.int p2), .val (.int p3), .val (.int p4), .val (.int p5), .val (.long q6), .second, .val (.int x7), .val (.int x8), .val (.int x9), .val (.int x10), .val (.int x11), .val (.int x12), .val (.int x13), .val (.int x9), .unset, .unset] [])) _
          refine XS.goto X0.here hx rfl (pc0 := 99) (pc' := 125) rfl (hb hby at_99) (by decide) (by decide) ?_
          exact kt
        · have pre8 : ∀ t, Steps p.tables e below (s₁.setTop (mkF m 105 #[.val (.int p1), .val (.int p2), .val (.int p3), .val (.int p4), .val (.int p5), .val (.long q6), .second, .val (.int x7), .val (.int x8), .val (.int x9), .val (.int x10), .val (.int x11), .val (.int x12), .val (.int x13), .val (.int x14), .unset, .unset] [(.int (3 : Int32)), (.int x13)])) t → Steps p.tables e below (s₁.setTop (entryFrame m #[(.int p1), (.int p2), (.int p3), (.int p4), (.int p5), (.long q6)] maxLocals)) t := fun t kt => by
            refine pre6 t ?_
            show Steps p.tables e below (s₁.setTop (mkF m 92 #[.val (.int p1), .val (.int p2), .val (.int p3), .val (.int p4), .val (.int p5), .val (.long q6), .second, .val (.int x7), .val (.int x8), .val (.int x9), .val (.int x10), .val (.int x11), .val (.int x12), .val (.int x13), .val (.int x14), .unset, .unset] [(.int (2 : Int32)), (.int x13)])) _
            refine XS.icmpYes X0.here hx rfl (pc0 := 92) (pc' := 102) rfl (hb hby at_92) rfl (feq hc7).2 (by decide) (by decide) ?_
            show Steps p.tables e below (s₁.setTop (mkF m 102 #[.val (.int p1), .val (.int p2), .val (.int p3), .val (.int p4), .val (.int p5), .val (.long q6), .second, .val (.int x7), .val (.int x8), .val (.int x9), .val (.int x10), .val (.int x11), .val (.int x12), .val (.int x13), .val (.int x14), .unset, .unset] [])) _
            refine XS.iload X0.here hx rfl (hb hby at_102) rfl ?_
            show Steps p.tables e below (s₁.setTop (mkF m 104 #[.val (.int p1), .val (.int p2), .val (.int p3), .val (.int p4), .val (.int p5), .val (.long q6), .second, .val (.int x7), .val (.int x8), .val (.int x9), .val (.int x10), .val (.int x11), .val (.int x12), .val (.int x13), .val (.int x14), .unset, .unset] [(.int x13)])) _
            refine XS.iconst X0.here hx rfl (hb hby at_104) ?_
            exact kt
          by_cases hc9 : x13 = (3 : Int32)
          · refine fun t kt => pre8 t ?_
            repeat rw [if_neg hc3] at kt
            repeat rw [if_neg hc5] at kt
            repeat rw [if_neg hc7] at kt
            repeat rw [if_pos hc9] at kt
            show Steps p.tables e below (s₁.setTop (mkF m 105 #[.val (.int p1), .val (.int p2), .val (.int p3), .val (.int p4), .val (.int p5), .val (.long q6), .second, .val (.int x7), .val (.int x8), .val (.int x9), .val (.int x10), .val (.int x11), .val (.int x12), .val (.int x13), .val (.int x14), .unset, .unset] [(.int (3 : Int32)), (.int x13)])) _
            refine XS.icmpNo X0.here hx rfl (hb hby at_105) rfl (teq hc9).2 ?_
            show Steps p.tables e below (s₁.setTop (mkF m 108 #[.val (.int p1), .val (.int p2), .val (.int p3), .val (.int p4), .val (.int p5), .val (.long q6), .second, .val (.int x7), .val (.int x8), .val (.int x9), .val (.int x10), .val (.int x11), .val (.int x12), .val (.int x13), .val (.int x14), .unset, .unset] [])) _
            refine XS.iload X0.here hx rfl (hb hby at_108) rfl ?_
            show Steps p.tables e below (s₁.setTop (mkF m 110 #[.val (.int p1), .val (.int p2), .val (.int p3), .val (.int p4), .val (.int p5), .val (.long q6), .second, .val (.int x7), .val (.int x8), .val (.int x9), .val (.int x10), .val (.int x11), .val (.int x12), .val (.int x13), .val (.int x14), .unset, .unset] [(.int x10)])) _
            refine XS.istore X0.here hx rfl (hb hby at_110) rfl (l' := #[.val (.int p1), .val (.int p2), .val (.int p3), .val (.int p4), .val (.int p5), .val (.long q6), .second, .val (.int x7), .val (.int x8), .val (.int x9), .val (.int x10), .val (.int x11), .val (.int x12), .val (.int x13), .val (.int x10), .unset, .unset]) rfl ?_
            show Steps p.tables e below (s₁.setTop (mkF m 112 #[.val (.int p1), .val (.int p2), .val (.int p3), .val (.int p4), .val (.int p5), .val (.long q6), .second, .val (.int x7), .val (.int x8), .val (.int x9), .val (.int x10), .val (.int x11), .val (.int x12), .val (.int x13), .val (.int x10), .unset, .unset] [])) _
            refine XS.goto X0.here hx rfl (pc0 := 112) (pc' := 125) rfl (hb hby at_112) (by decide) (by decide) ?_
            exact kt
          · have pre10 : ∀ t, Steps p.tables e below (s₁.setTop (mkF m 118 #[.val (.int p1), .val (.int p2), .val (.int p3), .val (.int p4), .val (.int p5), .val (.long q6), .second, .val (.int x7), .val (.int x8), .val (.int x9), .val (.int x10), .val (.int x11), .val (.int x12), .val (.int x13), .val (.int x14), .unset, .unset] [(.int (4 : Int32)), (.int x13)])) t → Steps p.tables e below (s₁.setTop (entryFrame m #[(.int p1), (.int p2), (.int p3), (.int p4), (.int p5), (.long q6)] maxLocals)) t := fun t kt => by
              refine pre8 t ?_
              show Steps p.tables e below (s₁.setTop (mkF m 105 #[.val (.int p1), .val (.int p2), .val (.int p3), .val (.int p4), .val (.int p5), .val (.long q6), .second, .val (.int x7), .val (.int x8), .val (.int x9), .val (.int x10), .val (.int x11), .val (.int x12), .val (.int x13), .val (.int x14), .unset, .unset] [(.int (3 : Int32)), (.int x13)])) _
              refine XS.icmpYes X0.here hx rfl (pc0 := 105) (pc' := 115) rfl (hb hby at_105) rfl (feq hc9).2 (by decide) (by decide) ?_
              show Steps p.tables e below (s₁.setTop (mkF m 115 #[.val (.int p1), .val (.int p2), .val (.int p3), .val (.int p4), .val (.int p5), .val (.long q6), .second, .val (.int x7), .val (.int x8), .val (.int x9), .val (.int x10), .val (.int x11), .val (.int x12), .val (.int x13), .val (.int x14), .unset, .unset] [])) _
              refine XS.iload X0.here hx rfl (hb hby at_115) rfl ?_
              show Steps p.tables e below (s₁.setTop (mkF m 117 #[.val (.int p1), .val (.int p2), .val (.int p3), .val (.int p4), .val (.int p5), .val (.long q6), .second, .val (.int x7), .val (.int x8), .val (.int x9), .val (.int x10), .val (.int x11), .val (.int x12), .val (.int x13), .val (.int x14), .unset, .unset] [(.int x13)])) _
              refine XS.iconst X0.here hx rfl (hb hby at_117) ?_
              exact kt
            by_cases hc11 : x13 = (4 : Int32)
            · refine fun t kt => pre10 t ?_
              repeat rw [if_neg hc3] at kt
              repeat rw [if_neg hc5] at kt
              repeat rw [if_neg hc7] at kt
              repeat rw [if_neg hc9] at kt
              repeat rw [if_pos hc11] at kt
              show Steps p.tables e below (s₁.setTop (mkF m 118 #[.val (.int p1), .val (.int p2), .val (.int p3), .val (.int p4), .val (.int p5), .val (.long q6), .second, .val (.int x7), .val (.int x8), .val (.int x9), .val (.int x10), .val (.int x11), .val (.int x12), .val (.int x13), .val (.int x14), .unset, .unset] [(.int (4 : Int32)), (.int x13)])) _
              refine XS.icmpNo X0.here hx rfl (hb hby at_118) rfl (teq hc11).2 ?_
              show Steps p.tables e below (s₁.setTop (mkF m 121 #[.val (.int p1), .val (.int p2), .val (.int p3), .val (.int p4), .val (.int p5), .val (.long q6), .second, .val (.int x7), .val (.int x8), .val (.int x9), .val (.int x10), .val (.int x11), .val (.int x12), .val (.int x13), .val (.int x14), .unset, .unset] [])) _
              refine XS.iload X0.here hx rfl (hb hby at_121) rfl ?_
              show Steps p.tables e below (s₁.setTop (mkF m 123 #[.val (.int p1), .val (.int p2), .val (.int p3), .val (.int p4), .val (.int p5), .val (.long q6), .second, .val (.int x7), .val (.int x8), .val (.int x9), .val (.int x10), .val (.int x11), .val (.int x12), .val (.int x13), .val (.int x14), .unset, .unset] [(.int x11)])) _
              refine XS.istore X0.here hx rfl (hb hby at_123) rfl (l' := #[.val (.int p1), .val (.int p2), .val (.int p3), .val (.int p4), .val (.int p5), .val (.long q6), .second, .val (.int x7), .val (.int x8), .val (.int x9), .val (.int x10), .val (.int x11), .val (.int x12), .val (.int x13), .val (.int x11), .unset, .unset]) rfl ?_
              exact kt
            · refine fun t kt => pre10 t ?_
              repeat rw [if_neg hc3] at kt
              repeat rw [if_neg hc5] at kt
              repeat rw [if_neg hc7] at kt
              repeat rw [if_neg hc9] at kt
              repeat rw [if_neg hc11] at kt
              show Steps p.tables e below (s₁.setTop (mkF m 118 #[.val (.int p1), .val (.int p2), .val (.int p3), .val (.int p4), .val (.int p5), .val (.long q6), .second, .val (.int x7), .val (.int x8), .val (.int x9), .val (.int x10), .val (.int x11), .val (.int x12), .val (.int x13), .val (.int x14), .unset, .unset] [(.int (4 : Int32)), (.int x13)])) _
              refine XS.icmpYes X0.here hx rfl (pc0 := 118) (pc' := 125) rfl (hb hby at_118) rfl (feq hc11).2 (by decide) (by decide) ?_
              exact kt
  obtain ⟨v13, hv13⟩ : ∃ z : Int32, z = (if x13 = (0 : Int32) then x7 else (if x13 = (1 : Int32) then x8 else (if x13 = (2 : Int32) then x9 else (if x13 = (3 : Int32) then x10 else (if x13 = (4 : Int32) then x11 else x14))))) := ⟨_, rfl⟩
  rw [← hv13] at pre12
  rcases (case_0_125 p1 p2 p3 p4 p5 q6 x7 hx7 x8 hx8 x9 hx9 x10 hx10 x11 hx11 x12 hx12 x13 hx13 x14 hx14 v13 hv13) with hk14 | hk14 | hk14 | hk14 | hk14 | hk14
  · rw [hk14] at pre12
    obtain ⟨b15, g15⟩ : ∃ z, z = h0.size := ⟨_, rfl⟩
    obtain ⟨T15, h15, X15, e15, E15, A15, D15, -, st15⟩ := newO X0 hx hZ hown (hw _ (List.mem_of_getElem? (i := 1) rfl)) (hw _ (List.mem_of_getElem? (i := 2) rfl)) (hw _ (List.mem_of_getElem? (i := 3) rfl)) e0 (g := (mkF m 125 #[.val (.int p1), .val (.int p2), .val (.int p3), .val (.int p4), .val (.int p5), .val (.long q6), .second, .val (.int x7), .val (.int x8), .val (.int x9), .val (.int x10), .val (.int x11), .val (.int (0 : Int32)), .val (.int x13), .val (.int v13), .unset, .unset] [])) rfl (hb hby at_125) (by decide) (by decide)
    rw [← g15] at A15 D15 st15
    have g_b15 : n0 ≤ b15 := Nat.le_trans Z0 (Nat.le_of_eq g15.symm)
    have F_slots_b15 : Fld Z h15 b15 "com/example/krel/krel/saturation/AtomSet" "slots" "[I" .null := D15 (Or.inl (hw _ (List.mem_of_getElem? (i := 12) rfl))) (ty := (.array .int)) (by decide)
    have F_atoms_b15 : Fld Z h15 b15 "com/example/krel/krel/saturation/AtomSet" "atoms" "[I" .null := D15 (Or.inl (hw _ (List.mem_of_getElem? (i := 14) rfl))) (ty := (.array .int)) (by decide)
    have F_size_b15 : Fld Z h15 b15 "com/example/krel/krel/saturation/AtomSet" "size" "I" (.int (0 : Int32)) := D15 (Or.inl (hw _ (List.mem_of_getElem? (i := 31) rfl))) (ty := .int) (by decide)
    have z17 : n0 ≤ h15.size := (Nat.le_trans Z0 E15.1)
    obtain ⟨_, _, ⟨T16, L16, k16, n16⟩, -, X16, ⟨Lc16, hQ16, l16, y16, z16⟩, st16⟩ := X15.specialBack hx (y := (⟨"com/example/krel/krel/saturation/AtomSet", "<init>", "()V"⟩ : MethodName)) rfl hown (mvT hZ (hw _ (List.mem_of_getElem? (i := 4) rfl))) (mvT hZ (hw _ (List.mem_of_getElem? (i := 5) rfl))) (mvT hZ (hw _ (List.mem_of_getElem? (i := 6) rfl))) (by decide) (backOf (W := 1) (rm1 l Z a0 hw [] b15 (.int (0 : Int32)) .null .null h15 n0 z17 A15 F_size_b15 F_slots_b15 g_b15 F_atoms_b15) hZ (hw _ (List.mem_of_getElem? (i := 6) rfl)) (hw _ (List.mem_of_getElem? (i := 3) rfl)) (by decide) (by decide)) (g := (mkF m 129 #[.val (.int p1), .val (.int p2), .val (.int p3), .val (.int p4), .val (.int p5), .val (.long q6), .second, .val (.int x7), .val (.int x8), .val (.int x9), .val (.int x10), .val (.int x11), .val (.int (0 : Int32)), .val (.int x13), .val (.int v13), .unset, .unset] [(.ref b15), (.ref b15)])) rfl (by rw [hml]; rfl) (Steps.refl _) (a := b15) (argsL := []) (rest := [(.ref b15)]) (lenOf pd_0_0 rfl) rfl (by show 2 * 0 + _ ≤ _; exact Nat.le_of_eq rfl) (hb hby at_129) (fun _ _ => ⟨rfl, e15, (by decide : 1 + 2 ≤ _), (by decide : 3 + 12 ≤ _)⟩)
    dsimp only [Pt.U, Pt.locs, Pt.cells, Pt.slots] at X16 l16 y16 z16 st16 hQ16
    subst l16 y16 z16
    obtain ⟨b16_0, b16_1, kk16_0, kk16_1, rfl, N16q, g_b16_0, g_b16_1, hz_b16_0, hz_b16_1, ne_b16_0_b16_1, K16, f16_0, f16_1, f16_2, f16_3, f16_4, f16_5⟩ := hQ16
    have ne_b15_b16_0 : b15 ≠ b16_0 := Nat.ne_of_lt (Nat.lt_of_lt_of_le A15.lt hz_b16_0)
    have ne_b15_b16_1 : b15 ≠ b16_1 := Nat.ne_of_lt (Nat.lt_of_lt_of_le A15.lt hz_b16_1)
    have N16 := Fr.app N0 N16q
    have A18 : own_AS Z T16.heap n0 b15 [] := ⟨b16_0, b16_1, kk16_0, kk16_1, [0, 0, 0, 0, 0, 0, 0, 0], [0, 0, 0, 0], f16_0, f16_3, f16_1, f16_2, g_b15, g_b16_0, g_b16_1, ne_b15_b16_0, ne_b15_b16_1, ne_b16_0_b16_1, (fun y hy => by simp at hy), List.nodup_nil, Or.inl ⟨by decide, rfl, f16_4, own_empty _ 8 (by decide), rfl, f16_5, rfl⟩⟩
    have hn18 : ([] : List Int32).length ≤ 0 := Nat.le_refl _
    have z20 : n0 ≤ T16.heap.size := (Nat.le_trans z17 K16.1)
    obtain ⟨cq19, kq19, iq19a, iq19b, iq19c⟩ := isOf hZ rfl f16_0
    obtain ⟨_, _, ⟨T19, L19, k19, n19⟩, -, X19, ⟨Lc19, hQ19, l19, y19, z19⟩, st19⟩ := X16.virtualBack hx (y := (⟨"com/example/krel/krel/saturation/AtomSet", "contains", "(I)Z"⟩ : MethodName)) (z := (⟨"com/example/krel/krel/saturation/AtomSet", "contains", "(I)Z"⟩ : MethodName)) hown (mvT hZ (hw _ (List.mem_of_getElem? (i := 15) rfl))) (mvT hZ (hw _ (List.mem_of_getElem? (i := 16) rfl))) (notFace_of_selects (args := #[]) (mvT hZ (hw _ (List.mem_of_getElem? (i := 18) rfl)))) (mvT hZ (hw _ (List.mem_of_getElem? (i := 18) rfl))) (mvT hZ (hw _ (List.mem_of_getElem? (i := 17) rfl))) (by decide) (backOf (W := 0) (rm90003 l Z a0 hw [] b15 v13 [] T16.heap n0 z20 A18 (side_0_pos278 p1 p2 p3 p4 p5 q6 x7 hx7 x8 hx8 x9 hx9 x10 hx10 x11 hx11 x12 hx12 x13 hx13 x14 hx14 v13 hv13 hk14)) hZ (hw _ (List.mem_of_getElem? (i := 19) rfl)) (hw _ (List.mem_of_getElem? (i := 3) rfl)) (by decide) (by decide)) iq19a iq19c (g := (mkF m 278 #[.val (.int p1), .val (.int p2), .val (.int p3), .val (.int p4), .val (.int p5), .val (.long q6), .second, .val (.int x7), .val (.int x8), .val (.int x9), .val (.int x10), .val (.int x11), .val (.int (0 : Int32)), .val (.int x13), .val (.int v13), .val (.ref b15), .val (.int (0 : Int32))] [(.int v13), (.ref b15)])) rfl (by rw [hml]; rfl) (Steps.refl _) (argsL := [(.int v13)]) (rest := []) (lenOf pd_0_1 rfl) rfl (by show 2 * 0 + _ ≤ _; exact Nat.le_of_eq rfl) (hb hby at_278) (fun _ _ => ⟨rfl, rfl, (by decide : 3 + 0 ≤ _), (by decide : 15 + 0 ≤ _)⟩)
    dsimp only [Pt.U, Pt.locs, Pt.cells, Pt.slots] at X19 l19 y19 z19 st19 hQ19
    subst l19 y19 z19
    obtain ⟨rfl, N19q, e19⟩ := hQ19
    have N19 := Fr.app N16 N19q
    have pre21 : ∀ t, Steps p.tables e below (T19.setTop (mkF m 283 #[.val (.int p1), .val (.int p2), .val (.int p3), .val (.int p4), .val (.int p5), .val (.long q6), .second, .val (.int x7), .val (.int x8), .val (.int x9), .val (.int x10), .val (.int x11), .val (.int (0 : Int32)), .val (.int x13), .val (.int v13), .val (.ref b15), .val (.int (0 : Int32))] [(.int (0 : Int32)), (.int (if v13 ∈ [] then (1 : Int32) else (0 : Int32)))])) t → Steps p.tables e below (s₁.setTop (entryFrame m #[(.int p1), (.int p2), (.int p3), (.int p4), (.int p5), (.long q6)] maxLocals)) t := fun t kt => by
      refine pre12 t ?_
      show Steps p.tables e below (s₁.setTop (mkF m 125 #[.val (.int p1), .val (.int p2), .val (.int p3), .val (.int p4), .val (.int p5), .val (.long q6), .second, .val (.int x7), .val (.int x8), .val (.int x9), .val (.int x10), .val (.int x11), .val (.int (0 : Int32)), .val (.int x13), .val (.int v13), .unset, .unset] [])) _
      refine st15 _ ?_
      show Steps p.tables e below (T15.setTop (mkF m 128 #[.val (.int p1), .val (.int p2), .val (.int p3), .val (.int p4), .val (.int p5), .val (.long q6), .second, .val (.int x7), .val (.int x8), .val (.int x9), .val (.int x10), .val (.int x11), .val (.int (0 : Int32)), .val (.int x13), .val (.int v13), .unset, .unset] [(.ref b15)])) _
      refine XS.dup X15.here hx rfl (hb hby at_128) rfl rfl ?_
      show Steps p.tables e below (T15.setTop (mkF m 129 #[.val (.int p1), .val (.int p2), .val (.int p3), .val (.int p4), .val (.int p5), .val (.long q6), .second, .val (.int x7), .val (.int x8), .val (.int x9), .val (.int x10), .val (.int x11), .val (.int (0 : Int32)), .val (.int x13), .val (.int v13), .unset, .unset] [(.ref b15), (.ref b15)])) _
      refine st16.trans ?_
      show Steps p.tables e below (T16.setTop (mkF m 132 #[.val (.int p1), .val (.int p2), .val (.int p3), .val (.int p4), .val (.int p5), .val (.long q6), .second, .val (.int x7), .val (.int x8), .val (.int x9), .val (.int x10), .val (.int x11), .val (.int (0 : Int32)), .val (.int x13), .val (.int v13), .unset, .unset] [(.ref b15)])) _
      refine XS.astore X16.here hx rfl (hb hby at_132) rfl rfl (l' := #[.val (.int p1), .val (.int p2), .val (.int p3), .val (.int p4), .val (.int p5), .val (.long q6), .second, .val (.int x7), .val (.int x8), .val (.int x9), .val (.int x10), .val (.int x11), .val (.int (0 : Int32)), .val (.int x13), .val (.int v13), .val (.ref b15), .unset]) rfl ?_
      show Steps p.tables e below (T16.setTop (mkF m 134 #[.val (.int p1), .val (.int p2), .val (.int p3), .val (.int p4), .val (.int p5), .val (.long q6), .second, .val (.int x7), .val (.int x8), .val (.int x9), .val (.int x10), .val (.int x11), .val (.int (0 : Int32)), .val (.int x13), .val (.int v13), .val (.ref b15), .unset] [])) _
      refine XS.iload X16.here hx rfl (hb hby at_134) rfl ?_
      show Steps p.tables e below (T16.setTop (mkF m 136 #[.val (.int p1), .val (.int p2), .val (.int p3), .val (.int p4), .val (.int p5), .val (.long q6), .second, .val (.int x7), .val (.int x8), .val (.int x9), .val (.int x10), .val (.int x11), .val (.int (0 : Int32)), .val (.int x13), .val (.int v13), .val (.ref b15), .unset] [(.int (0 : Int32))])) _
      refine XS.ifYes X16.here hx rfl (pc0 := 136) (pc' := 147) rfl (hb hby at_136) rfl ((if0 _ _).trans (flt (by decide : ¬ ((0 : Int32) < (0 : Int32)))).2.2.2) (by decide) (by decide) ?_
      show Steps p.tables e below (T16.setTop (mkF m 147 #[.val (.int p1), .val (.int p2), .val (.int p3), .val (.int p4), .val (.int p5), .val (.long q6), .second, .val (.int x7), .val (.int x8), .val (.int x9), .val (.int x10), .val (.int x11), .val (.int (0 : Int32)), .val (.int x13), .val (.int v13), .val (.ref b15), .unset] [])) _
      refine XS.iload X16.here hx rfl (hb hby at_147) rfl ?_
      show Steps p.tables e below (T16.setTop (mkF m 149 #[.val (.int p1), .val (.int p2), .val (.int p3), .val (.int p4), .val (.int p5), .val (.long q6), .second, .val (.int x7), .val (.int x8), .val (.int x9), .val (.int x10), .val (.int x11), .val (.int (0 : Int32)), .val (.int x13), .val (.int v13), .val (.ref b15), .unset] [(.int (0 : Int32))])) _
      refine XS.iconst X16.here hx rfl (hb hby at_149) ?_
      show Steps p.tables e below (T16.setTop (mkF m 150 #[.val (.int p1), .val (.int p2), .val (.int p3), .val (.int p4), .val (.int p5), .val (.long q6), .second, .val (.int x7), .val (.int x8), .val (.int x9), .val (.int x10), .val (.int x11), .val (.int (0 : Int32)), .val (.int x13), .val (.int v13), .val (.ref b15), .unset] [(.int (1 : Int32)), (.int (0 : Int32))])) _
      refine XS.icmpYes X16.here hx rfl (pc0 := 150) (pc' := 161) rfl (hb hby at_150) rfl (flt (by decide : ¬ ((1 : Int32) < (0 : Int32)))).2.2.2 (by decide) (by decide) ?_
      show Steps p.tables e below (T16.setTop (mkF m 161 #[.val (.int p1), .val (.int p2), .val (.int p3), .val (.int p4), .val (.int p5), .val (.long q6), .second, .val (.int x7), .val (.int x8), .val (.int x9), .val (.int x10), .val (.int x11), .val (.int (0 : Int32)), .val (.int x13), .val (.int v13), .val (.ref b15), .unset] [])) _
      refine XS.iload X16.here hx rfl (hb hby at_161) rfl ?_
      show Steps p.tables e below (T16.setTop (mkF m 163 #[.val (.int p1), .val (.int p2), .val (.int p3), .val (.int p4), .val (.int p5), .val (.long q6), .second, .val (.int x7), .val (.int x8), .val (.int x9), .val (.int x10), .val (.int x11), .val (.int (0 : Int32)), .val (.int x13), .val (.int v13), .val (.ref b15), .unset] [(.int (0 : Int32))])) _
      refine XS.iconst X16.here hx rfl (hb hby at_163) ?_
      show Steps p.tables e below (T16.setTop (mkF m 164 #[.val (.int p1), .val (.int p2), .val (.int p3), .val (.int p4), .val (.int p5), .val (.long q6), .second, .val (.int x7), .val (.int x8), .val (.int x9), .val (.int x10), .val (.int x11), .val (.int (0 : Int32)), .val (.int x13), .val (.int v13), .val (.ref b15), .unset] [(.int (2 : Int32)), (.int (0 : Int32))])) _
      refine XS.icmpYes X16.here hx rfl (pc0 := 164) (pc' := 175) rfl (hb hby at_164) rfl (flt (by decide : ¬ ((2 : Int32) < (0 : Int32)))).2.2.2 (by decide) (by decide) ?_
      show Steps p.tables e below (T16.setTop (mkF m 175 #[.val (.int p1), .val (.int p2), .val (.int p3), .val (.int p4), .val (.int p5), .val (.long q6), .second, .val (.int x7), .val (.int x8), .val (.int x9), .val (.int x10), .val (.int x11), .val (.int (0 : Int32)), .val (.int x13), .val (.int v13), .val (.ref b15), .unset] [])) _
      refine XS.iload X16.here hx rfl (hb hby at_175) rfl ?_
      show Steps p.tables e below (T16.setTop (mkF m 177 #[.val (.int p1), .val (.int p2), .val (.int p3), .val (.int p4), .val (.int p5), .val (.long q6), .second, .val (.int x7), .val (.int x8), .val (.int x9), .val (.int x10), .val (.int x11), .val (.int (0 : Int32)), .val (.int x13), .val (.int v13), .val (.ref b15), .unset] [(.int (0 : Int32))])) _
      refine XS.iconst X16.here hx rfl (hb hby at_177) ?_
      show Steps p.tables e below (T16.setTop (mkF m 178 #[.val (.int p1), .val (.int p2), .val (.int p3), .val (.int p4), .val (.int p5), .val (.long q6), .second, .val (.int x7), .val (.int x8), .val (.int x9), .val (.int x10), .val (.int x11), .val (.int (0 : Int32)), .val (.int x13), .val (.int v13), .val (.ref b15), .unset] [(.int (3 : Int32)), (.int (0 : Int32))])) _
      refine XS.icmpYes X16.here hx rfl (pc0 := 178) (pc' := 189) rfl (hb hby at_178) rfl (flt (by decide : ¬ ((3 : Int32) < (0 : Int32)))).2.2.2 (by decide) (by decide) ?_
      show Steps p.tables e below (T16.setTop (mkF m 189 #[.val (.int p1), .val (.int p2), .val (.int p3), .val (.int p4), .val (.int p5), .val (.long q6), .second, .val (.int x7), .val (.int x8), .val (.int x9), .val (.int x10), .val (.int x11), .val (.int (0 : Int32)), .val (.int x13), .val (.int v13), .val (.ref b15), .unset] [])) _
      refine XS.iload X16.here hx rfl (hb hby at_189) rfl ?_
      show Steps p.tables e below (T16.setTop (mkF m 191 #[.val (.int p1), .val (.int p2), .val (.int p3), .val (.int p4), .val (.int p5), .val (.long q6), .second, .val (.int x7), .val (.int x8), .val (.int x9), .val (.int x10), .val (.int x11), .val (.int (0 : Int32)), .val (.int x13), .val (.int v13), .val (.ref b15), .unset] [(.int (0 : Int32))])) _
      refine XS.iconst X16.here hx rfl (hb hby at_191) ?_
      show Steps p.tables e below (T16.setTop (mkF m 192 #[.val (.int p1), .val (.int p2), .val (.int p3), .val (.int p4), .val (.int p5), .val (.long q6), .second, .val (.int x7), .val (.int x8), .val (.int x9), .val (.int x10), .val (.int x11), .val (.int (0 : Int32)), .val (.int x13), .val (.int v13), .val (.ref b15), .unset] [(.int (4 : Int32)), (.int (0 : Int32))])) _
      refine XS.icmpYes X16.here hx rfl (pc0 := 192) (pc' := 203) rfl (hb hby at_192) rfl (flt (by decide : ¬ ((4 : Int32) < (0 : Int32)))).2.2.2 (by decide) (by decide) ?_
      show Steps p.tables e below (T16.setTop (mkF m 203 #[.val (.int p1), .val (.int p2), .val (.int p3), .val (.int p4), .val (.int p5), .val (.long q6), .second, .val (.int x7), .val (.int x8), .val (.int x9), .val (.int x10), .val (.int x11), .val (.int (0 : Int32)), .val (.int x13), .val (.int v13), .val (.ref b15), .unset] [])) _
      refine XS.iload X16.here hx rfl (hb hby at_203) rfl ?_
      show Steps p.tables e below (T16.setTop (mkF m 205 #[.val (.int p1), .val (.int p2), .val (.int p3), .val (.int p4), .val (.int p5), .val (.long q6), .second, .val (.int x7), .val (.int x8), .val (.int x9), .val (.int x10), .val (.int x11), .val (.int (0 : Int32)), .val (.int x13), .val (.int v13), .val (.ref b15), .unset] [(.int (0 : Int32))])) _
      refine XS.ifYes X16.here hx rfl (pc0 := 205) (pc' := 215) rfl (hb hby at_205) rfl ((if0 _ _).trans (flt (by decide : ¬ ((0 : Int32) < (0 : Int32)))).2.2.2) (by decide) (by decide) ?_
      show Steps p.tables e below (T16.setTop (mkF m 215 #[.val (.int p1), .val (.int p2), .val (.int p3), .val (.int p4), .val (.int p5), .val (.long q6), .second, .val (.int x7), .val (.int x8), .val (.int x9), .val (.int x10), .val (.int x11), .val (.int (0 : Int32)), .val (.int x13), .val (.int v13), .val (.ref b15), .unset] [])) _
      refine XS.iload X16.here hx rfl (hb hby at_215) rfl ?_
      show Steps p.tables e below (T16.setTop (mkF m 217 #[.val (.int p1), .val (.int p2), .val (.int p3), .val (.int p4), .val (.int p5), .val (.long q6), .second, .val (.int x7), .val (.int x8), .val (.int x9), .val (.int x10), .val (.int x11), .val (.int (0 : Int32)), .val (.int x13), .val (.int v13), .val (.ref b15), .unset] [(.int (0 : Int32))])) _
      refine XS.iconst X16.here hx rfl (hb hby at_217) ?_
      show Steps p.tables e below (T16.setTop (mkF m 218 #[.val (.int p1), .val (.int p2), .val (.int p3), .val (.int p4), .val (.int p5), .val (.long q6), .second, .val (.int x7), .val (.int x8), .val (.int x9), .val (.int x10), .val (.int x11), .val (.int (0 : Int32)), .val (.int x13), .val (.int v13), .val (.ref b15), .unset] [(.int (1 : Int32)), (.int (0 : Int32))])) _
      refine XS.icmpYes X16.here hx rfl (pc0 := 218) (pc' := 228) rfl (hb hby at_218) rfl (flt (by decide : ¬ ((1 : Int32) < (0 : Int32)))).2.2.2 (by decide) (by decide) ?_
      show Steps p.tables e below (T16.setTop (mkF m 228 #[.val (.int p1), .val (.int p2), .val (.int p3), .val (.int p4), .val (.int p5), .val (.long q6), .second, .val (.int x7), .val (.int x8), .val (.int x9), .val (.int x10), .val (.int x11), .val (.int (0 : Int32)), .val (.int x13), .val (.int v13), .val (.ref b15), .unset] [])) _
      refine XS.iload X16.here hx rfl (hb hby at_228) rfl ?_
      show Steps p.tables e below (T16.setTop (mkF m 230 #[.val (.int p1), .val (.int p2), .val (.int p3), .val (.int p4), .val (.int p5), .val (.long q6), .second, .val (.int x7), .val (.int x8), .val (.int x9), .val (.int x10), .val (.int x11), .val (.int (0 : Int32)), .val (.int x13), .val (.int v13), .val (.ref b15), .unset] [(.int (0 : Int32))])) _
      refine XS.iconst X16.here hx rfl (hb hby at_230) ?_
      show Steps p.tables e below (T16.setTop (mkF m 231 #[.val (.int p1), .val (.int p2), .val (.int p3), .val (.int p4), .val (.int p5), .val (.long q6), .second, .val (.int x7), .val (.int x8), .val (.int x9), .val (.int x10), .val (.int x11), .val (.int (0 : Int32)), .val (.int x13), .val (.int v13), .val (.ref b15), .unset] [(.int (2 : Int32)), (.int (0 : Int32))])) _
      refine XS.icmpYes X16.here hx rfl (pc0 := 231) (pc' := 241) rfl (hb hby at_231) rfl (flt (by decide : ¬ ((2 : Int32) < (0 : Int32)))).2.2.2 (by decide) (by decide) ?_
      show Steps p.tables e below (T16.setTop (mkF m 241 #[.val (.int p1), .val (.int p2), .val (.int p3), .val (.int p4), .val (.int p5), .val (.long q6), .second, .val (.int x7), .val (.int x8), .val (.int x9), .val (.int x10), .val (.int x11), .val (.int (0 : Int32)), .val (.int x13), .val (.int v13), .val (.ref b15), .unset] [])) _
      refine XS.iload X16.here hx rfl (hb hby at_241) rfl ?_
      show Steps p.tables e below (T16.setTop (mkF m 243 #[.val (.int p1), .val (.int p2), .val (.int p3), .val (.int p4), .val (.int p5), .val (.long q6), .second, .val (.int x7), .val (.int x8), .val (.int x9), .val (.int x10), .val (.int x11), .val (.int (0 : Int32)), .val (.int x13), .val (.int v13), .val (.ref b15), .unset] [(.int (0 : Int32))])) _
      refine XS.iconst X16.here hx rfl (hb hby at_243) ?_
      show Steps p.tables e below (T16.setTop (mkF m 244 #[.val (.int p1), .val (.int p2), .val (.int p3), .val (.int p4), .val (.int p5), .val (.long q6), .second, .val (.int x7), .val (.int x8), .val (.int x9), .val (.int x10), .val (.int x11), .val (.int (0 : Int32)), .val (.int x13), .val (.int v13), .val (.ref b15), .unset] [(.int (3 : Int32)), (.int (0 : Int32))])) _
      refine XS.icmpYes X16.here hx rfl (pc0 := 244) (pc' := 254) rfl (hb hby at_244) rfl (flt (by decide : ¬ ((3 : Int32) < (0 : Int32)))).2.2.2 (by decide) (by decide) ?_
      show Steps p.tables e below (T16.setTop (mkF m 254 #[.val (.int p1), .val (.int p2), .val (.int p3), .val (.int p4), .val (.int p5), .val (.long q6), .second, .val (.int x7), .val (.int x8), .val (.int x9), .val (.int x10), .val (.int x11), .val (.int (0 : Int32)), .val (.int x13), .val (.int v13), .val (.ref b15), .unset] [])) _
      refine XS.iload X16.here hx rfl (hb hby at_254) rfl ?_
      show Steps p.tables e below (T16.setTop (mkF m 256 #[.val (.int p1), .val (.int p2), .val (.int p3), .val (.int p4), .val (.int p5), .val (.long q6), .second, .val (.int x7), .val (.int x8), .val (.int x9), .val (.int x10), .val (.int x11), .val (.int (0 : Int32)), .val (.int x13), .val (.int v13), .val (.ref b15), .unset] [(.int (0 : Int32))])) _
      refine XS.iconst X16.here hx rfl (hb hby at_256) ?_
      show Steps p.tables e below (T16.setTop (mkF m 257 #[.val (.int p1), .val (.int p2), .val (.int p3), .val (.int p4), .val (.int p5), .val (.long q6), .second, .val (.int x7), .val (.int x8), .val (.int x9), .val (.int x10), .val (.int x11), .val (.int (0 : Int32)), .val (.int x13), .val (.int v13), .val (.ref b15), .unset] [(.int (4 : Int32)), (.int (0 : Int32))])) _
      refine XS.icmpYes X16.here hx rfl (pc0 := 257) (pc' := 271) rfl (hb hby at_257) rfl (flt (by decide : ¬ ((4 : Int32) < (0 : Int32)))).2.2.2 (by decide) (by decide) ?_
      show Steps p.tables e below (T16.setTop (mkF m 271 #[.val (.int p1), .val (.int p2), .val (.int p3), .val (.int p4), .val (.int p5), .val (.long q6), .second, .val (.int x7), .val (.int x8), .val (.int x9), .val (.int x10), .val (.int x11), .val (.int (0 : Int32)), .val (.int x13), .val (.int v13), .val (.ref b15), .unset] [])) _
      refine XS.iconst X16.here hx rfl (hb hby at_271) ?_
      show Steps p.tables e below (T16.setTop (mkF m 272 #[.val (.int p1), .val (.int p2), .val (.int p3), .val (.int p4), .val (.int p5), .val (.long q6), .second, .val (.int x7), .val (.int x8), .val (.int x9), .val (.int x10), .val (.int x11), .val (.int (0 : Int32)), .val (.int x13), .val (.int v13), .val (.ref b15), .unset] [(.int (0 : Int32))])) _
      refine XS.istore X16.here hx rfl (hb hby at_272) rfl (l' := #[.val (.int p1), .val (.int p2), .val (.int p3), .val (.int p4), .val (.int p5), .val (.long q6), .second, .val (.int x7), .val (.int x8), .val (.int x9), .val (.int x10), .val (.int x11), .val (.int (0 : Int32)), .val (.int x13), .val (.int v13), .val (.ref b15), .val (.int (0 : Int32))]) rfl ?_
      show Steps p.tables e below (T16.setTop (mkF m 274 #[.val (.int p1), .val (.int p2), .val (.int p3), .val (.int p4), .val (.int p5), .val (.long q6), .second, .val (.int x7), .val (.int x8), .val (.int x9), .val (.int x10), .val (.int x11), .val (.int (0 : Int32)), .val (.int x13), .val (.int v13), .val (.ref b15), .val (.int (0 : Int32))] [])) _
      refine XS.aload X16.here hx rfl (hb hby at_274) rfl rfl ?_
      show Steps p.tables e below (T16.setTop (mkF m 276 #[.val (.int p1), .val (.int p2), .val (.int p3), .val (.int p4), .val (.int p5), .val (.long q6), .second, .val (.int x7), .val (.int x8), .val (.int x9), .val (.int x10), .val (.int x11), .val (.int (0 : Int32)), .val (.int x13), .val (.int v13), .val (.ref b15), .val (.int (0 : Int32))] [(.ref b15)])) _
      refine XS.iload X16.here hx rfl (hb hby at_276) rfl ?_
      show Steps p.tables e below (T16.setTop (mkF m 278 #[.val (.int p1), .val (.int p2), .val (.int p3), .val (.int p4), .val (.int p5), .val (.long q6), .second, .val (.int x7), .val (.int x8), .val (.int x9), .val (.int x10), .val (.int x11), .val (.int (0 : Int32)), .val (.int x13), .val (.int v13), .val (.ref b15), .val (.int (0 : Int32))] [(.int v13), (.ref b15)])) _
      refine st19.trans ?_
      show Steps p.tables e below (T19.setTop (mkF m 281 #[.val (.int p1), .val (.int p2), .val (.int p3), .val (.int p4), .val (.int p5), .val (.long q6), .second, .val (.int x7), .val (.int x8), .val (.int x9), .val (.int x10), .val (.int x11), .val (.int (0 : Int32)), .val (.int x13), .val (.int v13), .val (.ref b15), .val (.int (0 : Int32))] [(.int (if v13 ∈ [] then (1 : Int32) else (0 : Int32)))])) _
      refine XS.iload X19.here hx rfl (hb hby at_281) rfl ?_
      exact kt
    by_cases hc22 : (if v13 ∈ [] then (1 : Int32) else (0 : Int32)) = (0 : Int32)
    · obtain ⟨fs, hr, hrun, hended, hW, hsame⟩ := X19.leave (v := some (.int (1 : Int32))) (fun h => by rw [Bd.returns] at h; cases h)
      refine ⟨_, _, pre21 _ ?_, hrun, hended, _, _, rfl, ?_, ⟨_, rfl⟩, hW, hsame.mono (by decide) (by decide)⟩
      · show Steps p.tables e below (T19.setTop (mkF m 283 #[.val (.int p1), .val (.int p2), .val (.int p3), .val (.int p4), .val (.int p5), .val (.long q6), .second, .val (.int x7), .val (.int x8), .val (.int x9), .val (.int x10), .val (.int x11), .val (.int (0 : Int32)), .val (.int x13), .val (.int v13), .val (.ref b15), .val (.int (0 : Int32))] [(.int (0 : Int32)), (.int (if v13 ∈ [] then (1 : Int32) else (0 : Int32)))])) _
        refine XS.icmpNo X19.here hx rfl (hb hby at_283) rfl (teq hc22).2 ?_
        show Steps p.tables e below (T19.setTop (mkF m 286 #[.val (.int p1), .val (.int p2), .val (.int p3), .val (.int p4), .val (.int p5), .val (.long q6), .second, .val (.int x7), .val (.int x8), .val (.int x9), .val (.int x10), .val (.int x11), .val (.int (0 : Int32)), .val (.int x13), .val (.int v13), .val (.ref b15), .val (.int (0 : Int32))] [])) _
        refine XS.iconst X19.here hx rfl (hb hby at_286) ?_
        show Steps p.tables e below (T19.setTop (mkF m 287 #[.val (.int p1), .val (.int p2), .val (.int p3), .val (.int p4), .val (.int p5), .val (.long q6), .second, .val (.int x7), .val (.int x8), .val (.int x9), .val (.int x10), .val (.int x11), .val (.int (0 : Int32)), .val (.int x13), .val (.int v13), .val (.ref b15), .val (.int (0 : Int32))] [(.int (1 : Int32))])) _
        refine XS.goto X19.here hx rfl (pc0 := 287) (pc' := 291) rfl (hb hby at_287) (by decide) (by decide) ?_
        show Steps p.tables e below (T19.setTop (mkF m 291 #[.val (.int p1), .val (.int p2), .val (.int p3), .val (.int p4), .val (.int p5), .val (.long q6), .second, .val (.int x7), .val (.int x8), .val (.int x9), .val (.int x10), .val (.int x11), .val (.int (0 : Int32)), .val (.int x13), .val (.int v13), .val (.ref b15), .val (.int (0 : Int32))] [(.int (1 : Int32))])) _
        exact retN X19 hx (t := .boolean) Bd.returns (by simp) (hb hby at_291) hr
      · show Q0 Z p1 p2 p3 p4 p5 q6 h0 n0 _ T19.heap _
        rw [e19]
        exact ⟨rfl, N19⟩
    · exact (leaf_0_2 p1 p2 p3 p4 p5 q6 x7 hx7 x8 hx8 x9 hx9 x10 hx10 x11 hx11 x12 hx12 x13 hx13 x14 hx14 v13 hv13 hk14 hc22).elim
  · rw [hk14] at pre12
    obtain ⟨b23, g23⟩ : ∃ z, z = h0.size := ⟨_, rfl⟩
    obtain ⟨T23, h23, X23, e23, E23, A23, D23, -, st23⟩ := newO X0 hx hZ hown (hw _ (List.mem_of_getElem? (i := 1) rfl)) (hw _ (List.mem_of_getElem? (i := 2) rfl)) (hw _ (List.mem_of_getElem? (i := 3) rfl)) e0 (g := (mkF m 125 #[.val (.int p1), .val (.int p2), .val (.int p3), .val (.int p4), .val (.int p5), .val (.long q6), .second, .val (.int x7), .val (.int x8), .val (.int x9), .val (.int x10), .val (.int x11), .val (.int (1 : Int32)), .val (.int x13), .val (.int v13), .unset, .unset] [])) rfl (hb hby at_125) (by decide) (by decide)
    rw [← g23] at A23 D23 st23
    have g_b23 : n0 ≤ b23 := Nat.le_trans Z0 (Nat.le_of_eq g23.symm)
    have F_slots_b23 : Fld Z h23 b23 "com/example/krel/krel/saturation/AtomSet" "slots" "[I" .null := D23 (Or.inl (hw _ (List.mem_of_getElem? (i := 12) rfl))) (ty := (.array .int)) (by decide)
    have F_atoms_b23 : Fld Z h23 b23 "com/example/krel/krel/saturation/AtomSet" "atoms" "[I" .null := D23 (Or.inl (hw _ (List.mem_of_getElem? (i := 14) rfl))) (ty := (.array .int)) (by decide)
    have F_size_b23 : Fld Z h23 b23 "com/example/krel/krel/saturation/AtomSet" "size" "I" (.int (0 : Int32)) := D23 (Or.inl (hw _ (List.mem_of_getElem? (i := 31) rfl))) (ty := .int) (by decide)
    have z25 : n0 ≤ h23.size := (Nat.le_trans Z0 E23.1)
    obtain ⟨_, _, ⟨T24, L24, k24, n24⟩, -, X24, ⟨Lc24, hQ24, l24, y24, z24⟩, st24⟩ := X23.specialBack hx (y := (⟨"com/example/krel/krel/saturation/AtomSet", "<init>", "()V"⟩ : MethodName)) rfl hown (mvT hZ (hw _ (List.mem_of_getElem? (i := 4) rfl))) (mvT hZ (hw _ (List.mem_of_getElem? (i := 5) rfl))) (mvT hZ (hw _ (List.mem_of_getElem? (i := 6) rfl))) (by decide) (backOf (W := 1) (rm1 l Z a0 hw [] b23 (.int (0 : Int32)) .null .null h23 n0 z25 A23 F_size_b23 F_slots_b23 g_b23 F_atoms_b23) hZ (hw _ (List.mem_of_getElem? (i := 6) rfl)) (hw _ (List.mem_of_getElem? (i := 3) rfl)) (by decide) (by decide)) (g := (mkF m 129 #[.val (.int p1), .val (.int p2), .val (.int p3), .val (.int p4), .val (.int p5), .val (.long q6), .second, .val (.int x7), .val (.int x8), .val (.int x9), .val (.int x10), .val (.int x11), .val (.int (1 : Int32)), .val (.int x13), .val (.int v13), .unset, .unset] [(.ref b23), (.ref b23)])) rfl (by rw [hml]; rfl) (Steps.refl _) (a := b23) (argsL := []) (rest := [(.ref b23)]) (lenOf pd_0_0 rfl) rfl (by show 2 * 0 + _ ≤ _; exact Nat.le_of_eq rfl) (hb hby at_129) (fun _ _ => ⟨rfl, e23, (by decide : 1 + 2 ≤ _), (by decide : 3 + 12 ≤ _)⟩)
    dsimp only [Pt.U, Pt.locs, Pt.cells, Pt.slots] at X24 l24 y24 z24 st24 hQ24
    subst l24 y24 z24
    obtain ⟨b24_0, b24_1, kk24_0, kk24_1, rfl, N24q, g_b24_0, g_b24_1, hz_b24_0, hz_b24_1, ne_b24_0_b24_1, K24, f24_0, f24_1, f24_2, f24_3, f24_4, f24_5⟩ := hQ24
    have ne_b23_b24_0 : b23 ≠ b24_0 := Nat.ne_of_lt (Nat.lt_of_lt_of_le A23.lt hz_b24_0)
    have ne_b23_b24_1 : b23 ≠ b24_1 := Nat.ne_of_lt (Nat.lt_of_lt_of_le A23.lt hz_b24_1)
    have N24 := Fr.app N0 N24q
    have A26 : own_AS Z T24.heap n0 b23 [] := ⟨b24_0, b24_1, kk24_0, kk24_1, [0, 0, 0, 0, 0, 0, 0, 0], [0, 0, 0, 0], f24_0, f24_3, f24_1, f24_2, g_b23, g_b24_0, g_b24_1, ne_b23_b24_0, ne_b23_b24_1, ne_b24_0_b24_1, (fun y hy => by simp at hy), List.nodup_nil, Or.inl ⟨by decide, rfl, f24_4, own_empty _ 8 (by decide), rfl, f24_5, rfl⟩⟩
    have hn26 : ([] : List Int32).length ≤ 0 := Nat.le_refl _
    have z28 : n0 ≤ T24.heap.size := (Nat.le_trans z25 K24.1)
    obtain ⟨cq27, kq27, iq27a, iq27b, iq27c⟩ := isOf hZ rfl f24_0
    obtain ⟨_, _, ⟨T27, L27, k27, n27⟩, -, X27, ⟨Lc27, hQ27, l27, y27, z27⟩, st27⟩ := X24.virtualBack hx (y := (⟨"com/example/krel/krel/saturation/AtomSet", "add", "(I)Z"⟩ : MethodName)) (z := (⟨"com/example/krel/krel/saturation/AtomSet", "add", "(I)Z"⟩ : MethodName)) hown (mvT hZ (hw _ (List.mem_of_getElem? (i := 25) rfl))) (mvT hZ (hw _ (List.mem_of_getElem? (i := 26) rfl))) (notFace_of_selects (args := #[]) (mvT hZ (hw _ (List.mem_of_getElem? (i := 28) rfl)))) (mvT hZ (hw _ (List.mem_of_getElem? (i := 28) rfl))) (mvT hZ (hw _ (List.mem_of_getElem? (i := 27) rfl))) (by decide) (backOf (W := 0) (rm90005 l Z a0 hw [] b23 x7 [] T24.heap n0 z28 A26 (Nat.le_trans hn26 (by decide)) (side_0_pos143 p1 p2 p3 p4 p5 q6 x7 hx7 x8 hx8 x9 hx9 x10 hx10 x11 hx11 x12 hx12 x13 hx13 x14 hx14 v13 hv13 hk14)) hZ (hw _ (List.mem_of_getElem? (i := 29) rfl)) (hw _ (List.mem_of_getElem? (i := 3) rfl)) (by decide) (by decide)) iq27a iq27c (g := (mkF m 143 #[.val (.int p1), .val (.int p2), .val (.int p3), .val (.int p4), .val (.int p5), .val (.long q6), .second, .val (.int x7), .val (.int x8), .val (.int x9), .val (.int x10), .val (.int x11), .val (.int (1 : Int32)), .val (.int x13), .val (.int v13), .val (.ref b23), .unset] [(.int x7), (.ref b23)])) rfl (by rw [hml]; rfl) (Steps.refl _) (argsL := [(.int x7)]) (rest := []) (lenOf pd_0_1 rfl) rfl (by show 2 * 0 + _ ≤ _; exact Nat.le_of_eq rfl) (hb hby at_143) (fun _ _ => ⟨rfl, rfl, (by decide : 3 + 2 ≤ _), (by decide : 15 + 24 ≤ _)⟩)
    dsimp only [Pt.U, Pt.locs, Pt.cells, Pt.slots] at X27 l27 y27 z27 st27 hQ27
    subst l27 y27 z27
    obtain ⟨⟨r27, rfl⟩, N27q, hs27, A27⟩ := hQ27
    have hn27 := own_inslen (x := x7) hn26
    have Ee27 := own_ASexa A27
    have N27 := Fr.app N24 N27q
    have pre29 : ∀ t, Steps p.tables e below (T27.setTop (mkF m 212 #[.val (.int p1), .val (.int p2), .val (.int p3), .val (.int p4), .val (.int p5), .val (.long q6), .second, .val (.int x7), .val (.int x8), .val (.int x9), .val (.int x10), .val (.int x11), .val (.int (1 : Int32)), .val (.int x13), .val (.int v13), .val (.ref b23), .unset] [(.int x7), (.int v13)])) t → Steps p.tables e below (s₁.setTop (entryFrame m #[(.int p1), (.int p2), (.int p3), (.int p4), (.int p5), (.long q6)] maxLocals)) t := fun t kt => by
      refine pre12 t ?_
      show Steps p.tables e below (s₁.setTop (mkF m 125 #[.val (.int p1), .val (.int p2), .val (.int p3), .val (.int p4), .val (.int p5), .val (.long q6), .second, .val (.int x7), .val (.int x8), .val (.int x9), .val (.int x10), .val (.int x11), .val (.int (1 : Int32)), .val (.int x13), .val (.int v13), .unset, .unset] [])) _
      refine st23 _ ?_
      show Steps p.tables e below (T23.setTop (mkF m 128 #[.val (.int p1), .val (.int p2), .val (.int p3), .val (.int p4), .val (.int p5), .val (.long q6), .second, .val (.int x7), .val (.int x8), .val (.int x9), .val (.int x10), .val (.int x11), .val (.int (1 : Int32)), .val (.int x13), .val (.int v13), .unset, .unset] [(.ref b23)])) _
      refine XS.dup X23.here hx rfl (hb hby at_128) rfl rfl ?_
      show Steps p.tables e below (T23.setTop (mkF m 129 #[.val (.int p1), .val (.int p2), .val (.int p3), .val (.int p4), .val (.int p5), .val (.long q6), .second, .val (.int x7), .val (.int x8), .val (.int x9), .val (.int x10), .val (.int x11), .val (.int (1 : Int32)), .val (.int x13), .val (.int v13), .unset, .unset] [(.ref b23), (.ref b23)])) _
      refine st24.trans ?_
      show Steps p.tables e below (T24.setTop (mkF m 132 #[.val (.int p1), .val (.int p2), .val (.int p3), .val (.int p4), .val (.int p5), .val (.long q6), .second, .val (.int x7), .val (.int x8), .val (.int x9), .val (.int x10), .val (.int x11), .val (.int (1 : Int32)), .val (.int x13), .val (.int v13), .unset, .unset] [(.ref b23)])) _
      refine XS.astore X24.here hx rfl (hb hby at_132) rfl rfl (l' := #[.val (.int p1), .val (.int p2), .val (.int p3), .val (.int p4), .val (.int p5), .val (.long q6), .second, .val (.int x7), .val (.int x8), .val (.int x9), .val (.int x10), .val (.int x11), .val (.int (1 : Int32)), .val (.int x13), .val (.int v13), .val (.ref b23), .unset]) rfl ?_
      show Steps p.tables e below (T24.setTop (mkF m 134 #[.val (.int p1), .val (.int p2), .val (.int p3), .val (.int p4), .val (.int p5), .val (.long q6), .second, .val (.int x7), .val (.int x8), .val (.int x9), .val (.int x10), .val (.int x11), .val (.int (1 : Int32)), .val (.int x13), .val (.int v13), .val (.ref b23), .unset] [])) _
      refine XS.iload X24.here hx rfl (hb hby at_134) rfl ?_
      show Steps p.tables e below (T24.setTop (mkF m 136 #[.val (.int p1), .val (.int p2), .val (.int p3), .val (.int p4), .val (.int p5), .val (.long q6), .second, .val (.int x7), .val (.int x8), .val (.int x9), .val (.int x10), .val (.int x11), .val (.int (1 : Int32)), .val (.int x13), .val (.int v13), .val (.ref b23), .unset] [(.int (1 : Int32))])) _
      refine XS.ifNo X24.here hx rfl (hb hby at_136) rfl ((if0 _ _).trans (tlt (by decide : (0 : Int32) < (1 : Int32))).2.2.2) ?_
      show Steps p.tables e below (T24.setTop (mkF m 139 #[.val (.int p1), .val (.int p2), .val (.int p3), .val (.int p4), .val (.int p5), .val (.long q6), .second, .val (.int x7), .val (.int x8), .val (.int x9), .val (.int x10), .val (.int x11), .val (.int (1 : Int32)), .val (.int x13), .val (.int v13), .val (.ref b23), .unset] [])) _
      refine XS.aload X24.here hx rfl (hb hby at_139) rfl rfl ?_
      show Steps p.tables e below (T24.setTop (mkF m 141 #[.val (.int p1), .val (.int p2), .val (.int p3), .val (.int p4), .val (.int p5), .val (.long q6), .second, .val (.int x7), .val (.int x8), .val (.int x9), .val (.int x10), .val (.int x11), .val (.int (1 : Int32)), .val (.int x13), .val (.int v13), .val (.ref b23), .unset] [(.ref b23)])) _
      refine XS.iload X24.here hx rfl (hb hby at_141) rfl ?_
      show Steps p.tables e below (T24.setTop (mkF m 143 #[.val (.int p1), .val (.int p2), .val (.int p3), .val (.int p4), .val (.int p5), .val (.long q6), .second, .val (.int x7), .val (.int x8), .val (.int x9), .val (.int x10), .val (.int x11), .val (.int (1 : Int32)), .val (.int x13), .val (.int v13), .val (.ref b23), .unset] [(.int x7), (.ref b23)])) _
      refine st27.trans ?_
      show Steps p.tables e below (T27.setTop (mkF m 146 #[.val (.int p1), .val (.int p2), .val (.int p3), .val (.int p4), .val (.int p5), .val (.long q6), .second, .val (.int x7), .val (.int x8), .val (.int x9), .val (.int x10), .val (.int x11), .val (.int (1 : Int32)), .val (.int x13), .val (.int v13), .val (.ref b23), .unset] [(.int r27)])) _
      refine XS.pop X27.here hx rfl (hb hby at_146) rfl rfl ?_
      show Steps p.tables e below (T27.setTop (mkF m 147 #[.val (.int p1), .val (.int p2), .val (.int p3), .val (.int p4), .val (.int p5), .val (.long q6), .second, .val (.int x7), .val (.int x8), .val (.int x9), .val (.int x10), .val (.int x11), .val (.int (1 : Int32)), .val (.int x13), .val (.int v13), .val (.ref b23), .unset] [])) _
      refine XS.iload X27.here hx rfl (hb hby at_147) rfl ?_
      show Steps p.tables e below (T27.setTop (mkF m 149 #[.val (.int p1), .val (.int p2), .val (.int p3), .val (.int p4), .val (.int p5), .val (.long q6), .second, .val (.int x7), .val (.int x8), .val (.int x9), .val (.int x10), .val (.int x11), .val (.int (1 : Int32)), .val (.int x13), .val (.int v13), .val (.ref b23), .unset] [(.int (1 : Int32))])) _
      refine XS.iconst X27.here hx rfl (hb hby at_149) ?_
      show Steps p.tables e below (T27.setTop (mkF m 150 #[.val (.int p1), .val (.int p2), .val (.int p3), .val (.int p4), .val (.int p5), .val (.long q6), .second, .val (.int x7), .val (.int x8), .val (.int x9), .val (.int x10), .val (.int x11), .val (.int (1 : Int32)), .val (.int x13), .val (.int v13), .val (.ref b23), .unset] [(.int (1 : Int32)), (.int (1 : Int32))])) _
      refine XS.icmpYes X27.here hx rfl (pc0 := 150) (pc' := 161) rfl (hb hby at_150) rfl (flt (by decide : ¬ ((1 : Int32) < (1 : Int32)))).2.2.2 (by decide) (by decide) ?_
      show Steps p.tables e below (T27.setTop (mkF m 161 #[.val (.int p1), .val (.int p2), .val (.int p3), .val (.int p4), .val (.int p5), .val (.long q6), .second, .val (.int x7), .val (.int x8), .val (.int x9), .val (.int x10), .val (.int x11), .val (.int (1 : Int32)), .val (.int x13), .val (.int v13), .val (.ref b23), .unset] [])) _
      refine XS.iload X27.here hx rfl (hb hby at_161) rfl ?_
      show Steps p.tables e below (T27.setTop (mkF m 163 #[.val (.int p1), .val (.int p2), .val (.int p3), .val (.int p4), .val (.int p5), .val (.long q6), .second, .val (.int x7), .val (.int x8), .val (.int x9), .val (.int x10), .val (.int x11), .val (.int (1 : Int32)), .val (.int x13), .val (.int v13), .val (.ref b23), .unset] [(.int (1 : Int32))])) _
      refine XS.iconst X27.here hx rfl (hb hby at_163) ?_
      show Steps p.tables e below (T27.setTop (mkF m 164 #[.val (.int p1), .val (.int p2), .val (.int p3), .val (.int p4), .val (.int p5), .val (.long q6), .second, .val (.int x7), .val (.int x8), .val (.int x9), .val (.int x10), .val (.int x11), .val (.int (1 : Int32)), .val (.int x13), .val (.int v13), .val (.ref b23), .unset] [(.int (2 : Int32)), (.int (1 : Int32))])) _
      refine XS.icmpYes X27.here hx rfl (pc0 := 164) (pc' := 175) rfl (hb hby at_164) rfl (flt (by decide : ¬ ((2 : Int32) < (1 : Int32)))).2.2.2 (by decide) (by decide) ?_
      show Steps p.tables e below (T27.setTop (mkF m 175 #[.val (.int p1), .val (.int p2), .val (.int p3), .val (.int p4), .val (.int p5), .val (.long q6), .second, .val (.int x7), .val (.int x8), .val (.int x9), .val (.int x10), .val (.int x11), .val (.int (1 : Int32)), .val (.int x13), .val (.int v13), .val (.ref b23), .unset] [])) _
      refine XS.iload X27.here hx rfl (hb hby at_175) rfl ?_
      show Steps p.tables e below (T27.setTop (mkF m 177 #[.val (.int p1), .val (.int p2), .val (.int p3), .val (.int p4), .val (.int p5), .val (.long q6), .second, .val (.int x7), .val (.int x8), .val (.int x9), .val (.int x10), .val (.int x11), .val (.int (1 : Int32)), .val (.int x13), .val (.int v13), .val (.ref b23), .unset] [(.int (1 : Int32))])) _
      refine XS.iconst X27.here hx rfl (hb hby at_177) ?_
      show Steps p.tables e below (T27.setTop (mkF m 178 #[.val (.int p1), .val (.int p2), .val (.int p3), .val (.int p4), .val (.int p5), .val (.long q6), .second, .val (.int x7), .val (.int x8), .val (.int x9), .val (.int x10), .val (.int x11), .val (.int (1 : Int32)), .val (.int x13), .val (.int v13), .val (.ref b23), .unset] [(.int (3 : Int32)), (.int (1 : Int32))])) _
      refine XS.icmpYes X27.here hx rfl (pc0 := 178) (pc' := 189) rfl (hb hby at_178) rfl (flt (by decide : ¬ ((3 : Int32) < (1 : Int32)))).2.2.2 (by decide) (by decide) ?_
      show Steps p.tables e below (T27.setTop (mkF m 189 #[.val (.int p1), .val (.int p2), .val (.int p3), .val (.int p4), .val (.int p5), .val (.long q6), .second, .val (.int x7), .val (.int x8), .val (.int x9), .val (.int x10), .val (.int x11), .val (.int (1 : Int32)), .val (.int x13), .val (.int v13), .val (.ref b23), .unset] [])) _
      refine XS.iload X27.here hx rfl (hb hby at_189) rfl ?_
      show Steps p.tables e below (T27.setTop (mkF m 191 #[.val (.int p1), .val (.int p2), .val (.int p3), .val (.int p4), .val (.int p5), .val (.long q6), .second, .val (.int x7), .val (.int x8), .val (.int x9), .val (.int x10), .val (.int x11), .val (.int (1 : Int32)), .val (.int x13), .val (.int v13), .val (.ref b23), .unset] [(.int (1 : Int32))])) _
      refine XS.iconst X27.here hx rfl (hb hby at_191) ?_
      show Steps p.tables e below (T27.setTop (mkF m 192 #[.val (.int p1), .val (.int p2), .val (.int p3), .val (.int p4), .val (.int p5), .val (.long q6), .second, .val (.int x7), .val (.int x8), .val (.int x9), .val (.int x10), .val (.int x11), .val (.int (1 : Int32)), .val (.int x13), .val (.int v13), .val (.ref b23), .unset] [(.int (4 : Int32)), (.int (1 : Int32))])) _
      refine XS.icmpYes X27.here hx rfl (pc0 := 192) (pc' := 203) rfl (hb hby at_192) rfl (flt (by decide : ¬ ((4 : Int32) < (1 : Int32)))).2.2.2 (by decide) (by decide) ?_
      show Steps p.tables e below (T27.setTop (mkF m 203 #[.val (.int p1), .val (.int p2), .val (.int p3), .val (.int p4), .val (.int p5), .val (.long q6), .second, .val (.int x7), .val (.int x8), .val (.int x9), .val (.int x10), .val (.int x11), .val (.int (1 : Int32)), .val (.int x13), .val (.int v13), .val (.ref b23), .unset] [])) _
      refine XS.iload X27.here hx rfl (hb hby at_203) rfl ?_
      show Steps p.tables e below (T27.setTop (mkF m 205 #[.val (.int p1), .val (.int p2), .val (.int p3), .val (.int p4), .val (.int p5), .val (.long q6), .second, .val (.int x7), .val (.int x8), .val (.int x9), .val (.int x10), .val (.int x11), .val (.int (1 : Int32)), .val (.int x13), .val (.int v13), .val (.ref b23), .unset] [(.int (1 : Int32))])) _
      refine XS.ifNo X27.here hx rfl (hb hby at_205) rfl ((if0 _ _).trans (tlt (by decide : (0 : Int32) < (1 : Int32))).2.2.2) ?_
      show Steps p.tables e below (T27.setTop (mkF m 208 #[.val (.int p1), .val (.int p2), .val (.int p3), .val (.int p4), .val (.int p5), .val (.long q6), .second, .val (.int x7), .val (.int x8), .val (.int x9), .val (.int x10), .val (.int x11), .val (.int (1 : Int32)), .val (.int x13), .val (.int v13), .val (.ref b23), .unset] [])) _
      refine XS.iload X27.here hx rfl (hb hby at_208) rfl ?_
      show Steps p.tables e below (T27.setTop (mkF m 210 #[.val (.int p1), .val (.int p2), .val (.int p3), .val (.int p4), .val (.int p5), .val (.long q6), .second, .val (.int x7), .val (.int x8), .val (.int x9), .val (.int x10), .val (.int x11), .val (.int (1 : Int32)), .val (.int x13), .val (.int v13), .val (.ref b23), .unset] [(.int v13)])) _
      refine XS.iload X27.here hx rfl (hb hby at_210) rfl ?_
      exact kt
    have pre31 : ∀ t, Steps p.tables e below (T27.setTop (mkF m 272 #[.val (.int p1), .val (.int p2), .val (.int p3), .val (.int p4), .val (.int p5), .val (.long q6), .second, .val (.int x7), .val (.int x8), .val (.int x9), .val (.int x10), .val (.int x11), .val (.int (1 : Int32)), .val (.int x13), .val (.int v13), .val (.ref b23), .unset] [(.int (if v13 = x7 then (1 : Int32) else (0 : Int32)))])) t → Steps p.tables e below (s₁.setTop (entryFrame m #[(.int p1), (.int p2), (.int p3), (.int p4), (.int p5), (.long q6)] maxLocals)) t := by
      by_cases hc30 : v13 = x7
      · refine fun t kt => pre29 t ?_
        repeat rw [if_pos hc30] at kt
        show Steps p.tables e below (T27.setTop (mkF m 212 #[.val (.int p1), .val (.int p2), .val (.int p3), .val (.int p4), .val (.int p5), .val (.long q6), .second, .val (.int x7), .val (.int x8), .val (.int x9), .val (.int x10), .val (.int x11), .val (.int (1 : Int32)), .val (.int x13), .val (.int v13), .val (.ref b23), .unset] [(.int x7), (.int v13)])) _
        refine XS.icmpYes X27.here hx rfl (pc0 := 212) (pc' := 267) rfl (hb hby at_212) rfl (teq hc30).1 (by decide) (by decide) ?_
        show Steps p.tables e below (T27.setTop (mkF m 267 #[.val (.int p1), .val (.int p2), .val (.int p3), .val (.int p4), .val (.int p5), .val (.long q6), .second, .val (.int x7), .val (.int x8), .val (.int x9), .val (.int x10), .val (.int x11), .val (.int (1 : Int32)), .val (.int x13), .val (.int v13), .val (.ref b23), .unset] [])) _
        refine XS.iconst X27.here hx rfl (hb hby at_267) ?_
        show Steps p.tables e below (T27.setTop (mkF m 268 #[.val (.int p1), .val (.int p2), .val (.int p3), .val (.int p4), .val (.int p5), .val (.long q6), .second, .val (.int x7), .val (.int x8), .val (.int x9), .val (.int x10), .val (.int x11), .val (.int (1 : Int32)), .val (.int x13), .val (.int v13), .val (.ref b23), .unset] [(.int (1 : Int32))])) _
        refine XS.goto X27.here hx rfl (pc0 := 268) (pc' := 272) rfl (hb hby at_268) (by decide) (by decide) ?_
        exact kt
      · refine fun t kt => pre29 t ?_
        repeat rw [if_neg hc30] at kt
        show Steps p.tables e below (T27.setTop (mkF m 212 #[.val (.int p1), .val (.int p2), .val (.int p3), .val (.int p4), .val (.int p5), .val (.long q6), .second, .val (.int x7), .val (.int x8), .val (.int x9), .val (.int x10), .val (.int x11), .val (.int (1 : Int32)), .val (.int x13), .val (.int v13), .val (.ref b23), .unset] [(.int x7), (.int v13)])) _
        refine XS.icmpNo X27.here hx rfl (hb hby at_212) rfl (feq hc30).1 ?_
        show Steps p.tables e below (T27.setTop (mkF m 215 #[.val (.int p1), .val (.int p2), .val (.int p3), .val (.int p4), .val (.int p5), .val (.long q6), .second, .val (.int x7), .val (.int x8), .val (.int x9), .val (.int x10), .val (.int x11), .val (.int (1 : Int32)), .val (.int x13), .val (.int v13), .val (.ref b23), .unset] [])) _
        refine XS.iload X27.here hx rfl (hb hby at_215) rfl ?_
        show Steps p.tables e below (T27.setTop (mkF m 217 #[.val (.int p1), .val (.int p2), .val (.int p3), .val (.int p4), .val (.int p5), .val (.long q6), .second, .val (.int x7), .val (.int x8), .val (.int x9), .val (.int x10), .val (.int x11), .val (.int (1 : Int32)), .val (.int x13), .val (.int v13), .val (.ref b23), .unset] [(.int (1 : Int32))])) _
        refine XS.iconst X27.here hx rfl (hb hby at_217) ?_
        show Steps p.tables e below (T27.setTop (mkF m 218 #[.val (.int p1), .val (.int p2), .val (.int p3), .val (.int p4), .val (.int p5), .val (.long q6), .second, .val (.int x7), .val (.int x8), .val (.int x9), .val (.int x10), .val (.int x11), .val (.int (1 : Int32)), .val (.int x13), .val (.int v13), .val (.ref b23), .unset] [(.int (1 : Int32)), (.int (1 : Int32))])) _
        refine XS.icmpYes X27.here hx rfl (pc0 := 218) (pc' := 228) rfl (hb hby at_218) rfl (flt (by decide : ¬ ((1 : Int32) < (1 : Int32)))).2.2.2 (by decide) (by decide) ?_
        show Steps p.tables e below (T27.setTop (mkF m 228 #[.val (.int p1), .val (.int p2), .val (.int p3), .val (.int p4), .val (.int p5), .val (.long q6), .second, .val (.int x7), .val (.int x8), .val (.int x9), .val (.int x10), .val (.int x11), .val (.int (1 : Int32)), .val (.int x13), .val (.int v13), .val (.ref b23), .unset] [])) _
        refine XS.iload X27.here hx rfl (hb hby at_228) rfl ?_
        show Steps p.tables e below (T27.setTop (mkF m 230 #[.val (.int p1), .val (.int p2), .val (.int p3), .val (.int p4), .val (.int p5), .val (.long q6), .second, .val (.int x7), .val (.int x8), .val (.int x9), .val (.int x10), .val (.int x11), .val (.int (1 : Int32)), .val (.int x13), .val (.int v13), .val (.ref b23), .unset] [(.int (1 : Int32))])) _
        refine XS.iconst X27.here hx rfl (hb hby at_230) ?_
        show Steps p.tables e below (T27.setTop (mkF m 231 #[.val (.int p1), .val (.int p2), .val (.int p3), .val (.int p4), .val (.int p5), .val (.long q6), .second, .val (.int x7), .val (.int x8), .val (.int x9), .val (.int x10), .val (.int x11), .val (.int (1 : Int32)), .val (.int x13), .val (.int v13), .val (.ref b23), .unset] [(.int (2 : Int32)), (.int (1 : Int32))])) _
        refine XS.icmpYes X27.here hx rfl (pc0 := 231) (pc' := 241) rfl (hb hby at_231) rfl (flt (by decide : ¬ ((2 : Int32) < (1 : Int32)))).2.2.2 (by decide) (by decide) ?_
        show Steps p.tables e below (T27.setTop (mkF m 241 #[.val (.int p1), .val (.int p2), .val (.int p3), .val (.int p4), .val (.int p5), .val (.long q6), .second, .val (.int x7), .val (.int x8), .val (.int x9), .val (.int x10), .val (.int x11), .val (.int (1 : Int32)), .val (.int x13), .val (.int v13), .val (.ref b23), .unset] [])) _
        refine XS.iload X27.here hx rfl (hb hby at_241) rfl ?_
        show Steps p.tables e below (T27.setTop (mkF m 243 #[.val (.int p1), .val (.int p2), .val (.int p3), .val (.int p4), .val (.int p5), .val (.long q6), .second, .val (.int x7), .val (.int x8), .val (.int x9), .val (.int x10), .val (.int x11), .val (.int (1 : Int32)), .val (.int x13), .val (.int v13), .val (.ref b23), .unset] [(.int (1 : Int32))])) _
        refine XS.iconst X27.here hx rfl (hb hby at_243) ?_
        show Steps p.tables e below (T27.setTop (mkF m 244 #[.val (.int p1), .val (.int p2), .val (.int p3), .val (.int p4), .val (.int p5), .val (.long q6), .second, .val (.int x7), .val (.int x8), .val (.int x9), .val (.int x10), .val (.int x11), .val (.int (1 : Int32)), .val (.int x13), .val (.int v13), .val (.ref b23), .unset] [(.int (3 : Int32)), (.int (1 : Int32))])) _
        refine XS.icmpYes X27.here hx rfl (pc0 := 244) (pc' := 254) rfl (hb hby at_244) rfl (flt (by decide : ¬ ((3 : Int32) < (1 : Int32)))).2.2.2 (by decide) (by decide) ?_
        show Steps p.tables e below (T27.setTop (mkF m 254 #[.val (.int p1), .val (.int p2), .val (.int p3), .val (.int p4), .val (.int p5), .val (.long q6), .second, .val (.int x7), .val (.int x8), .val (.int x9), .val (.int x10), .val (.int x11), .val (.int (1 : Int32)), .val (.int x13), .val (.int v13), .val (.ref b23), .unset] [])) _
        refine XS.iload X27.here hx rfl (hb hby at_254) rfl ?_
        show Steps p.tables e below (T27.setTop (mkF m 256 #[.val (.int p1), .val (.int p2), .val (.int p3), .val (.int p4), .val (.int p5), .val (.long q6), .second, .val (.int x7), .val (.int x8), .val (.int x9), .val (.int x10), .val (.int x11), .val (.int (1 : Int32)), .val (.int x13), .val (.int v13), .val (.ref b23), .unset] [(.int (1 : Int32))])) _
        refine XS.iconst X27.here hx rfl (hb hby at_256) ?_
        show Steps p.tables e below (T27.setTop (mkF m 257 #[.val (.int p1), .val (.int p2), .val (.int p3), .val (.int p4), .val (.int p5), .val (.long q6), .second, .val (.int x7), .val (.int x8), .val (.int x9), .val (.int x10), .val (.int x11), .val (.int (1 : Int32)), .val (.int x13), .val (.int v13), .val (.ref b23), .unset] [(.int (4 : Int32)), (.int (1 : Int32))])) _
        refine XS.icmpYes X27.here hx rfl (pc0 := 257) (pc' := 271) rfl (hb hby at_257) rfl (flt (by decide : ¬ ((4 : Int32) < (1 : Int32)))).2.2.2 (by decide) (by decide) ?_
        show Steps p.tables e below (T27.setTop (mkF m 271 #[.val (.int p1), .val (.int p2), .val (.int p3), .val (.int p4), .val (.int p5), .val (.long q6), .second, .val (.int x7), .val (.int x8), .val (.int x9), .val (.int x10), .val (.int x11), .val (.int (1 : Int32)), .val (.int x13), .val (.int v13), .val (.ref b23), .unset] [])) _
        refine XS.iconst X27.here hx rfl (hb hby at_271) ?_
        exact kt
    obtain ⟨v32, hv32⟩ : ∃ z : Int32, z = (if v13 = x7 then (1 : Int32) else (0 : Int32)) := ⟨_, rfl⟩
    rw [← hv32] at pre31
    have z34 : n0 ≤ T27.heap.size := (Nat.le_trans z28 hs27)
    obtain ⟨cq33, kq33, iq33a, iq33b, iq33c⟩ := isOf hZ rfl Ee27
    obtain ⟨_, _, ⟨T33, L33, k33, n33⟩, -, X33, ⟨Lc33, hQ33, l33, y33, z33⟩, st33⟩ := X27.virtualBack hx (y := (⟨"com/example/krel/krel/saturation/AtomSet", "contains", "(I)Z"⟩ : MethodName)) (z := (⟨"com/example/krel/krel/saturation/AtomSet", "contains", "(I)Z"⟩ : MethodName)) hown (mvT hZ (hw _ (List.mem_of_getElem? (i := 15) rfl))) (mvT hZ (hw _ (List.mem_of_getElem? (i := 16) rfl))) (notFace_of_selects (args := #[]) (mvT hZ (hw _ (List.mem_of_getElem? (i := 18) rfl)))) (mvT hZ (hw _ (List.mem_of_getElem? (i := 18) rfl))) (mvT hZ (hw _ (List.mem_of_getElem? (i := 17) rfl))) (by decide) (backOf (W := 0) (rm90003 l Z a0 hw [] b23 v13 (own_ins [] x7) T27.heap n0 z34 A27 (side_0_pos278_2 p1 p2 p3 p4 p5 q6 x7 hx7 x8 hx8 x9 hx9 x10 hx10 x11 hx11 x12 hx12 x13 hx13 x14 hx14 v13 hv13 hk14 v32 hv32)) hZ (hw _ (List.mem_of_getElem? (i := 19) rfl)) (hw _ (List.mem_of_getElem? (i := 3) rfl)) (by decide) (by decide)) iq33a iq33c (g := (mkF m 278 #[.val (.int p1), .val (.int p2), .val (.int p3), .val (.int p4), .val (.int p5), .val (.long q6), .second, .val (.int x7), .val (.int x8), .val (.int x9), .val (.int x10), .val (.int x11), .val (.int (1 : Int32)), .val (.int x13), .val (.int v13), .val (.ref b23), .val (.int v32)] [(.int v13), (.ref b23)])) rfl (by rw [hml]; rfl) (Steps.refl _) (argsL := [(.int v13)]) (rest := []) (lenOf pd_0_1 rfl) rfl (by show 2 * 0 + _ ≤ _; exact Nat.le_of_eq rfl) (hb hby at_278) (fun _ _ => ⟨rfl, rfl, (by decide : 5 + 0 ≤ _), (by decide : 39 + 0 ≤ _)⟩)
    dsimp only [Pt.U, Pt.locs, Pt.cells, Pt.slots] at X33 l33 y33 z33 st33 hQ33
    subst l33 y33 z33
    obtain ⟨rfl, N33q, e33⟩ := hQ33
    have N33 := Fr.app N27 N33q
    have pre35 : ∀ t, Steps p.tables e below (T33.setTop (mkF m 283 #[.val (.int p1), .val (.int p2), .val (.int p3), .val (.int p4), .val (.int p5), .val (.long q6), .second, .val (.int x7), .val (.int x8), .val (.int x9), .val (.int x10), .val (.int x11), .val (.int (1 : Int32)), .val (.int x13), .val (.int v13), .val (.ref b23), .val (.int v32)] [(.int v32), (.int (if v13 ∈ (own_ins [] x7) then (1 : Int32) else (0 : Int32)))])) t → Steps p.tables e below (s₁.setTop (entryFrame m #[(.int p1), (.int p2), (.int p3), (.int p4), (.int p5), (.long q6)] maxLocals)) t := fun t kt => by
      refine pre31 t ?_
      show Steps p.tables e below (T27.setTop (mkF m 272 #[.val (.int p1), .val (.int p2), .val (.int p3), .val (.int p4), .val (.int p5), .val (.long q6), .second, .val (.int x7), .val (.int x8), .val (.int x9), .val (.int x10), .val (.int x11), .val (.int (1 : Int32)), .val (.int x13), .val (.int v13), .val (.ref b23), .unset] [(.int v32)])) _
      refine XS.istore X27.here hx rfl (hb hby at_272) rfl (l' := #[.val (.int p1), .val (.int p2), .val (.int p3), .val (.int p4), .val (.int p5), .val (.long q6), .second, .val (.int x7), .val (.int x8), .val (.int x9), .val (.int x10), .val (.int x11), .val (.int (1 : Int32)), .val (.int x13), .val (.int v13), .val (.ref b23), .val (.int v32)]) rfl ?_
      show Steps p.tables e below (T27.setTop (mkF m 274 #[.val (.int p1), .val (.int p2), .val (.int p3), .val (.int p4), .val (.int p5), .val (.long q6), .second, .val (.int x7), .val (.int x8), .val (.int x9), .val (.int x10), .val (.int x11), .val (.int (1 : Int32)), .val (.int x13), .val (.int v13), .val (.ref b23), .val (.int v32)] [])) _
      refine XS.aload X27.here hx rfl (hb hby at_274) rfl rfl ?_
      show Steps p.tables e below (T27.setTop (mkF m 276 #[.val (.int p1), .val (.int p2), .val (.int p3), .val (.int p4), .val (.int p5), .val (.long q6), .second, .val (.int x7), .val (.int x8), .val (.int x9), .val (.int x10), .val (.int x11), .val (.int (1 : Int32)), .val (.int x13), .val (.int v13), .val (.ref b23), .val (.int v32)] [(.ref b23)])) _
      refine XS.iload X27.here hx rfl (hb hby at_276) rfl ?_
      show Steps p.tables e below (T27.setTop (mkF m 278 #[.val (.int p1), .val (.int p2), .val (.int p3), .val (.int p4), .val (.int p5), .val (.long q6), .second, .val (.int x7), .val (.int x8), .val (.int x9), .val (.int x10), .val (.int x11), .val (.int (1 : Int32)), .val (.int x13), .val (.int v13), .val (.ref b23), .val (.int v32)] [(.int v13), (.ref b23)])) _
      refine st33.trans ?_
      show Steps p.tables e below (T33.setTop (mkF m 281 #[.val (.int p1), .val (.int p2), .val (.int p3), .val (.int p4), .val (.int p5), .val (.long q6), .second, .val (.int x7), .val (.int x8), .val (.int x9), .val (.int x10), .val (.int x11), .val (.int (1 : Int32)), .val (.int x13), .val (.int v13), .val (.ref b23), .val (.int v32)] [(.int (if v13 ∈ (own_ins [] x7) then (1 : Int32) else (0 : Int32)))])) _
      refine XS.iload X33.here hx rfl (hb hby at_281) rfl ?_
      exact kt
    by_cases hc36 : (if v13 ∈ (own_ins [] x7) then (1 : Int32) else (0 : Int32)) = v32
    · obtain ⟨fs, hr, hrun, hended, hW, hsame⟩ := X33.leave (v := some (.int (1 : Int32))) (fun h => by rw [Bd.returns] at h; cases h)
      refine ⟨_, _, pre35 _ ?_, hrun, hended, _, _, rfl, ?_, ⟨_, rfl⟩, hW, hsame.mono (by decide) (by decide)⟩
      · show Steps p.tables e below (T33.setTop (mkF m 283 #[.val (.int p1), .val (.int p2), .val (.int p3), .val (.int p4), .val (.int p5), .val (.long q6), .second, .val (.int x7), .val (.int x8), .val (.int x9), .val (.int x10), .val (.int x11), .val (.int (1 : Int32)), .val (.int x13), .val (.int v13), .val (.ref b23), .val (.int v32)] [(.int v32), (.int (if v13 ∈ (own_ins [] x7) then (1 : Int32) else (0 : Int32)))])) _
        refine XS.icmpNo X33.here hx rfl (hb hby at_283) rfl (teq hc36).2 ?_
        show Steps p.tables e below (T33.setTop (mkF m 286 #[.val (.int p1), .val (.int p2), .val (.int p3), .val (.int p4), .val (.int p5), .val (.long q6), .second, .val (.int x7), .val (.int x8), .val (.int x9), .val (.int x10), .val (.int x11), .val (.int (1 : Int32)), .val (.int x13), .val (.int v13), .val (.ref b23), .val (.int v32)] [])) _
        refine XS.iconst X33.here hx rfl (hb hby at_286) ?_
        show Steps p.tables e below (T33.setTop (mkF m 287 #[.val (.int p1), .val (.int p2), .val (.int p3), .val (.int p4), .val (.int p5), .val (.long q6), .second, .val (.int x7), .val (.int x8), .val (.int x9), .val (.int x10), .val (.int x11), .val (.int (1 : Int32)), .val (.int x13), .val (.int v13), .val (.ref b23), .val (.int v32)] [(.int (1 : Int32))])) _
        refine XS.goto X33.here hx rfl (pc0 := 287) (pc' := 291) rfl (hb hby at_287) (by decide) (by decide) ?_
        show Steps p.tables e below (T33.setTop (mkF m 291 #[.val (.int p1), .val (.int p2), .val (.int p3), .val (.int p4), .val (.int p5), .val (.long q6), .second, .val (.int x7), .val (.int x8), .val (.int x9), .val (.int x10), .val (.int x11), .val (.int (1 : Int32)), .val (.int x13), .val (.int v13), .val (.ref b23), .val (.int v32)] [(.int (1 : Int32))])) _
        exact retN X33 hx (t := .boolean) Bd.returns (by simp) (hb hby at_291) hr
      · show Q0 Z p1 p2 p3 p4 p5 q6 h0 n0 _ T33.heap _
        rw [e33]
        exact ⟨rfl, N33⟩
    · exact (leaf_0_4 p1 p2 p3 p4 p5 q6 x7 hx7 x8 hx8 x9 hx9 x10 hx10 x11 hx11 x12 hx12 x13 hx13 x14 hx14 v13 hv13 hk14 v32 hv32 hc36).elim
  · rw [hk14] at pre12
    obtain ⟨b37, g37⟩ : ∃ z, z = h0.size := ⟨_, rfl⟩
    obtain ⟨T37, h37, X37, e37, E37, A37, D37, -, st37⟩ := newO X0 hx hZ hown (hw _ (List.mem_of_getElem? (i := 1) rfl)) (hw _ (List.mem_of_getElem? (i := 2) rfl)) (hw _ (List.mem_of_getElem? (i := 3) rfl)) e0 (g := (mkF m 125 #[.val (.int p1), .val (.int p2), .val (.int p3), .val (.int p4), .val (.int p5), .val (.long q6), .second, .val (.int x7), .val (.int x8), .val (.int x9), .val (.int x10), .val (.int x11), .val (.int (2 : Int32)), .val (.int x13), .val (.int v13), .unset, .unset] [])) rfl (hb hby at_125) (by decide) (by decide)
    rw [← g37] at A37 D37 st37
    have g_b37 : n0 ≤ b37 := Nat.le_trans Z0 (Nat.le_of_eq g37.symm)
    have F_slots_b37 : Fld Z h37 b37 "com/example/krel/krel/saturation/AtomSet" "slots" "[I" .null := D37 (Or.inl (hw _ (List.mem_of_getElem? (i := 12) rfl))) (ty := (.array .int)) (by decide)
    have F_atoms_b37 : Fld Z h37 b37 "com/example/krel/krel/saturation/AtomSet" "atoms" "[I" .null := D37 (Or.inl (hw _ (List.mem_of_getElem? (i := 14) rfl))) (ty := (.array .int)) (by decide)
    have F_size_b37 : Fld Z h37 b37 "com/example/krel/krel/saturation/AtomSet" "size" "I" (.int (0 : Int32)) := D37 (Or.inl (hw _ (List.mem_of_getElem? (i := 31) rfl))) (ty := .int) (by decide)
    have z39 : n0 ≤ h37.size := (Nat.le_trans Z0 E37.1)
    obtain ⟨_, _, ⟨T38, L38, k38, n38⟩, -, X38, ⟨Lc38, hQ38, l38, y38, z38⟩, st38⟩ := X37.specialBack hx (y := (⟨"com/example/krel/krel/saturation/AtomSet", "<init>", "()V"⟩ : MethodName)) rfl hown (mvT hZ (hw _ (List.mem_of_getElem? (i := 4) rfl))) (mvT hZ (hw _ (List.mem_of_getElem? (i := 5) rfl))) (mvT hZ (hw _ (List.mem_of_getElem? (i := 6) rfl))) (by decide) (backOf (W := 1) (rm1 l Z a0 hw [] b37 (.int (0 : Int32)) .null .null h37 n0 z39 A37 F_size_b37 F_slots_b37 g_b37 F_atoms_b37) hZ (hw _ (List.mem_of_getElem? (i := 6) rfl)) (hw _ (List.mem_of_getElem? (i := 3) rfl)) (by decide) (by decide)) (g := (mkF m 129 #[.val (.int p1), .val (.int p2), .val (.int p3), .val (.int p4), .val (.int p5), .val (.long q6), .second, .val (.int x7), .val (.int x8), .val (.int x9), .val (.int x10), .val (.int x11), .val (.int (2 : Int32)), .val (.int x13), .val (.int v13), .unset, .unset] [(.ref b37), (.ref b37)])) rfl (by rw [hml]; rfl) (Steps.refl _) (a := b37) (argsL := []) (rest := [(.ref b37)]) (lenOf pd_0_0 rfl) rfl (by show 2 * 0 + _ ≤ _; exact Nat.le_of_eq rfl) (hb hby at_129) (fun _ _ => ⟨rfl, e37, (by decide : 1 + 2 ≤ _), (by decide : 3 + 12 ≤ _)⟩)
    dsimp only [Pt.U, Pt.locs, Pt.cells, Pt.slots] at X38 l38 y38 z38 st38 hQ38
    subst l38 y38 z38
    obtain ⟨b38_0, b38_1, kk38_0, kk38_1, rfl, N38q, g_b38_0, g_b38_1, hz_b38_0, hz_b38_1, ne_b38_0_b38_1, K38, f38_0, f38_1, f38_2, f38_3, f38_4, f38_5⟩ := hQ38
    have ne_b37_b38_0 : b37 ≠ b38_0 := Nat.ne_of_lt (Nat.lt_of_lt_of_le A37.lt hz_b38_0)
    have ne_b37_b38_1 : b37 ≠ b38_1 := Nat.ne_of_lt (Nat.lt_of_lt_of_le A37.lt hz_b38_1)
    have N38 := Fr.app N0 N38q
    have A40 : own_AS Z T38.heap n0 b37 [] := ⟨b38_0, b38_1, kk38_0, kk38_1, [0, 0, 0, 0, 0, 0, 0, 0], [0, 0, 0, 0], f38_0, f38_3, f38_1, f38_2, g_b37, g_b38_0, g_b38_1, ne_b37_b38_0, ne_b37_b38_1, ne_b38_0_b38_1, (fun y hy => by simp at hy), List.nodup_nil, Or.inl ⟨by decide, rfl, f38_4, own_empty _ 8 (by decide), rfl, f38_5, rfl⟩⟩
    have hn40 : ([] : List Int32).length ≤ 0 := Nat.le_refl _
    have z42 : n0 ≤ T38.heap.size := (Nat.le_trans z39 K38.1)
    obtain ⟨cq41, kq41, iq41a, iq41b, iq41c⟩ := isOf hZ rfl f38_0
    obtain ⟨_, _, ⟨T41, L41, k41, n41⟩, -, X41, ⟨Lc41, hQ41, l41, y41, z41⟩, st41⟩ := X38.virtualBack hx (y := (⟨"com/example/krel/krel/saturation/AtomSet", "add", "(I)Z"⟩ : MethodName)) (z := (⟨"com/example/krel/krel/saturation/AtomSet", "add", "(I)Z"⟩ : MethodName)) hown (mvT hZ (hw _ (List.mem_of_getElem? (i := 25) rfl))) (mvT hZ (hw _ (List.mem_of_getElem? (i := 26) rfl))) (notFace_of_selects (args := #[]) (mvT hZ (hw _ (List.mem_of_getElem? (i := 28) rfl)))) (mvT hZ (hw _ (List.mem_of_getElem? (i := 28) rfl))) (mvT hZ (hw _ (List.mem_of_getElem? (i := 27) rfl))) (by decide) (backOf (W := 0) (rm90005 l Z a0 hw [] b37 x7 [] T38.heap n0 z42 A40 (Nat.le_trans hn40 (by decide)) (side_0_pos143_2 p1 p2 p3 p4 p5 q6 x7 hx7 x8 hx8 x9 hx9 x10 hx10 x11 hx11 x12 hx12 x13 hx13 x14 hx14 v13 hv13 hk14)) hZ (hw _ (List.mem_of_getElem? (i := 29) rfl)) (hw _ (List.mem_of_getElem? (i := 3) rfl)) (by decide) (by decide)) iq41a iq41c (g := (mkF m 143 #[.val (.int p1), .val (.int p2), .val (.int p3), .val (.int p4), .val (.int p5), .val (.long q6), .second, .val (.int x7), .val (.int x8), .val (.int x9), .val (.int x10), .val (.int x11), .val (.int (2 : Int32)), .val (.int x13), .val (.int v13), .val (.ref b37), .unset] [(.int x7), (.ref b37)])) rfl (by rw [hml]; rfl) (Steps.refl _) (argsL := [(.int x7)]) (rest := []) (lenOf pd_0_1 rfl) rfl (by show 2 * 0 + _ ≤ _; exact Nat.le_of_eq rfl) (hb hby at_143) (fun _ _ => ⟨rfl, rfl, (by decide : 3 + 2 ≤ _), (by decide : 15 + 24 ≤ _)⟩)
    dsimp only [Pt.U, Pt.locs, Pt.cells, Pt.slots] at X41 l41 y41 z41 st41 hQ41
    subst l41 y41 z41
    obtain ⟨⟨r41, rfl⟩, N41q, hs41, A41⟩ := hQ41
    have hn41 := own_inslen (x := x7) hn40
    have Ee41 := own_ASexa A41
    have N41 := Fr.app N38 N41q
    have z44 : n0 ≤ T41.heap.size := (Nat.le_trans z42 hs41)
    obtain ⟨cq43, kq43, iq43a, iq43b, iq43c⟩ := isOf hZ rfl Ee41
    obtain ⟨_, _, ⟨T43, L43, k43, n43⟩, -, X43, ⟨Lc43, hQ43, l43, y43, z43⟩, st43⟩ := X41.virtualBack hx (y := (⟨"com/example/krel/krel/saturation/AtomSet", "add", "(I)Z"⟩ : MethodName)) (z := (⟨"com/example/krel/krel/saturation/AtomSet", "add", "(I)Z"⟩ : MethodName)) hown (mvT hZ (hw _ (List.mem_of_getElem? (i := 25) rfl))) (mvT hZ (hw _ (List.mem_of_getElem? (i := 26) rfl))) (notFace_of_selects (args := #[]) (mvT hZ (hw _ (List.mem_of_getElem? (i := 28) rfl)))) (mvT hZ (hw _ (List.mem_of_getElem? (i := 28) rfl))) (mvT hZ (hw _ (List.mem_of_getElem? (i := 27) rfl))) (by decide) (backOf (W := 0) (rm90005 l Z a0 hw [] b37 x8 (own_ins [] x7) T41.heap n0 z44 A41 (Nat.le_trans hn41 (by decide)) (side_0_pos157 p1 p2 p3 p4 p5 q6 x7 hx7 x8 hx8 x9 hx9 x10 hx10 x11 hx11 x12 hx12 x13 hx13 x14 hx14 v13 hv13 hk14)) hZ (hw _ (List.mem_of_getElem? (i := 29) rfl)) (hw _ (List.mem_of_getElem? (i := 3) rfl)) (by decide) (by decide)) iq43a iq43c (g := (mkF m 157 #[.val (.int p1), .val (.int p2), .val (.int p3), .val (.int p4), .val (.int p5), .val (.long q6), .second, .val (.int x7), .val (.int x8), .val (.int x9), .val (.int x10), .val (.int x11), .val (.int (2 : Int32)), .val (.int x13), .val (.int v13), .val (.ref b37), .unset] [(.int x8), (.ref b37)])) rfl (by rw [hml]; rfl) (Steps.refl _) (argsL := [(.int x8)]) (rest := []) (lenOf pd_0_1 rfl) rfl (by show 2 * 0 + _ ≤ _; exact Nat.le_of_eq rfl) (hb hby at_157) (fun _ _ => ⟨rfl, rfl, (by decide : 5 + 2 ≤ _), (by decide : 39 + 24 ≤ _)⟩)
    dsimp only [Pt.U, Pt.locs, Pt.cells, Pt.slots] at X43 l43 y43 z43 st43 hQ43
    subst l43 y43 z43
    obtain ⟨⟨r43, rfl⟩, N43q, hs43, A43⟩ := hQ43
    have hn43 := own_inslen (x := x8) hn41
    have Ee43 := own_ASexa A43
    have N43 := Fr.app N41 N43q
    have pre45 : ∀ t, Steps p.tables e below (T43.setTop (mkF m 212 #[.val (.int p1), .val (.int p2), .val (.int p3), .val (.int p4), .val (.int p5), .val (.long q6), .second, .val (.int x7), .val (.int x8), .val (.int x9), .val (.int x10), .val (.int x11), .val (.int (2 : Int32)), .val (.int x13), .val (.int v13), .val (.ref b37), .unset] [(.int x7), (.int v13)])) t → Steps p.tables e below (s₁.setTop (entryFrame m #[(.int p1), (.int p2), (.int p3), (.int p4), (.int p5), (.long q6)] maxLocals)) t := fun t kt => by
      refine pre12 t ?_
      show Steps p.tables e below (s₁.setTop (mkF m 125 #[.val (.int p1), .val (.int p2), .val (.int p3), .val (.int p4), .val (.int p5), .val (.long q6), .second, .val (.int x7), .val (.int x8), .val (.int x9), .val (.int x10), .val (.int x11), .val (.int (2 : Int32)), .val (.int x13), .val (.int v13), .unset, .unset] [])) _
      refine st37 _ ?_
      show Steps p.tables e below (T37.setTop (mkF m 128 #[.val (.int p1), .val (.int p2), .val (.int p3), .val (.int p4), .val (.int p5), .val (.long q6), .second, .val (.int x7), .val (.int x8), .val (.int x9), .val (.int x10), .val (.int x11), .val (.int (2 : Int32)), .val (.int x13), .val (.int v13), .unset, .unset] [(.ref b37)])) _
      refine XS.dup X37.here hx rfl (hb hby at_128) rfl rfl ?_
      show Steps p.tables e below (T37.setTop (mkF m 129 #[.val (.int p1), .val (.int p2), .val (.int p3), .val (.int p4), .val (.int p5), .val (.long q6), .second, .val (.int x7), .val (.int x8), .val (.int x9), .val (.int x10), .val (.int x11), .val (.int (2 : Int32)), .val (.int x13), .val (.int v13), .unset, .unset] [(.ref b37), (.ref b37)])) _
      refine st38.trans ?_
      show Steps p.tables e below (T38.setTop (mkF m 132 #[.val (.int p1), .val (.int p2), .val (.int p3), .val (.int p4), .val (.int p5), .val (.long q6), .second, .val (.int x7), .val (.int x8), .val (.int x9), .val (.int x10), .val (.int x11), .val (.int (2 : Int32)), .val (.int x13), .val (.int v13), .unset, .unset] [(.ref b37)])) _
      refine XS.astore X38.here hx rfl (hb hby at_132) rfl rfl (l' := #[.val (.int p1), .val (.int p2), .val (.int p3), .val (.int p4), .val (.int p5), .val (.long q6), .second, .val (.int x7), .val (.int x8), .val (.int x9), .val (.int x10), .val (.int x11), .val (.int (2 : Int32)), .val (.int x13), .val (.int v13), .val (.ref b37), .unset]) rfl ?_
      show Steps p.tables e below (T38.setTop (mkF m 134 #[.val (.int p1), .val (.int p2), .val (.int p3), .val (.int p4), .val (.int p5), .val (.long q6), .second, .val (.int x7), .val (.int x8), .val (.int x9), .val (.int x10), .val (.int x11), .val (.int (2 : Int32)), .val (.int x13), .val (.int v13), .val (.ref b37), .unset] [])) _
      refine XS.iload X38.here hx rfl (hb hby at_134) rfl ?_
      show Steps p.tables e below (T38.setTop (mkF m 136 #[.val (.int p1), .val (.int p2), .val (.int p3), .val (.int p4), .val (.int p5), .val (.long q6), .second, .val (.int x7), .val (.int x8), .val (.int x9), .val (.int x10), .val (.int x11), .val (.int (2 : Int32)), .val (.int x13), .val (.int v13), .val (.ref b37), .unset] [(.int (2 : Int32))])) _
      refine XS.ifNo X38.here hx rfl (hb hby at_136) rfl ((if0 _ _).trans (tlt (by decide : (0 : Int32) < (2 : Int32))).2.2.2) ?_
      show Steps p.tables e below (T38.setTop (mkF m 139 #[.val (.int p1), .val (.int p2), .val (.int p3), .val (.int p4), .val (.int p5), .val (.long q6), .second, .val (.int x7), .val (.int x8), .val (.int x9), .val (.int x10), .val (.int x11), .val (.int (2 : Int32)), .val (.int x13), .val (.int v13), .val (.ref b37), .unset] [])) _
      refine XS.aload X38.here hx rfl (hb hby at_139) rfl rfl ?_
      show Steps p.tables e below (T38.setTop (mkF m 141 #[.val (.int p1), .val (.int p2), .val (.int p3), .val (.int p4), .val (.int p5), .val (.long q6), .second, .val (.int x7), .val (.int x8), .val (.int x9), .val (.int x10), .val (.int x11), .val (.int (2 : Int32)), .val (.int x13), .val (.int v13), .val (.ref b37), .unset] [(.ref b37)])) _
      refine XS.iload X38.here hx rfl (hb hby at_141) rfl ?_
      show Steps p.tables e below (T38.setTop (mkF m 143 #[.val (.int p1), .val (.int p2), .val (.int p3), .val (.int p4), .val (.int p5), .val (.long q6), .second, .val (.int x7), .val (.int x8), .val (.int x9), .val (.int x10), .val (.int x11), .val (.int (2 : Int32)), .val (.int x13), .val (.int v13), .val (.ref b37), .unset] [(.int x7), (.ref b37)])) _
      refine st41.trans ?_
      show Steps p.tables e below (T41.setTop (mkF m 146 #[.val (.int p1), .val (.int p2), .val (.int p3), .val (.int p4), .val (.int p5), .val (.long q6), .second, .val (.int x7), .val (.int x8), .val (.int x9), .val (.int x10), .val (.int x11), .val (.int (2 : Int32)), .val (.int x13), .val (.int v13), .val (.ref b37), .unset] [(.int r41)])) _
      refine XS.pop X41.here hx rfl (hb hby at_146) rfl rfl ?_
      show Steps p.tables e below (T41.setTop (mkF m 147 #[.val (.int p1), .val (.int p2), .val (.int p3), .val (.int p4), .val (.int p5), .val (.long q6), .second, .val (.int x7), .val (.int x8), .val (.int x9), .val (.int x10), .val (.int x11), .val (.int (2 : Int32)), .val (.int x13), .val (.int v13), .val (.ref b37), .unset] [])) _
      refine XS.iload X41.here hx rfl (hb hby at_147) rfl ?_
      show Steps p.tables e below (T41.setTop (mkF m 149 #[.val (.int p1), .val (.int p2), .val (.int p3), .val (.int p4), .val (.int p5), .val (.long q6), .second, .val (.int x7), .val (.int x8), .val (.int x9), .val (.int x10), .val (.int x11), .val (.int (2 : Int32)), .val (.int x13), .val (.int v13), .val (.ref b37), .unset] [(.int (2 : Int32))])) _
      refine XS.iconst X41.here hx rfl (hb hby at_149) ?_
      show Steps p.tables e below (T41.setTop (mkF m 150 #[.val (.int p1), .val (.int p2), .val (.int p3), .val (.int p4), .val (.int p5), .val (.long q6), .second, .val (.int x7), .val (.int x8), .val (.int x9), .val (.int x10), .val (.int x11), .val (.int (2 : Int32)), .val (.int x13), .val (.int v13), .val (.ref b37), .unset] [(.int (1 : Int32)), (.int (2 : Int32))])) _
      refine XS.icmpNo X41.here hx rfl (hb hby at_150) rfl (tlt (by decide : (1 : Int32) < (2 : Int32))).2.2.2 ?_
      show Steps p.tables e below (T41.setTop (mkF m 153 #[.val (.int p1), .val (.int p2), .val (.int p3), .val (.int p4), .val (.int p5), .val (.long q6), .second, .val (.int x7), .val (.int x8), .val (.int x9), .val (.int x10), .val (.int x11), .val (.int (2 : Int32)), .val (.int x13), .val (.int v13), .val (.ref b37), .unset] [])) _
      refine XS.aload X41.here hx rfl (hb hby at_153) rfl rfl ?_
      show Steps p.tables e below (T41.setTop (mkF m 155 #[.val (.int p1), .val (.int p2), .val (.int p3), .val (.int p4), .val (.int p5), .val (.long q6), .second, .val (.int x7), .val (.int x8), .val (.int x9), .val (.int x10), .val (.int x11), .val (.int (2 : Int32)), .val (.int x13), .val (.int v13), .val (.ref b37), .unset] [(.ref b37)])) _
      refine XS.iload X41.here hx rfl (hb hby at_155) rfl ?_
      show Steps p.tables e below (T41.setTop (mkF m 157 #[.val (.int p1), .val (.int p2), .val (.int p3), .val (.int p4), .val (.int p5), .val (.long q6), .second, .val (.int x7), .val (.int x8), .val (.int x9), .val (.int x10), .val (.int x11), .val (.int (2 : Int32)), .val (.int x13), .val (.int v13), .val (.ref b37), .unset] [(.int x8), (.ref b37)])) _
      refine st43.trans ?_
      show Steps p.tables e below (T43.setTop (mkF m 160 #[.val (.int p1), .val (.int p2), .val (.int p3), .val (.int p4), .val (.int p5), .val (.long q6), .second, .val (.int x7), .val (.int x8), .val (.int x9), .val (.int x10), .val (.int x11), .val (.int (2 : Int32)), .val (.int x13), .val (.int v13), .val (.ref b37), .unset] [(.int r43)])) _
      refine XS.pop X43.here hx rfl (hb hby at_160) rfl rfl ?_
      show Steps p.tables e below (T43.setTop (mkF m 161 #[.val (.int p1), .val (.int p2), .val (.int p3), .val (.int p4), .val (.int p5), .val (.long q6), .second, .val (.int x7), .val (.int x8), .val (.int x9), .val (.int x10), .val (.int x11), .val (.int (2 : Int32)), .val (.int x13), .val (.int v13), .val (.ref b37), .unset] [])) _
      refine XS.iload X43.here hx rfl (hb hby at_161) rfl ?_
      show Steps p.tables e below (T43.setTop (mkF m 163 #[.val (.int p1), .val (.int p2), .val (.int p3), .val (.int p4), .val (.int p5), .val (.long q6), .second, .val (.int x7), .val (.int x8), .val (.int x9), .val (.int x10), .val (.int x11), .val (.int (2 : Int32)), .val (.int x13), .val (.int v13), .val (.ref b37), .unset] [(.int (2 : Int32))])) _
      refine XS.iconst X43.here hx rfl (hb hby at_163) ?_
      show Steps p.tables e below (T43.setTop (mkF m 164 #[.val (.int p1), .val (.int p2), .val (.int p3), .val (.int p4), .val (.int p5), .val (.long q6), .second, .val (.int x7), .val (.int x8), .val (.int x9), .val (.int x10), .val (.int x11), .val (.int (2 : Int32)), .val (.int x13), .val (.int v13), .val (.ref b37), .unset] [(.int (2 : Int32)), (.int (2 : Int32))])) _
      refine XS.icmpYes X43.here hx rfl (pc0 := 164) (pc' := 175) rfl (hb hby at_164) rfl (flt (by decide : ¬ ((2 : Int32) < (2 : Int32)))).2.2.2 (by decide) (by decide) ?_
      show Steps p.tables e below (T43.setTop (mkF m 175 #[.val (.int p1), .val (.int p2), .val (.int p3), .val (.int p4), .val (.int p5), .val (.long q6), .second, .val (.int x7), .val (.int x8), .val (.int x9), .val (.int x10), .val (.int x11), .val (.int (2 : Int32)), .val (.int x13), .val (.int v13), .val (.ref b37), .unset] [])) _
      refine XS.iload X43.here hx rfl (hb hby at_175) rfl ?_
      show Steps p.tables e below (T43.setTop (mkF m 177 #[.val (.int p1), .val (.int p2), .val (.int p3), .val (.int p4), .val (.int p5), .val (.long q6), .second, .val (.int x7), .val (.int x8), .val (.int x9), .val (.int x10), .val (.int x11), .val (.int (2 : Int32)), .val (.int x13), .val (.int v13), .val (.ref b37), .unset] [(.int (2 : Int32))])) _
      refine XS.iconst X43.here hx rfl (hb hby at_177) ?_
      show Steps p.tables e below (T43.setTop (mkF m 178 #[.val (.int p1), .val (.int p2), .val (.int p3), .val (.int p4), .val (.int p5), .val (.long q6), .second, .val (.int x7), .val (.int x8), .val (.int x9), .val (.int x10), .val (.int x11), .val (.int (2 : Int32)), .val (.int x13), .val (.int v13), .val (.ref b37), .unset] [(.int (3 : Int32)), (.int (2 : Int32))])) _
      refine XS.icmpYes X43.here hx rfl (pc0 := 178) (pc' := 189) rfl (hb hby at_178) rfl (flt (by decide : ¬ ((3 : Int32) < (2 : Int32)))).2.2.2 (by decide) (by decide) ?_
      show Steps p.tables e below (T43.setTop (mkF m 189 #[.val (.int p1), .val (.int p2), .val (.int p3), .val (.int p4), .val (.int p5), .val (.long q6), .second, .val (.int x7), .val (.int x8), .val (.int x9), .val (.int x10), .val (.int x11), .val (.int (2 : Int32)), .val (.int x13), .val (.int v13), .val (.ref b37), .unset] [])) _
      refine XS.iload X43.here hx rfl (hb hby at_189) rfl ?_
      show Steps p.tables e below (T43.setTop (mkF m 191 #[.val (.int p1), .val (.int p2), .val (.int p3), .val (.int p4), .val (.int p5), .val (.long q6), .second, .val (.int x7), .val (.int x8), .val (.int x9), .val (.int x10), .val (.int x11), .val (.int (2 : Int32)), .val (.int x13), .val (.int v13), .val (.ref b37), .unset] [(.int (2 : Int32))])) _
      refine XS.iconst X43.here hx rfl (hb hby at_191) ?_
      show Steps p.tables e below (T43.setTop (mkF m 192 #[.val (.int p1), .val (.int p2), .val (.int p3), .val (.int p4), .val (.int p5), .val (.long q6), .second, .val (.int x7), .val (.int x8), .val (.int x9), .val (.int x10), .val (.int x11), .val (.int (2 : Int32)), .val (.int x13), .val (.int v13), .val (.ref b37), .unset] [(.int (4 : Int32)), (.int (2 : Int32))])) _
      refine XS.icmpYes X43.here hx rfl (pc0 := 192) (pc' := 203) rfl (hb hby at_192) rfl (flt (by decide : ¬ ((4 : Int32) < (2 : Int32)))).2.2.2 (by decide) (by decide) ?_
      show Steps p.tables e below (T43.setTop (mkF m 203 #[.val (.int p1), .val (.int p2), .val (.int p3), .val (.int p4), .val (.int p5), .val (.long q6), .second, .val (.int x7), .val (.int x8), .val (.int x9), .val (.int x10), .val (.int x11), .val (.int (2 : Int32)), .val (.int x13), .val (.int v13), .val (.ref b37), .unset] [])) _
      refine XS.iload X43.here hx rfl (hb hby at_203) rfl ?_
      show Steps p.tables e below (T43.setTop (mkF m 205 #[.val (.int p1), .val (.int p2), .val (.int p3), .val (.int p4), .val (.int p5), .val (.long q6), .second, .val (.int x7), .val (.int x8), .val (.int x9), .val (.int x10), .val (.int x11), .val (.int (2 : Int32)), .val (.int x13), .val (.int v13), .val (.ref b37), .unset] [(.int (2 : Int32))])) _
      refine XS.ifNo X43.here hx rfl (hb hby at_205) rfl ((if0 _ _).trans (tlt (by decide : (0 : Int32) < (2 : Int32))).2.2.2) ?_
      show Steps p.tables e below (T43.setTop (mkF m 208 #[.val (.int p1), .val (.int p2), .val (.int p3), .val (.int p4), .val (.int p5), .val (.long q6), .second, .val (.int x7), .val (.int x8), .val (.int x9), .val (.int x10), .val (.int x11), .val (.int (2 : Int32)), .val (.int x13), .val (.int v13), .val (.ref b37), .unset] [])) _
      refine XS.iload X43.here hx rfl (hb hby at_208) rfl ?_
      show Steps p.tables e below (T43.setTop (mkF m 210 #[.val (.int p1), .val (.int p2), .val (.int p3), .val (.int p4), .val (.int p5), .val (.long q6), .second, .val (.int x7), .val (.int x8), .val (.int x9), .val (.int x10), .val (.int x11), .val (.int (2 : Int32)), .val (.int x13), .val (.int v13), .val (.ref b37), .unset] [(.int v13)])) _
      refine XS.iload X43.here hx rfl (hb hby at_210) rfl ?_
      exact kt
    have pre49 : ∀ t, Steps p.tables e below (T43.setTop (mkF m 272 #[.val (.int p1), .val (.int p2), .val (.int p3), .val (.int p4), .val (.int p5), .val (.long q6), .second, .val (.int x7), .val (.int x8), .val (.int x9), .val (.int x10), .val (.int x11), .val (.int (2 : Int32)), .val (.int x13), .val (.int v13), .val (.ref b37), .unset] [(.int (if v13 = x7 then (1 : Int32) else (if v13 = x8 then (1 : Int32) else (0 : Int32))))])) t → Steps p.tables e below (s₁.setTop (entryFrame m #[(.int p1), (.int p2), (.int p3), (.int p4), (.int p5), (.long q6)] maxLocals)) t := by
      by_cases hc46 : v13 = x7
      · refine fun t kt => pre45 t ?_
        repeat rw [if_pos hc46] at kt
        show Steps p.tables e below (T43.setTop (mkF m 212 #[.val (.int p1), .val (.int p2), .val (.int p3), .val (.int p4), .val (.int p5), .val (.long q6), .second, .val (.int x7), .val (.int x8), .val (.int x9), .val (.int x10), .val (.int x11), .val (.int (2 : Int32)), .val (.int x13), .val (.int v13), .val (.ref b37), .unset] [(.int x7), (.int v13)])) _
        refine XS.icmpYes X43.here hx rfl (pc0 := 212) (pc' := 267) rfl (hb hby at_212) rfl (teq hc46).1 (by decide) (by decide) ?_
        show Steps p.tables e below (T43.setTop (mkF m 267 #[.val (.int p1), .val (.int p2), .val (.int p3), .val (.int p4), .val (.int p5), .val (.long q6), .second, .val (.int x7), .val (.int x8), .val (.int x9), .val (.int x10), .val (.int x11), .val (.int (2 : Int32)), .val (.int x13), .val (.int v13), .val (.ref b37), .unset] [])) _
        refine XS.iconst X43.here hx rfl (hb hby at_267) ?_
        show Steps p.tables e below (T43.setTop (mkF m 268 #[.val (.int p1), .val (.int p2), .val (.int p3), .val (.int p4), .val (.int p5), .val (.long q6), .second, .val (.int x7), .val (.int x8), .val (.int x9), .val (.int x10), .val (.int x11), .val (.int (2 : Int32)), .val (.int x13), .val (.int v13), .val (.ref b37), .unset] [(.int (1 : Int32))])) _
        refine XS.goto X43.here hx rfl (pc0 := 268) (pc' := 272) rfl (hb hby at_268) (by decide) (by decide) ?_
        exact kt
      · have pre47 : ∀ t, Steps p.tables e below (T43.setTop (mkF m 225 #[.val (.int p1), .val (.int p2), .val (.int p3), .val (.int p4), .val (.int p5), .val (.long q6), .second, .val (.int x7), .val (.int x8), .val (.int x9), .val (.int x10), .val (.int x11), .val (.int (2 : Int32)), .val (.int x13), .val (.int v13), .val (.ref b37), .unset] [(.int x8), (.int v13)])) t → Steps p.tables e below (s₁.setTop (entryFrame m #[(.int p1), (.int p2), (.int p3), (.int p4), (.int p5), (.long q6)] maxLocals)) t := fun t kt => by
          refine pre45 t ?_
          show Steps p.tables e below (T43.setTop (mkF m 212 #[.val (.int p1), .val (.int p2), .val (.int p3), .val (.int p4), .val (.int p5), .val (.long q6), .second, .val (.int x7), .val (.int x8), .val (.int x9), .val (.int x10), .val (.int x11), .val (.int (2 : Int32)), .val (.int x13), .val (.int v13), .val (.ref b37), .unset] [(.int x7), (.int v13)])) _
          refine XS.icmpNo X43.here hx rfl (hb hby at_212) rfl (feq hc46).1 ?_
          show Steps p.tables e below (T43.setTop (mkF m 215 #[.val (.int p1), .val (.int p2), .val (.int p3), .val (.int p4), .val (.int p5), .val (.long q6), .second, .val (.int x7), .val (.int x8), .val (.int x9), .val (.int x10), .val (.int x11), .val (.int (2 : Int32)), .val (.int x13), .val (.int v13), .val (.ref b37), .unset] [])) _
          refine XS.iload X43.here hx rfl (hb hby at_215) rfl ?_
          show Steps p.tables e below (T43.setTop (mkF m 217 #[.val (.int p1), .val (.int p2), .val (.int p3), .val (.int p4), .val (.int p5), .val (.long q6), .second, .val (.int x7), .val (.int x8), .val (.int x9), .val (.int x10), .val (.int x11), .val (.int (2 : Int32)), .val (.int x13), .val (.int v13), .val (.ref b37), .unset] [(.int (2 : Int32))])) _
          refine XS.iconst X43.here hx rfl (hb hby at_217) ?_
          show Steps p.tables e below (T43.setTop (mkF m 218 #[.val (.int p1), .val (.int p2), .val (.int p3), .val (.int p4), .val (.int p5), .val (.long q6), .second, .val (.int x7), .val (.int x8), .val (.int x9), .val (.int x10), .val (.int x11), .val (.int (2 : Int32)), .val (.int x13), .val (.int v13), .val (.ref b37), .unset] [(.int (1 : Int32)), (.int (2 : Int32))])) _
          refine XS.icmpNo X43.here hx rfl (hb hby at_218) rfl (tlt (by decide : (1 : Int32) < (2 : Int32))).2.2.2 ?_
          show Steps p.tables e below (T43.setTop (mkF m 221 #[.val (.int p1), .val (.int p2), .val (.int p3), .val (.int p4), .val (.int p5), .val (.long q6), .second, .val (.int x7), .val (.int x8), .val (.int x9), .val (.int x10), .val (.int x11), .val (.int (2 : Int32)), .val (.int x13), .val (.int v13), .val (.ref b37), .unset] [])) _
          refine XS.iload X43.here hx rfl (hb hby at_221) rfl ?_
          show Steps p.tables e below (T43.setTop (mkF m 223 #[.val (.int p1), .val (.int p2), .val (.int p3), .val (.int p4), .val (.int p5), .val (.long q6), .second, .val (.int x7), .val (.int x8), .val (.int x9), .val (.int x10), .val (.int x11), .val (.int (2 : Int32)), .val (.int x13), .val (.int v13), .val (.ref b37), .unset] [(.int v13)])) _
          refine XS.iload X43.here hx rfl (hb hby at_223) rfl ?_
          exact kt
        by_cases hc48 : v13 = x8
        · refine fun t kt => pre47 t ?_
          repeat rw [if_neg hc46] at kt
          repeat rw [if_pos hc48] at kt
          show Steps p.tables e below (T43.setTop (mkF m 225 #[.val (.int p1), .val (.int p2), .val (.int p3), .val (.int p4), .val (.int p5), .val (.long q6), .second, .val (.int x7), .val (.int x8), .val (.int x9), .val (.int x10), .val (.int x11), .val (.int (2 : Int32)), .val (.int x13), .val (.int v13), .val (.ref b37), .unset] [(.int x8), (.int v13)])) _
          refine XS.icmpYes X43.here hx rfl (pc0 := 225) (pc' := 267) rfl (hb hby at_225) rfl (teq hc48).1 (by decide) (by decide) ?_
          show Steps p.tables e below (T43.setTop (mkF m 267 #[.val (.int p1), .val (.int p2), .val (.int p3), .val (.int p4), .val (.int p5), .val (.long q6), .second, .val (.int x7), .val (.int x8), .val (.int x9), .val (.int x10), .val (.int x11), .val (.int (2 : Int32)), .val (.int x13), .val (.int v13), .val (.ref b37), .unset] [])) _
          refine XS.iconst X43.here hx rfl (hb hby at_267) ?_
          show Steps p.tables e below (T43.setTop (mkF m 268 #[.val (.int p1), .val (.int p2), .val (.int p3), .val (.int p4), .val (.int p5), .val (.long q6), .second, .val (.int x7), .val (.int x8), .val (.int x9), .val (.int x10), .val (.int x11), .val (.int (2 : Int32)), .val (.int x13), .val (.int v13), .val (.ref b37), .unset] [(.int (1 : Int32))])) _
          refine XS.goto X43.here hx rfl (pc0 := 268) (pc' := 272) rfl (hb hby at_268) (by decide) (by decide) ?_
          exact kt
        · refine fun t kt => pre47 t ?_
          repeat rw [if_neg hc46] at kt
          repeat rw [if_neg hc48] at kt
          show Steps p.tables e below (T43.setTop (mkF m 225 #[.val (.int p1), .val (.int p2), .val (.int p3), .val (.int p4), .val (.int p5), .val (.long q6), .second, .val (.int x7), .val (.int x8), .val (.int x9), .val (.int x10), .val (.int x11), .val (.int (2 : Int32)), .val (.int x13), .val (.int v13), .val (.ref b37), .unset] [(.int x8), (.int v13)])) _
          refine XS.icmpNo X43.here hx rfl (hb hby at_225) rfl (feq hc48).1 ?_
          show Steps p.tables e below (T43.setTop (mkF m 228 #[.val (.int p1), .val (.int p2), .val (.int p3), .val (.int p4), .val (.int p5), .val (.long q6), .second, .val (.int x7), .val (.int x8), .val (.int x9), .val (.int x10), .val (.int x11), .val (.int (2 : Int32)), .val (.int x13), .val (.int v13), .val (.ref b37), .unset] [])) _
          refine XS.iload X43.here hx rfl (hb hby at_228) rfl ?_
          show Steps p.tables e below (T43.setTop (mkF m 230 #[.val (.int p1), .val (.int p2), .val (.int p3), .val (.int p4), .val (.int p5), .val (.long q6), .second, .val (.int x7), .val (.int x8), .val (.int x9), .val (.int x10), .val (.int x11), .val (.int (2 : Int32)), .val (.int x13), .val (.int v13), .val (.ref b37), .unset] [(.int (2 : Int32))])) _
          refine XS.iconst X43.here hx rfl (hb hby at_230) ?_
          show Steps p.tables e below (T43.setTop (mkF m 231 #[.val (.int p1), .val (.int p2), .val (.int p3), .val (.int p4), .val (.int p5), .val (.long q6), .second, .val (.int x7), .val (.int x8), .val (.int x9), .val (.int x10), .val (.int x11), .val (.int (2 : Int32)), .val (.int x13), .val (.int v13), .val (.ref b37), .unset] [(.int (2 : Int32)), (.int (2 : Int32))])) _
          refine XS.icmpYes X43.here hx rfl (pc0 := 231) (pc' := 241) rfl (hb hby at_231) rfl (flt (by decide : ¬ ((2 : Int32) < (2 : Int32)))).2.2.2 (by decide) (by decide) ?_
          show Steps p.tables e below (T43.setTop (mkF m 241 #[.val (.int p1), .val (.int p2), .val (.int p3), .val (.int p4), .val (.int p5), .val (.long q6), .second, .val (.int x7), .val (.int x8), .val (.int x9), .val (.int x10), .val (.int x11), .val (.int (2 : Int32)), .val (.int x13), .val (.int v13), .val (.ref b37), .unset] [])) _
          refine XS.iload X43.here hx rfl (hb hby at_241) rfl ?_
          show Steps p.tables e below (T43.setTop (mkF m 243 #[.val (.int p1), .val (.int p2), .val (.int p3), .val (.int p4), .val (.int p5), .val (.long q6), .second, .val (.int x7), .val (.int x8), .val (.int x9), .val (.int x10), .val (.int x11), .val (.int (2 : Int32)), .val (.int x13), .val (.int v13), .val (.ref b37), .unset] [(.int (2 : Int32))])) _
          refine XS.iconst X43.here hx rfl (hb hby at_243) ?_
          show Steps p.tables e below (T43.setTop (mkF m 244 #[.val (.int p1), .val (.int p2), .val (.int p3), .val (.int p4), .val (.int p5), .val (.long q6), .second, .val (.int x7), .val (.int x8), .val (.int x9), .val (.int x10), .val (.int x11), .val (.int (2 : Int32)), .val (.int x13), .val (.int v13), .val (.ref b37), .unset] [(.int (3 : Int32)), (.int (2 : Int32))])) _
          refine XS.icmpYes X43.here hx rfl (pc0 := 244) (pc' := 254) rfl (hb hby at_244) rfl (flt (by decide : ¬ ((3 : Int32) < (2 : Int32)))).2.2.2 (by decide) (by decide) ?_
          show Steps p.tables e below (T43.setTop (mkF m 254 #[.val (.int p1), .val (.int p2), .val (.int p3), .val (.int p4), .val (.int p5), .val (.long q6), .second, .val (.int x7), .val (.int x8), .val (.int x9), .val (.int x10), .val (.int x11), .val (.int (2 : Int32)), .val (.int x13), .val (.int v13), .val (.ref b37), .unset] [])) _
          refine XS.iload X43.here hx rfl (hb hby at_254) rfl ?_
          show Steps p.tables e below (T43.setTop (mkF m 256 #[.val (.int p1), .val (.int p2), .val (.int p3), .val (.int p4), .val (.int p5), .val (.long q6), .second, .val (.int x7), .val (.int x8), .val (.int x9), .val (.int x10), .val (.int x11), .val (.int (2 : Int32)), .val (.int x13), .val (.int v13), .val (.ref b37), .unset] [(.int (2 : Int32))])) _
          refine XS.iconst X43.here hx rfl (hb hby at_256) ?_
          show Steps p.tables e below (T43.setTop (mkF m 257 #[.val (.int p1), .val (.int p2), .val (.int p3), .val (.int p4), .val (.int p5), .val (.long q6), .second, .val (.int x7), .val (.int x8), .val (.int x9), .val (.int x10), .val (.int x11), .val (.int (2 : Int32)), .val (.int x13), .val (.int v13), .val (.ref b37), .unset] [(.int (4 : Int32)), (.int (2 : Int32))])) _
          refine XS.icmpYes X43.here hx rfl (pc0 := 257) (pc' := 271) rfl (hb hby at_257) rfl (flt (by decide : ¬ ((4 : Int32) < (2 : Int32)))).2.2.2 (by decide) (by decide) ?_
          show Steps p.tables e below (T43.setTop (mkF m 271 #[.val (.int p1), .val (.int p2), .val (.int p3), .val (.int p4), .val (.int p5), .val (.long q6), .second, .val (.int x7), .val (.int x8), .val (.int x9), .val (.int x10), .val (.int x11), .val (.int (2 : Int32)), .val (.int x13), .val (.int v13), .val (.ref b37), .unset] [])) _
          refine XS.iconst X43.here hx rfl (hb hby at_271) ?_
          exact kt
    obtain ⟨v50, hv50⟩ : ∃ z : Int32, z = (if v13 = x7 then (1 : Int32) else (if v13 = x8 then (1 : Int32) else (0 : Int32))) := ⟨_, rfl⟩
    rw [← hv50] at pre49
    have z52 : n0 ≤ T43.heap.size := (Nat.le_trans z44 hs43)
    obtain ⟨cq51, kq51, iq51a, iq51b, iq51c⟩ := isOf hZ rfl Ee43
    obtain ⟨_, _, ⟨T51, L51, k51, n51⟩, -, X51, ⟨Lc51, hQ51, l51, y51, z51⟩, st51⟩ := X43.virtualBack hx (y := (⟨"com/example/krel/krel/saturation/AtomSet", "contains", "(I)Z"⟩ : MethodName)) (z := (⟨"com/example/krel/krel/saturation/AtomSet", "contains", "(I)Z"⟩ : MethodName)) hown (mvT hZ (hw _ (List.mem_of_getElem? (i := 15) rfl))) (mvT hZ (hw _ (List.mem_of_getElem? (i := 16) rfl))) (notFace_of_selects (args := #[]) (mvT hZ (hw _ (List.mem_of_getElem? (i := 18) rfl)))) (mvT hZ (hw _ (List.mem_of_getElem? (i := 18) rfl))) (mvT hZ (hw _ (List.mem_of_getElem? (i := 17) rfl))) (by decide) (backOf (W := 0) (rm90003 l Z a0 hw [] b37 v13 (own_ins (own_ins [] x7) x8) T43.heap n0 z52 A43 (side_0_pos278_3 p1 p2 p3 p4 p5 q6 x7 hx7 x8 hx8 x9 hx9 x10 hx10 x11 hx11 x12 hx12 x13 hx13 x14 hx14 v13 hv13 hk14 v50 hv50)) hZ (hw _ (List.mem_of_getElem? (i := 19) rfl)) (hw _ (List.mem_of_getElem? (i := 3) rfl)) (by decide) (by decide)) iq51a iq51c (g := (mkF m 278 #[.val (.int p1), .val (.int p2), .val (.int p3), .val (.int p4), .val (.int p5), .val (.long q6), .second, .val (.int x7), .val (.int x8), .val (.int x9), .val (.int x10), .val (.int x11), .val (.int (2 : Int32)), .val (.int x13), .val (.int v13), .val (.ref b37), .val (.int v50)] [(.int v13), (.ref b37)])) rfl (by rw [hml]; rfl) (Steps.refl _) (argsL := [(.int v13)]) (rest := []) (lenOf pd_0_1 rfl) rfl (by show 2 * 0 + _ ≤ _; exact Nat.le_of_eq rfl) (hb hby at_278) (fun _ _ => ⟨rfl, rfl, (by decide : 7 + 0 ≤ _), (by decide : 63 + 0 ≤ _)⟩)
    dsimp only [Pt.U, Pt.locs, Pt.cells, Pt.slots] at X51 l51 y51 z51 st51 hQ51
    subst l51 y51 z51
    obtain ⟨rfl, N51q, e51⟩ := hQ51
    have N51 := Fr.app N43 N51q
    have pre53 : ∀ t, Steps p.tables e below (T51.setTop (mkF m 283 #[.val (.int p1), .val (.int p2), .val (.int p3), .val (.int p4), .val (.int p5), .val (.long q6), .second, .val (.int x7), .val (.int x8), .val (.int x9), .val (.int x10), .val (.int x11), .val (.int (2 : Int32)), .val (.int x13), .val (.int v13), .val (.ref b37), .val (.int v50)] [(.int v50), (.int (if v13 ∈ (own_ins (own_ins [] x7) x8) then (1 : Int32) else (0 : Int32)))])) t → Steps p.tables e below (s₁.setTop (entryFrame m #[(.int p1), (.int p2), (.int p3), (.int p4), (.int p5), (.long q6)] maxLocals)) t := fun t kt => by
      refine pre49 t ?_
      show Steps p.tables e below (T43.setTop (mkF m 272 #[.val (.int p1), .val (.int p2), .val (.int p3), .val (.int p4), .val (.int p5), .val (.long q6), .second, .val (.int x7), .val (.int x8), .val (.int x9), .val (.int x10), .val (.int x11), .val (.int (2 : Int32)), .val (.int x13), .val (.int v13), .val (.ref b37), .unset] [(.int v50)])) _
      refine XS.istore X43.here hx rfl (hb hby at_272) rfl (l' := #[.val (.int p1), .val (.int p2), .val (.int p3), .val (.int p4), .val (.int p5), .val (.long q6), .second, .val (.int x7), .val (.int x8), .val (.int x9), .val (.int x10), .val (.int x11), .val (.int (2 : Int32)), .val (.int x13), .val (.int v13), .val (.ref b37), .val (.int v50)]) rfl ?_
      show Steps p.tables e below (T43.setTop (mkF m 274 #[.val (.int p1), .val (.int p2), .val (.int p3), .val (.int p4), .val (.int p5), .val (.long q6), .second, .val (.int x7), .val (.int x8), .val (.int x9), .val (.int x10), .val (.int x11), .val (.int (2 : Int32)), .val (.int x13), .val (.int v13), .val (.ref b37), .val (.int v50)] [])) _
      refine XS.aload X43.here hx rfl (hb hby at_274) rfl rfl ?_
      show Steps p.tables e below (T43.setTop (mkF m 276 #[.val (.int p1), .val (.int p2), .val (.int p3), .val (.int p4), .val (.int p5), .val (.long q6), .second, .val (.int x7), .val (.int x8), .val (.int x9), .val (.int x10), .val (.int x11), .val (.int (2 : Int32)), .val (.int x13), .val (.int v13), .val (.ref b37), .val (.int v50)] [(.ref b37)])) _
      refine XS.iload X43.here hx rfl (hb hby at_276) rfl ?_
      show Steps p.tables e below (T43.setTop (mkF m 278 #[.val (.int p1), .val (.int p2), .val (.int p3), .val (.int p4), .val (.int p5), .val (.long q6), .second, .val (.int x7), .val (.int x8), .val (.int x9), .val (.int x10), .val (.int x11), .val (.int (2 : Int32)), .val (.int x13), .val (.int v13), .val (.ref b37), .val (.int v50)] [(.int v13), (.ref b37)])) _
      refine st51.trans ?_
      show Steps p.tables e below (T51.setTop (mkF m 281 #[.val (.int p1), .val (.int p2), .val (.int p3), .val (.int p4), .val (.int p5), .val (.long q6), .second, .val (.int x7), .val (.int x8), .val (.int x9), .val (.int x10), .val (.int x11), .val (.int (2 : Int32)), .val (.int x13), .val (.int v13), .val (.ref b37), .val (.int v50)] [(.int (if v13 ∈ (own_ins (own_ins [] x7) x8) then (1 : Int32) else (0 : Int32)))])) _
      refine XS.iload X51.here hx rfl (hb hby at_281) rfl ?_
      exact kt
    by_cases hc54 : (if v13 ∈ (own_ins (own_ins [] x7) x8) then (1 : Int32) else (0 : Int32)) = v50
    · obtain ⟨fs, hr, hrun, hended, hW, hsame⟩ := X51.leave (v := some (.int (1 : Int32))) (fun h => by rw [Bd.returns] at h; cases h)
      refine ⟨_, _, pre53 _ ?_, hrun, hended, _, _, rfl, ?_, ⟨_, rfl⟩, hW, hsame.mono (by decide) (by decide)⟩
      · show Steps p.tables e below (T51.setTop (mkF m 283 #[.val (.int p1), .val (.int p2), .val (.int p3), .val (.int p4), .val (.int p5), .val (.long q6), .second, .val (.int x7), .val (.int x8), .val (.int x9), .val (.int x10), .val (.int x11), .val (.int (2 : Int32)), .val (.int x13), .val (.int v13), .val (.ref b37), .val (.int v50)] [(.int v50), (.int (if v13 ∈ (own_ins (own_ins [] x7) x8) then (1 : Int32) else (0 : Int32)))])) _
        refine XS.icmpNo X51.here hx rfl (hb hby at_283) rfl (teq hc54).2 ?_
        show Steps p.tables e below (T51.setTop (mkF m 286 #[.val (.int p1), .val (.int p2), .val (.int p3), .val (.int p4), .val (.int p5), .val (.long q6), .second, .val (.int x7), .val (.int x8), .val (.int x9), .val (.int x10), .val (.int x11), .val (.int (2 : Int32)), .val (.int x13), .val (.int v13), .val (.ref b37), .val (.int v50)] [])) _
        refine XS.iconst X51.here hx rfl (hb hby at_286) ?_
        show Steps p.tables e below (T51.setTop (mkF m 287 #[.val (.int p1), .val (.int p2), .val (.int p3), .val (.int p4), .val (.int p5), .val (.long q6), .second, .val (.int x7), .val (.int x8), .val (.int x9), .val (.int x10), .val (.int x11), .val (.int (2 : Int32)), .val (.int x13), .val (.int v13), .val (.ref b37), .val (.int v50)] [(.int (1 : Int32))])) _
        refine XS.goto X51.here hx rfl (pc0 := 287) (pc' := 291) rfl (hb hby at_287) (by decide) (by decide) ?_
        show Steps p.tables e below (T51.setTop (mkF m 291 #[.val (.int p1), .val (.int p2), .val (.int p3), .val (.int p4), .val (.int p5), .val (.long q6), .second, .val (.int x7), .val (.int x8), .val (.int x9), .val (.int x10), .val (.int x11), .val (.int (2 : Int32)), .val (.int x13), .val (.int v13), .val (.ref b37), .val (.int v50)] [(.int (1 : Int32))])) _
        exact retN X51 hx (t := .boolean) Bd.returns (by simp) (hb hby at_291) hr
      · show Q0 Z p1 p2 p3 p4 p5 q6 h0 n0 _ T51.heap _
        rw [e51]
        exact ⟨rfl, N51⟩
    · exact (leaf_0_6 p1 p2 p3 p4 p5 q6 x7 hx7 x8 hx8 x9 hx9 x10 hx10 x11 hx11 x12 hx12 x13 hx13 x14 hx14 v13 hv13 hk14 v50 hv50 hc54).elim
  · rw [hk14] at pre12
    obtain ⟨b55, g55⟩ : ∃ z, z = h0.size := ⟨_, rfl⟩
    obtain ⟨T55, h55, X55, e55, E55, A55, D55, -, st55⟩ := newO X0 hx hZ hown (hw _ (List.mem_of_getElem? (i := 1) rfl)) (hw _ (List.mem_of_getElem? (i := 2) rfl)) (hw _ (List.mem_of_getElem? (i := 3) rfl)) e0 (g := (mkF m 125 #[.val (.int p1), .val (.int p2), .val (.int p3), .val (.int p4), .val (.int p5), .val (.long q6), .second, .val (.int x7), .val (.int x8), .val (.int x9), .val (.int x10), .val (.int x11), .val (.int (3 : Int32)), .val (.int x13), .val (.int v13), .unset, .unset] [])) rfl (hb hby at_125) (by decide) (by decide)
    rw [← g55] at A55 D55 st55
    have g_b55 : n0 ≤ b55 := Nat.le_trans Z0 (Nat.le_of_eq g55.symm)
    have F_slots_b55 : Fld Z h55 b55 "com/example/krel/krel/saturation/AtomSet" "slots" "[I" .null := D55 (Or.inl (hw _ (List.mem_of_getElem? (i := 12) rfl))) (ty := (.array .int)) (by decide)
    have F_atoms_b55 : Fld Z h55 b55 "com/example/krel/krel/saturation/AtomSet" "atoms" "[I" .null := D55 (Or.inl (hw _ (List.mem_of_getElem? (i := 14) rfl))) (ty := (.array .int)) (by decide)
    have F_size_b55 : Fld Z h55 b55 "com/example/krel/krel/saturation/AtomSet" "size" "I" (.int (0 : Int32)) := D55 (Or.inl (hw _ (List.mem_of_getElem? (i := 31) rfl))) (ty := .int) (by decide)
    have z57 : n0 ≤ h55.size := (Nat.le_trans Z0 E55.1)
    obtain ⟨_, _, ⟨T56, L56, k56, n56⟩, -, X56, ⟨Lc56, hQ56, l56, y56, z56⟩, st56⟩ := X55.specialBack hx (y := (⟨"com/example/krel/krel/saturation/AtomSet", "<init>", "()V"⟩ : MethodName)) rfl hown (mvT hZ (hw _ (List.mem_of_getElem? (i := 4) rfl))) (mvT hZ (hw _ (List.mem_of_getElem? (i := 5) rfl))) (mvT hZ (hw _ (List.mem_of_getElem? (i := 6) rfl))) (by decide) (backOf (W := 1) (rm1 l Z a0 hw [] b55 (.int (0 : Int32)) .null .null h55 n0 z57 A55 F_size_b55 F_slots_b55 g_b55 F_atoms_b55) hZ (hw _ (List.mem_of_getElem? (i := 6) rfl)) (hw _ (List.mem_of_getElem? (i := 3) rfl)) (by decide) (by decide)) (g := (mkF m 129 #[.val (.int p1), .val (.int p2), .val (.int p3), .val (.int p4), .val (.int p5), .val (.long q6), .second, .val (.int x7), .val (.int x8), .val (.int x9), .val (.int x10), .val (.int x11), .val (.int (3 : Int32)), .val (.int x13), .val (.int v13), .unset, .unset] [(.ref b55), (.ref b55)])) rfl (by rw [hml]; rfl) (Steps.refl _) (a := b55) (argsL := []) (rest := [(.ref b55)]) (lenOf pd_0_0 rfl) rfl (by show 2 * 0 + _ ≤ _; exact Nat.le_of_eq rfl) (hb hby at_129) (fun _ _ => ⟨rfl, e55, (by decide : 1 + 2 ≤ _), (by decide : 3 + 12 ≤ _)⟩)
    dsimp only [Pt.U, Pt.locs, Pt.cells, Pt.slots] at X56 l56 y56 z56 st56 hQ56
    subst l56 y56 z56
    obtain ⟨b56_0, b56_1, kk56_0, kk56_1, rfl, N56q, g_b56_0, g_b56_1, hz_b56_0, hz_b56_1, ne_b56_0_b56_1, K56, f56_0, f56_1, f56_2, f56_3, f56_4, f56_5⟩ := hQ56
    have ne_b55_b56_0 : b55 ≠ b56_0 := Nat.ne_of_lt (Nat.lt_of_lt_of_le A55.lt hz_b56_0)
    have ne_b55_b56_1 : b55 ≠ b56_1 := Nat.ne_of_lt (Nat.lt_of_lt_of_le A55.lt hz_b56_1)
    have N56 := Fr.app N0 N56q
    have A58 : own_AS Z T56.heap n0 b55 [] := ⟨b56_0, b56_1, kk56_0, kk56_1, [0, 0, 0, 0, 0, 0, 0, 0], [0, 0, 0, 0], f56_0, f56_3, f56_1, f56_2, g_b55, g_b56_0, g_b56_1, ne_b55_b56_0, ne_b55_b56_1, ne_b56_0_b56_1, (fun y hy => by simp at hy), List.nodup_nil, Or.inl ⟨by decide, rfl, f56_4, own_empty _ 8 (by decide), rfl, f56_5, rfl⟩⟩
    have hn58 : ([] : List Int32).length ≤ 0 := Nat.le_refl _
    have z60 : n0 ≤ T56.heap.size := (Nat.le_trans z57 K56.1)
    obtain ⟨cq59, kq59, iq59a, iq59b, iq59c⟩ := isOf hZ rfl f56_0
    obtain ⟨_, _, ⟨T59, L59, k59, n59⟩, -, X59, ⟨Lc59, hQ59, l59, y59, z59⟩, st59⟩ := X56.virtualBack hx (y := (⟨"com/example/krel/krel/saturation/AtomSet", "add", "(I)Z"⟩ : MethodName)) (z := (⟨"com/example/krel/krel/saturation/AtomSet", "add", "(I)Z"⟩ : MethodName)) hown (mvT hZ (hw _ (List.mem_of_getElem? (i := 25) rfl))) (mvT hZ (hw _ (List.mem_of_getElem? (i := 26) rfl))) (notFace_of_selects (args := #[]) (mvT hZ (hw _ (List.mem_of_getElem? (i := 28) rfl)))) (mvT hZ (hw _ (List.mem_of_getElem? (i := 28) rfl))) (mvT hZ (hw _ (List.mem_of_getElem? (i := 27) rfl))) (by decide) (backOf (W := 0) (rm90005 l Z a0 hw [] b55 x7 [] T56.heap n0 z60 A58 (Nat.le_trans hn58 (by decide)) (side_0_pos143_3 p1 p2 p3 p4 p5 q6 x7 hx7 x8 hx8 x9 hx9 x10 hx10 x11 hx11 x12 hx12 x13 hx13 x14 hx14 v13 hv13 hk14)) hZ (hw _ (List.mem_of_getElem? (i := 29) rfl)) (hw _ (List.mem_of_getElem? (i := 3) rfl)) (by decide) (by decide)) iq59a iq59c (g := (mkF m 143 #[.val (.int p1), .val (.int p2), .val (.int p3), .val (.int p4), .val (.int p5), .val (.long q6), .second, .val (.int x7), .val (.int x8), .val (.int x9), .val (.int x10), .val (.int x11), .val (.int (3 : Int32)), .val (.int x13), .val (.int v13), .val (.ref b55), .unset] [(.int x7), (.ref b55)])) rfl (by rw [hml]; rfl) (Steps.refl _) (argsL := [(.int x7)]) (rest := []) (lenOf pd_0_1 rfl) rfl (by show 2 * 0 + _ ≤ _; exact Nat.le_of_eq rfl) (hb hby at_143) (fun _ _ => ⟨rfl, rfl, (by decide : 3 + 2 ≤ _), (by decide : 15 + 24 ≤ _)⟩)
    dsimp only [Pt.U, Pt.locs, Pt.cells, Pt.slots] at X59 l59 y59 z59 st59 hQ59
    subst l59 y59 z59
    obtain ⟨⟨r59, rfl⟩, N59q, hs59, A59⟩ := hQ59
    have hn59 := own_inslen (x := x7) hn58
    have Ee59 := own_ASexa A59
    have N59 := Fr.app N56 N59q
    have z62 : n0 ≤ T59.heap.size := (Nat.le_trans z60 hs59)
    obtain ⟨cq61, kq61, iq61a, iq61b, iq61c⟩ := isOf hZ rfl Ee59
    obtain ⟨_, _, ⟨T61, L61, k61, n61⟩, -, X61, ⟨Lc61, hQ61, l61, y61, z61⟩, st61⟩ := X59.virtualBack hx (y := (⟨"com/example/krel/krel/saturation/AtomSet", "add", "(I)Z"⟩ : MethodName)) (z := (⟨"com/example/krel/krel/saturation/AtomSet", "add", "(I)Z"⟩ : MethodName)) hown (mvT hZ (hw _ (List.mem_of_getElem? (i := 25) rfl))) (mvT hZ (hw _ (List.mem_of_getElem? (i := 26) rfl))) (notFace_of_selects (args := #[]) (mvT hZ (hw _ (List.mem_of_getElem? (i := 28) rfl)))) (mvT hZ (hw _ (List.mem_of_getElem? (i := 28) rfl))) (mvT hZ (hw _ (List.mem_of_getElem? (i := 27) rfl))) (by decide) (backOf (W := 0) (rm90005 l Z a0 hw [] b55 x8 (own_ins [] x7) T59.heap n0 z62 A59 (Nat.le_trans hn59 (by decide)) (side_0_pos157_2 p1 p2 p3 p4 p5 q6 x7 hx7 x8 hx8 x9 hx9 x10 hx10 x11 hx11 x12 hx12 x13 hx13 x14 hx14 v13 hv13 hk14)) hZ (hw _ (List.mem_of_getElem? (i := 29) rfl)) (hw _ (List.mem_of_getElem? (i := 3) rfl)) (by decide) (by decide)) iq61a iq61c (g := (mkF m 157 #[.val (.int p1), .val (.int p2), .val (.int p3), .val (.int p4), .val (.int p5), .val (.long q6), .second, .val (.int x7), .val (.int x8), .val (.int x9), .val (.int x10), .val (.int x11), .val (.int (3 : Int32)), .val (.int x13), .val (.int v13), .val (.ref b55), .unset] [(.int x8), (.ref b55)])) rfl (by rw [hml]; rfl) (Steps.refl _) (argsL := [(.int x8)]) (rest := []) (lenOf pd_0_1 rfl) rfl (by show 2 * 0 + _ ≤ _; exact Nat.le_of_eq rfl) (hb hby at_157) (fun _ _ => ⟨rfl, rfl, (by decide : 5 + 2 ≤ _), (by decide : 39 + 24 ≤ _)⟩)
    dsimp only [Pt.U, Pt.locs, Pt.cells, Pt.slots] at X61 l61 y61 z61 st61 hQ61
    subst l61 y61 z61
    obtain ⟨⟨r61, rfl⟩, N61q, hs61, A61⟩ := hQ61
    have hn61 := own_inslen (x := x8) hn59
    have Ee61 := own_ASexa A61
    have N61 := Fr.app N59 N61q
    have z64 : n0 ≤ T61.heap.size := (Nat.le_trans z62 hs61)
    obtain ⟨cq63, kq63, iq63a, iq63b, iq63c⟩ := isOf hZ rfl Ee61
    obtain ⟨_, _, ⟨T63, L63, k63, n63⟩, -, X63, ⟨Lc63, hQ63, l63, y63, z63⟩, st63⟩ := X61.virtualBack hx (y := (⟨"com/example/krel/krel/saturation/AtomSet", "add", "(I)Z"⟩ : MethodName)) (z := (⟨"com/example/krel/krel/saturation/AtomSet", "add", "(I)Z"⟩ : MethodName)) hown (mvT hZ (hw _ (List.mem_of_getElem? (i := 25) rfl))) (mvT hZ (hw _ (List.mem_of_getElem? (i := 26) rfl))) (notFace_of_selects (args := #[]) (mvT hZ (hw _ (List.mem_of_getElem? (i := 28) rfl)))) (mvT hZ (hw _ (List.mem_of_getElem? (i := 28) rfl))) (mvT hZ (hw _ (List.mem_of_getElem? (i := 27) rfl))) (by decide) (backOf (W := 0) (rm90005 l Z a0 hw [] b55 x9 (own_ins (own_ins [] x7) x8) T61.heap n0 z64 A61 (Nat.le_trans hn61 (by decide)) (side_0_pos171 p1 p2 p3 p4 p5 q6 x7 hx7 x8 hx8 x9 hx9 x10 hx10 x11 hx11 x12 hx12 x13 hx13 x14 hx14 v13 hv13 hk14)) hZ (hw _ (List.mem_of_getElem? (i := 29) rfl)) (hw _ (List.mem_of_getElem? (i := 3) rfl)) (by decide) (by decide)) iq63a iq63c (g := (mkF m 171 #[.val (.int p1), .val (.int p2), .val (.int p3), .val (.int p4), .val (.int p5), .val (.long q6), .second, .val (.int x7), .val (.int x8), .val (.int x9), .val (.int x10), .val (.int x11), .val (.int (3 : Int32)), .val (.int x13), .val (.int v13), .val (.ref b55), .unset] [(.int x9), (.ref b55)])) rfl (by rw [hml]; rfl) (Steps.refl _) (argsL := [(.int x9)]) (rest := []) (lenOf pd_0_1 rfl) rfl (by show 2 * 0 + _ ≤ _; exact Nat.le_of_eq rfl) (hb hby at_171) (fun _ _ => ⟨rfl, rfl, (by decide : 7 + 2 ≤ _), (by decide : 63 + 24 ≤ _)⟩)
    dsimp only [Pt.U, Pt.locs, Pt.cells, Pt.slots] at X63 l63 y63 z63 st63 hQ63
    subst l63 y63 z63
    obtain ⟨⟨r63, rfl⟩, N63q, hs63, A63⟩ := hQ63
    have hn63 := own_inslen (x := x9) hn61
    have Ee63 := own_ASexa A63
    have N63 := Fr.app N61 N63q
    have pre65 : ∀ t, Steps p.tables e below (T63.setTop (mkF m 212 #[.val (.int p1), .val (.int p2), .val (.int p3), .val (.int p4), .val (.int p5), .val (.long q6), .second, .val (.int x7), .val (.int x8), .val (.int x9), .val (.int x10), .val (.int x11), .val (.int (3 : Int32)), .val (.int x13), .val (.int v13), .val (.ref b55), .unset] [(.int x7), (.int v13)])) t → Steps p.tables e below (s₁.setTop (entryFrame m #[(.int p1), (.int p2), (.int p3), (.int p4), (.int p5), (.long q6)] maxLocals)) t := fun t kt => by
      refine pre12 t ?_
      show Steps p.tables e below (s₁.setTop (mkF m 125 #[.val (.int p1), .val (.int p2), .val (.int p3), .val (.int p4), .val (.int p5), .val (.long q6), .second, .val (.int x7), .val (.int x8), .val (.int x9), .val (.int x10), .val (.int x11), .val (.int (3 : Int32)), .val (.int x13), .val (.int v13), .unset, .unset] [])) _
      refine st55 _ ?_
      show Steps p.tables e below (T55.setTop (mkF m 128 #[.val (.int p1), .val (.int p2), .val (.int p3), .val (.int p4), .val (.int p5), .val (.long q6), .second, .val (.int x7), .val (.int x8), .val (.int x9), .val (.int x10), .val (.int x11), .val (.int (3 : Int32)), .val (.int x13), .val (.int v13), .unset, .unset] [(.ref b55)])) _
      refine XS.dup X55.here hx rfl (hb hby at_128) rfl rfl ?_
      show Steps p.tables e below (T55.setTop (mkF m 129 #[.val (.int p1), .val (.int p2), .val (.int p3), .val (.int p4), .val (.int p5), .val (.long q6), .second, .val (.int x7), .val (.int x8), .val (.int x9), .val (.int x10), .val (.int x11), .val (.int (3 : Int32)), .val (.int x13), .val (.int v13), .unset, .unset] [(.ref b55), (.ref b55)])) _
      refine st56.trans ?_
      show Steps p.tables e below (T56.setTop (mkF m 132 #[.val (.int p1), .val (.int p2), .val (.int p3), .val (.int p4), .val (.int p5), .val (.long q6), .second, .val (.int x7), .val (.int x8), .val (.int x9), .val (.int x10), .val (.int x11), .val (.int (3 : Int32)), .val (.int x13), .val (.int v13), .unset, .unset] [(.ref b55)])) _
      refine XS.astore X56.here hx rfl (hb hby at_132) rfl rfl (l' := #[.val (.int p1), .val (.int p2), .val (.int p3), .val (.int p4), .val (.int p5), .val (.long q6), .second, .val (.int x7), .val (.int x8), .val (.int x9), .val (.int x10), .val (.int x11), .val (.int (3 : Int32)), .val (.int x13), .val (.int v13), .val (.ref b55), .unset]) rfl ?_
      show Steps p.tables e below (T56.setTop (mkF m 134 #[.val (.int p1), .val (.int p2), .val (.int p3), .val (.int p4), .val (.int p5), .val (.long q6), .second, .val (.int x7), .val (.int x8), .val (.int x9), .val (.int x10), .val (.int x11), .val (.int (3 : Int32)), .val (.int x13), .val (.int v13), .val (.ref b55), .unset] [])) _
      refine XS.iload X56.here hx rfl (hb hby at_134) rfl ?_
      show Steps p.tables e below (T56.setTop (mkF m 136 #[.val (.int p1), .val (.int p2), .val (.int p3), .val (.int p4), .val (.int p5), .val (.long q6), .second, .val (.int x7), .val (.int x8), .val (.int x9), .val (.int x10), .val (.int x11), .val (.int (3 : Int32)), .val (.int x13), .val (.int v13), .val (.ref b55), .unset] [(.int (3 : Int32))])) _
      refine XS.ifNo X56.here hx rfl (hb hby at_136) rfl ((if0 _ _).trans (tlt (by decide : (0 : Int32) < (3 : Int32))).2.2.2) ?_
      show Steps p.tables e below (T56.setTop (mkF m 139 #[.val (.int p1), .val (.int p2), .val (.int p3), .val (.int p4), .val (.int p5), .val (.long q6), .second, .val (.int x7), .val (.int x8), .val (.int x9), .val (.int x10), .val (.int x11), .val (.int (3 : Int32)), .val (.int x13), .val (.int v13), .val (.ref b55), .unset] [])) _
      refine XS.aload X56.here hx rfl (hb hby at_139) rfl rfl ?_
      show Steps p.tables e below (T56.setTop (mkF m 141 #[.val (.int p1), .val (.int p2), .val (.int p3), .val (.int p4), .val (.int p5), .val (.long q6), .second, .val (.int x7), .val (.int x8), .val (.int x9), .val (.int x10), .val (.int x11), .val (.int (3 : Int32)), .val (.int x13), .val (.int v13), .val (.ref b55), .unset] [(.ref b55)])) _
      refine XS.iload X56.here hx rfl (hb hby at_141) rfl ?_
      show Steps p.tables e below (T56.setTop (mkF m 143 #[.val (.int p1), .val (.int p2), .val (.int p3), .val (.int p4), .val (.int p5), .val (.long q6), .second, .val (.int x7), .val (.int x8), .val (.int x9), .val (.int x10), .val (.int x11), .val (.int (3 : Int32)), .val (.int x13), .val (.int v13), .val (.ref b55), .unset] [(.int x7), (.ref b55)])) _
      refine st59.trans ?_
      show Steps p.tables e below (T59.setTop (mkF m 146 #[.val (.int p1), .val (.int p2), .val (.int p3), .val (.int p4), .val (.int p5), .val (.long q6), .second, .val (.int x7), .val (.int x8), .val (.int x9), .val (.int x10), .val (.int x11), .val (.int (3 : Int32)), .val (.int x13), .val (.int v13), .val (.ref b55), .unset] [(.int r59)])) _
      refine XS.pop X59.here hx rfl (hb hby at_146) rfl rfl ?_
      show Steps p.tables e below (T59.setTop (mkF m 147 #[.val (.int p1), .val (.int p2), .val (.int p3), .val (.int p4), .val (.int p5), .val (.long q6), .second, .val (.int x7), .val (.int x8), .val (.int x9), .val (.int x10), .val (.int x11), .val (.int (3 : Int32)), .val (.int x13), .val (.int v13), .val (.ref b55), .unset] [])) _
      refine XS.iload X59.here hx rfl (hb hby at_147) rfl ?_
      show Steps p.tables e below (T59.setTop (mkF m 149 #[.val (.int p1), .val (.int p2), .val (.int p3), .val (.int p4), .val (.int p5), .val (.long q6), .second, .val (.int x7), .val (.int x8), .val (.int x9), .val (.int x10), .val (.int x11), .val (.int (3 : Int32)), .val (.int x13), .val (.int v13), .val (.ref b55), .unset] [(.int (3 : Int32))])) _
      refine XS.iconst X59.here hx rfl (hb hby at_149) ?_
      show Steps p.tables e below (T59.setTop (mkF m 150 #[.val (.int p1), .val (.int p2), .val (.int p3), .val (.int p4), .val (.int p5), .val (.long q6), .second, .val (.int x7), .val (.int x8), .val (.int x9), .val (.int x10), .val (.int x11), .val (.int (3 : Int32)), .val (.int x13), .val (.int v13), .val (.ref b55), .unset] [(.int (1 : Int32)), (.int (3 : Int32))])) _
      refine XS.icmpNo X59.here hx rfl (hb hby at_150) rfl (tlt (by decide : (1 : Int32) < (3 : Int32))).2.2.2 ?_
      show Steps p.tables e below (T59.setTop (mkF m 153 #[.val (.int p1), .val (.int p2), .val (.int p3), .val (.int p4), .val (.int p5), .val (.long q6), .second, .val (.int x7), .val (.int x8), .val (.int x9), .val (.int x10), .val (.int x11), .val (.int (3 : Int32)), .val (.int x13), .val (.int v13), .val (.ref b55), .unset] [])) _
      refine XS.aload X59.here hx rfl (hb hby at_153) rfl rfl ?_
      show Steps p.tables e below (T59.setTop (mkF m 155 #[.val (.int p1), .val (.int p2), .val (.int p3), .val (.int p4), .val (.int p5), .val (.long q6), .second, .val (.int x7), .val (.int x8), .val (.int x9), .val (.int x10), .val (.int x11), .val (.int (3 : Int32)), .val (.int x13), .val (.int v13), .val (.ref b55), .unset] [(.ref b55)])) _
      refine XS.iload X59.here hx rfl (hb hby at_155) rfl ?_
      show Steps p.tables e below (T59.setTop (mkF m 157 #[.val (.int p1), .val (.int p2), .val (.int p3), .val (.int p4), .val (.int p5), .val (.long q6), .second, .val (.int x7), .val (.int x8), .val (.int x9), .val (.int x10), .val (.int x11), .val (.int (3 : Int32)), .val (.int x13), .val (.int v13), .val (.ref b55), .unset] [(.int x8), (.ref b55)])) _
      refine st61.trans ?_
      show Steps p.tables e below (T61.setTop (mkF m 160 #[.val (.int p1), .val (.int p2), .val (.int p3), .val (.int p4), .val (.int p5), .val (.long q6), .second, .val (.int x7), .val (.int x8), .val (.int x9), .val (.int x10), .val (.int x11), .val (.int (3 : Int32)), .val (.int x13), .val (.int v13), .val (.ref b55), .unset] [(.int r61)])) _
      refine XS.pop X61.here hx rfl (hb hby at_160) rfl rfl ?_
      show Steps p.tables e below (T61.setTop (mkF m 161 #[.val (.int p1), .val (.int p2), .val (.int p3), .val (.int p4), .val (.int p5), .val (.long q6), .second, .val (.int x7), .val (.int x8), .val (.int x9), .val (.int x10), .val (.int x11), .val (.int (3 : Int32)), .val (.int x13), .val (.int v13), .val (.ref b55), .unset] [])) _
      refine XS.iload X61.here hx rfl (hb hby at_161) rfl ?_
      show Steps p.tables e below (T61.setTop (mkF m 163 #[.val (.int p1), .val (.int p2), .val (.int p3), .val (.int p4), .val (.int p5), .val (.long q6), .second, .val (.int x7), .val (.int x8), .val (.int x9), .val (.int x10), .val (.int x11), .val (.int (3 : Int32)), .val (.int x13), .val (.int v13), .val (.ref b55), .unset] [(.int (3 : Int32))])) _
      refine XS.iconst X61.here hx rfl (hb hby at_163) ?_
      show Steps p.tables e below (T61.setTop (mkF m 164 #[.val (.int p1), .val (.int p2), .val (.int p3), .val (.int p4), .val (.int p5), .val (.long q6), .second, .val (.int x7), .val (.int x8), .val (.int x9), .val (.int x10), .val (.int x11), .val (.int (3 : Int32)), .val (.int x13), .val (.int v13), .val (.ref b55), .unset] [(.int (2 : Int32)), (.int (3 : Int32))])) _
      refine XS.icmpNo X61.here hx rfl (hb hby at_164) rfl (tlt (by decide : (2 : Int32) < (3 : Int32))).2.2.2 ?_
      show Steps p.tables e below (T61.setTop (mkF m 167 #[.val (.int p1), .val (.int p2), .val (.int p3), .val (.int p4), .val (.int p5), .val (.long q6), .second, .val (.int x7), .val (.int x8), .val (.int x9), .val (.int x10), .val (.int x11), .val (.int (3 : Int32)), .val (.int x13), .val (.int v13), .val (.ref b55), .unset] [])) _
      refine XS.aload X61.here hx rfl (hb hby at_167) rfl rfl ?_
      show Steps p.tables e below (T61.setTop (mkF m 169 #[.val (.int p1), .val (.int p2), .val (.int p3), .val (.int p4), .val (.int p5), .val (.long q6), .second, .val (.int x7), .val (.int x8), .val (.int x9), .val (.int x10), .val (.int x11), .val (.int (3 : Int32)), .val (.int x13), .val (.int v13), .val (.ref b55), .unset] [(.ref b55)])) _
      refine XS.iload X61.here hx rfl (hb hby at_169) rfl ?_
      show Steps p.tables e below (T61.setTop (mkF m 171 #[.val (.int p1), .val (.int p2), .val (.int p3), .val (.int p4), .val (.int p5), .val (.long q6), .second, .val (.int x7), .val (.int x8), .val (.int x9), .val (.int x10), .val (.int x11), .val (.int (3 : Int32)), .val (.int x13), .val (.int v13), .val (.ref b55), .unset] [(.int x9), (.ref b55)])) _
      refine st63.trans ?_
      show Steps p.tables e below (T63.setTop (mkF m 174 #[.val (.int p1), .val (.int p2), .val (.int p3), .val (.int p4), .val (.int p5), .val (.long q6), .second, .val (.int x7), .val (.int x8), .val (.int x9), .val (.int x10), .val (.int x11), .val (.int (3 : Int32)), .val (.int x13), .val (.int v13), .val (.ref b55), .unset] [(.int r63)])) _
      refine XS.pop X63.here hx rfl (hb hby at_174) rfl rfl ?_
      show Steps p.tables e below (T63.setTop (mkF m 175 #[.val (.int p1), .val (.int p2), .val (.int p3), .val (.int p4), .val (.int p5), .val (.long q6), .second, .val (.int x7), .val (.int x8), .val (.int x9), .val (.int x10), .val (.int x11), .val (.int (3 : Int32)), .val (.int x13), .val (.int v13), .val (.ref b55), .unset] [])) _
      refine XS.iload X63.here hx rfl (hb hby at_175) rfl ?_
      show Steps p.tables e below (T63.setTop (mkF m 177 #[.val (.int p1), .val (.int p2), .val (.int p3), .val (.int p4), .val (.int p5), .val (.long q6), .second, .val (.int x7), .val (.int x8), .val (.int x9), .val (.int x10), .val (.int x11), .val (.int (3 : Int32)), .val (.int x13), .val (.int v13), .val (.ref b55), .unset] [(.int (3 : Int32))])) _
      refine XS.iconst X63.here hx rfl (hb hby at_177) ?_
      show Steps p.tables e below (T63.setTop (mkF m 178 #[.val (.int p1), .val (.int p2), .val (.int p3), .val (.int p4), .val (.int p5), .val (.long q6), .second, .val (.int x7), .val (.int x8), .val (.int x9), .val (.int x10), .val (.int x11), .val (.int (3 : Int32)), .val (.int x13), .val (.int v13), .val (.ref b55), .unset] [(.int (3 : Int32)), (.int (3 : Int32))])) _
      refine XS.icmpYes X63.here hx rfl (pc0 := 178) (pc' := 189) rfl (hb hby at_178) rfl (flt (by decide : ¬ ((3 : Int32) < (3 : Int32)))).2.2.2 (by decide) (by decide) ?_
      show Steps p.tables e below (T63.setTop (mkF m 189 #[.val (.int p1), .val (.int p2), .val (.int p3), .val (.int p4), .val (.int p5), .val (.long q6), .second, .val (.int x7), .val (.int x8), .val (.int x9), .val (.int x10), .val (.int x11), .val (.int (3 : Int32)), .val (.int x13), .val (.int v13), .val (.ref b55), .unset] [])) _
      refine XS.iload X63.here hx rfl (hb hby at_189) rfl ?_
      show Steps p.tables e below (T63.setTop (mkF m 191 #[.val (.int p1), .val (.int p2), .val (.int p3), .val (.int p4), .val (.int p5), .val (.long q6), .second, .val (.int x7), .val (.int x8), .val (.int x9), .val (.int x10), .val (.int x11), .val (.int (3 : Int32)), .val (.int x13), .val (.int v13), .val (.ref b55), .unset] [(.int (3 : Int32))])) _
      refine XS.iconst X63.here hx rfl (hb hby at_191) ?_
      show Steps p.tables e below (T63.setTop (mkF m 192 #[.val (.int p1), .val (.int p2), .val (.int p3), .val (.int p4), .val (.int p5), .val (.long q6), .second, .val (.int x7), .val (.int x8), .val (.int x9), .val (.int x10), .val (.int x11), .val (.int (3 : Int32)), .val (.int x13), .val (.int v13), .val (.ref b55), .unset] [(.int (4 : Int32)), (.int (3 : Int32))])) _
      refine XS.icmpYes X63.here hx rfl (pc0 := 192) (pc' := 203) rfl (hb hby at_192) rfl (flt (by decide : ¬ ((4 : Int32) < (3 : Int32)))).2.2.2 (by decide) (by decide) ?_
      show Steps p.tables e below (T63.setTop (mkF m 203 #[.val (.int p1), .val (.int p2), .val (.int p3), .val (.int p4), .val (.int p5), .val (.long q6), .second, .val (.int x7), .val (.int x8), .val (.int x9), .val (.int x10), .val (.int x11), .val (.int (3 : Int32)), .val (.int x13), .val (.int v13), .val (.ref b55), .unset] [])) _
      refine XS.iload X63.here hx rfl (hb hby at_203) rfl ?_
      show Steps p.tables e below (T63.setTop (mkF m 205 #[.val (.int p1), .val (.int p2), .val (.int p3), .val (.int p4), .val (.int p5), .val (.long q6), .second, .val (.int x7), .val (.int x8), .val (.int x9), .val (.int x10), .val (.int x11), .val (.int (3 : Int32)), .val (.int x13), .val (.int v13), .val (.ref b55), .unset] [(.int (3 : Int32))])) _
      refine XS.ifNo X63.here hx rfl (hb hby at_205) rfl ((if0 _ _).trans (tlt (by decide : (0 : Int32) < (3 : Int32))).2.2.2) ?_
      show Steps p.tables e below (T63.setTop (mkF m 208 #[.val (.int p1), .val (.int p2), .val (.int p3), .val (.int p4), .val (.int p5), .val (.long q6), .second, .val (.int x7), .val (.int x8), .val (.int x9), .val (.int x10), .val (.int x11), .val (.int (3 : Int32)), .val (.int x13), .val (.int v13), .val (.ref b55), .unset] [])) _
      refine XS.iload X63.here hx rfl (hb hby at_208) rfl ?_
      show Steps p.tables e below (T63.setTop (mkF m 210 #[.val (.int p1), .val (.int p2), .val (.int p3), .val (.int p4), .val (.int p5), .val (.long q6), .second, .val (.int x7), .val (.int x8), .val (.int x9), .val (.int x10), .val (.int x11), .val (.int (3 : Int32)), .val (.int x13), .val (.int v13), .val (.ref b55), .unset] [(.int v13)])) _
      refine XS.iload X63.here hx rfl (hb hby at_210) rfl ?_
      exact kt
    have pre71 : ∀ t, Steps p.tables e below (T63.setTop (mkF m 272 #[.val (.int p1), .val (.int p2), .val (.int p3), .val (.int p4), .val (.int p5), .val (.long q6), .second, .val (.int x7), .val (.int x8), .val (.int x9), .val (.int x10), .val (.int x11), .val (.int (3 : Int32)), .val (.int x13), .val (.int v13), .val (.ref b55), .unset] [(.int (if v13 = x7 then (1 : Int32) else (if v13 = x8 then (1 : Int32) else (if v13 = x9 then (1 : Int32) else (0 : Int32)))))])) t → Steps p.tables e below (s₁.setTop (entryFrame m #[(.int p1), (.int p2), (.int p3), (.int p4), (.int p5), (.long q6)] maxLocals)) t := by
      by_cases hc66 : v13 = x7
      · refine fun t kt => pre65 t ?_
        repeat rw [if_pos hc66] at kt
        show Steps p.tables e below (T63.setTop (mkF m 212 #[.val (.int p1), .val (.int p2), .val (.int p3), .val (.int p4), .val (.int p5), .val (.long q6), .second, .val (.int x7), .val (.int x8), .val (.int x9), .val (.int x10), .val (.int x11), .val (.int (3 : Int32)), .val (.int x13), .val (.int v13), .val (.ref b55), .unset] [(.int x7), (.int v13)])) _
        refine XS.icmpYes X63.here hx rfl (pc0 := 212) (pc' := 267) rfl (hb hby at_212) rfl (teq hc66).1 (by decide) (by decide) ?_
        show Steps p.tables e below (T63.setTop (mkF m 267 #[.val (.int p1), .val (.int p2), .val (.int p3), .val (.int p4), .val (.int p5), .val (.long q6), .second, .val (.int x7), .val (.int x8), .val (.int x9), .val (.int x10), .val (.int x11), .val (.int (3 : Int32)), .val (.int x13), .val (.int v13), .val (.ref b55), .unset] [])) _
        refine XS.iconst X63.here hx rfl (hb hby at_267) ?_
        show Steps p.tables e below (T63.setTop (mkF m 268 #[.val (.int p1), .val (.int p2), .val (.int p3), .val (.int p4), .val (.int p5), .val (.long q6), .second, .val (.int x7), .val (.int x8), .val (.int x9), .val (.int x10), .val (.int x11), .val (.int (3 : Int32)), .val (.int x13), .val (.int v13), .val (.ref b55), .unset] [(.int (1 : Int32))])) _
        refine XS.goto X63.here hx rfl (pc0 := 268) (pc' := 272) rfl (hb hby at_268) (by decide) (by decide) ?_
        exact kt
      · have pre67 : ∀ t, Steps p.tables e below (T63.setTop (mkF m 225 #[.val (.int p1), .val (.int p2), .val (.int p3), .val (.int p4), .val (.int p5), .val (.long q6), .second, .val (.int x7), .val (.int x8), .val (.int x9), .val (.int x10), .val (.int x11), .val (.int (3 : Int32)), .val (.int x13), .val (.int v13), .val (.ref b55), .unset] [(.int x8), (.int v13)])) t → Steps p.tables e below (s₁.setTop (entryFrame m #[(.int p1), (.int p2), (.int p3), (.int p4), (.int p5), (.long q6)] maxLocals)) t := fun t kt => by
          refine pre65 t ?_
          show Steps p.tables e below (T63.setTop (mkF m 212 #[.val (.int p1), .val (.int p2), .val (.int p3), .val (.int p4), .val (.int p5), .val (.long q6), .second, .val (.int x7), .val (.int x8), .val (.int x9), .val (.int x10), .val (.int x11), .val (.int (3 : Int32)), .val (.int x13), .val (.int v13), .val (.ref b55), .unset] [(.int x7), (.int v13)])) _
          refine XS.icmpNo X63.here hx rfl (hb hby at_212) rfl (feq hc66).1 ?_
          show Steps p.tables e below (T63.setTop (mkF m 215 #[.val (.int p1), .val (.int p2), .val (.int p3), .val (.int p4), .val (.int p5), .val (.long q6), .second, .val (.int x7), .val (.int x8), .val (.int x9), .val (.int x10), .val (.int x11), .val (.int (3 : Int32)), .val (.int x13), .val (.int v13), .val (.ref b55), .unset] [])) _
          refine XS.iload X63.here hx rfl (hb hby at_215) rfl ?_
          show Steps p.tables e below (T63.setTop (mkF m 217 #[.val (.int p1), .val (.int p2), .val (.int p3), .val (.int p4), .val (.int p5), .val (.long q6), .second, .val (.int x7), .val (.int x8), .val (.int x9), .val (.int x10), .val (.int x11), .val (.int (3 : Int32)), .val (.int x13), .val (.int v13), .val (.ref b55), .unset] [(.int (3 : Int32))])) _
          refine XS.iconst X63.here hx rfl (hb hby at_217) ?_
          show Steps p.tables e below (T63.setTop (mkF m 218 #[.val (.int p1), .val (.int p2), .val (.int p3), .val (.int p4), .val (.int p5), .val (.long q6), .second, .val (.int x7), .val (.int x8), .val (.int x9), .val (.int x10), .val (.int x11), .val (.int (3 : Int32)), .val (.int x13), .val (.int v13), .val (.ref b55), .unset] [(.int (1 : Int32)), (.int (3 : Int32))])) _
          refine XS.icmpNo X63.here hx rfl (hb hby at_218) rfl (tlt (by decide : (1 : Int32) < (3 : Int32))).2.2.2 ?_
          show Steps p.tables e below (T63.setTop (mkF m 221 #[.val (.int p1), .val (.int p2), .val (.int p3), .val (.int p4), .val (.int p5), .val (.long q6), .second, .val (.int x7), .val (.int x8), .val (.int x9), .val (.int x10), .val (.int x11), .val (.int (3 : Int32)), .val (.int x13), .val (.int v13), .val (.ref b55), .unset] [])) _
          refine XS.iload X63.here hx rfl (hb hby at_221) rfl ?_
          show Steps p.tables e below (T63.setTop (mkF m 223 #[.val (.int p1), .val (.int p2), .val (.int p3), .val (.int p4), .val (.int p5), .val (.long q6), .second, .val (.int x7), .val (.int x8), .val (.int x9), .val (.int x10), .val (.int x11), .val (.int (3 : Int32)), .val (.int x13), .val (.int v13), .val (.ref b55), .unset] [(.int v13)])) _
          refine XS.iload X63.here hx rfl (hb hby at_223) rfl ?_
          exact kt
        by_cases hc68 : v13 = x8
        · refine fun t kt => pre67 t ?_
          repeat rw [if_neg hc66] at kt
          repeat rw [if_pos hc68] at kt
          show Steps p.tables e below (T63.setTop (mkF m 225 #[.val (.int p1), .val (.int p2), .val (.int p3), .val (.int p4), .val (.int p5), .val (.long q6), .second, .val (.int x7), .val (.int x8), .val (.int x9), .val (.int x10), .val (.int x11), .val (.int (3 : Int32)), .val (.int x13), .val (.int v13), .val (.ref b55), .unset] [(.int x8), (.int v13)])) _
          refine XS.icmpYes X63.here hx rfl (pc0 := 225) (pc' := 267) rfl (hb hby at_225) rfl (teq hc68).1 (by decide) (by decide) ?_
          show Steps p.tables e below (T63.setTop (mkF m 267 #[.val (.int p1), .val (.int p2), .val (.int p3), .val (.int p4), .val (.int p5), .val (.long q6), .second, .val (.int x7), .val (.int x8), .val (.int x9), .val (.int x10), .val (.int x11), .val (.int (3 : Int32)), .val (.int x13), .val (.int v13), .val (.ref b55), .unset] [])) _
          refine XS.iconst X63.here hx rfl (hb hby at_267) ?_
          show Steps p.tables e below (T63.setTop (mkF m 268 #[.val (.int p1), .val (.int p2), .val (.int p3), .val (.int p4), .val (.int p5), .val (.long q6), .second, .val (.int x7), .val (.int x8), .val (.int x9), .val (.int x10), .val (.int x11), .val (.int (3 : Int32)), .val (.int x13), .val (.int v13), .val (.ref b55), .unset] [(.int (1 : Int32))])) _
          refine XS.goto X63.here hx rfl (pc0 := 268) (pc' := 272) rfl (hb hby at_268) (by decide) (by decide) ?_
          exact kt
        · have pre69 : ∀ t, Steps p.tables e below (T63.setTop (mkF m 238 #[.val (.int p1), .val (.int p2), .val (.int p3), .val (.int p4), .val (.int p5), .val (.long q6), .second, .val (.int x7), .val (.int x8), .val (.int x9), .val (.int x10), .val (.int x11), .val (.int (3 : Int32)), .val (.int x13), .val (.int v13), .val (.ref b55), .unset] [(.int x9), (.int v13)])) t → Steps p.tables e below (s₁.setTop (entryFrame m #[(.int p1), (.int p2), (.int p3), (.int p4), (.int p5), (.long q6)] maxLocals)) t := fun t kt => by
            refine pre67 t ?_
            show Steps p.tables e below (T63.setTop (mkF m 225 #[.val (.int p1), .val (.int p2), .val (.int p3), .val (.int p4), .val (.int p5), .val (.long q6), .second, .val (.int x7), .val (.int x8), .val (.int x9), .val (.int x10), .val (.int x11), .val (.int (3 : Int32)), .val (.int x13), .val (.int v13), .val (.ref b55), .unset] [(.int x8), (.int v13)])) _
            refine XS.icmpNo X63.here hx rfl (hb hby at_225) rfl (feq hc68).1 ?_
            show Steps p.tables e below (T63.setTop (mkF m 228 #[.val (.int p1), .val (.int p2), .val (.int p3), .val (.int p4), .val (.int p5), .val (.long q6), .second, .val (.int x7), .val (.int x8), .val (.int x9), .val (.int x10), .val (.int x11), .val (.int (3 : Int32)), .val (.int x13), .val (.int v13), .val (.ref b55), .unset] [])) _
            refine XS.iload X63.here hx rfl (hb hby at_228) rfl ?_
            show Steps p.tables e below (T63.setTop (mkF m 230 #[.val (.int p1), .val (.int p2), .val (.int p3), .val (.int p4), .val (.int p5), .val (.long q6), .second, .val (.int x7), .val (.int x8), .val (.int x9), .val (.int x10), .val (.int x11), .val (.int (3 : Int32)), .val (.int x13), .val (.int v13), .val (.ref b55), .unset] [(.int (3 : Int32))])) _
            refine XS.iconst X63.here hx rfl (hb hby at_230) ?_
            show Steps p.tables e below (T63.setTop (mkF m 231 #[.val (.int p1), .val (.int p2), .val (.int p3), .val (.int p4), .val (.int p5), .val (.long q6), .second, .val (.int x7), .val (.int x8), .val (.int x9), .val (.int x10), .val (.int x11), .val (.int (3 : Int32)), .val (.int x13), .val (.int v13), .val (.ref b55), .unset] [(.int (2 : Int32)), (.int (3 : Int32))])) _
            refine XS.icmpNo X63.here hx rfl (hb hby at_231) rfl (tlt (by decide : (2 : Int32) < (3 : Int32))).2.2.2 ?_
            show Steps p.tables e below (T63.setTop (mkF m 234 #[.val (.int p1), .val (.int p2), .val (.int p3), .val (.int p4), .val (.int p5), .val (.long q6), .second, .val (.int x7), .val (.int x8), .val (.int x9), .val (.int x10), .val (.int x11), .val (.int (3 : Int32)), .val (.int x13), .val (.int v13), .val (.ref b55), .unset] [])) _
            refine XS.iload X63.here hx rfl (hb hby at_234) rfl ?_
            show Steps p.tables e below (T63.setTop (mkF m 236 #[.val (.int p1), .val (.int p2), .val (.int p3), .val (.int p4), .val (.int p5), .val (.long q6), .second, .val (.int x7), .val (.int x8), .val (.int x9), .val (.int x10), .val (.int x11), .val (.int (3 : Int32)), .val (.int x13), .val (.int v13), .val (.ref b55), .unset] [(.int v13)])) _
            refine XS.iload X63.here hx rfl (hb hby at_236) rfl ?_
            exact kt
          by_cases hc70 : v13 = x9
          · refine fun t kt => pre69 t ?_
            repeat rw [if_neg hc66] at kt
            repeat rw [if_neg hc68] at kt
            repeat rw [if_pos hc70] at kt
            show Steps p.tables e below (T63.setTop (mkF m 238 #[.val (.int p1), .val (.int p2), .val (.int p3), .val (.int p4), .val (.int p5), .val (.long q6), .second, .val (.int x7), .val (.int x8), .val (.int x9), .val (.int x10), .val (.int x11), .val (.int (3 : Int32)), .val (.int x13), .val (.int v13), .val (.ref b55), .unset] [(.int x9), (.int v13)])) _
            refine XS.icmpYes X63.here hx rfl (pc0 := 238) (pc' := 267) rfl (hb hby at_238) rfl (teq hc70).1 (by decide) (by decide) ?_
            show Steps p.tables e below (T63.setTop (mkF m 267 #[.val (.int p1), .val (.int p2), .val (.int p3), .val (.int p4), .val (.int p5), .val (.long q6), .second, .val (.int x7), .val (.int x8), .val (.int x9), .val (.int x10), .val (.int x11), .val (.int (3 : Int32)), .val (.int x13), .val (.int v13), .val (.ref b55), .unset] [])) _
            refine XS.iconst X63.here hx rfl (hb hby at_267) ?_
            show Steps p.tables e below (T63.setTop (mkF m 268 #[.val (.int p1), .val (.int p2), .val (.int p3), .val (.int p4), .val (.int p5), .val (.long q6), .second, .val (.int x7), .val (.int x8), .val (.int x9), .val (.int x10), .val (.int x11), .val (.int (3 : Int32)), .val (.int x13), .val (.int v13), .val (.ref b55), .unset] [(.int (1 : Int32))])) _
            refine XS.goto X63.here hx rfl (pc0 := 268) (pc' := 272) rfl (hb hby at_268) (by decide) (by decide) ?_
            exact kt
          · refine fun t kt => pre69 t ?_
            repeat rw [if_neg hc66] at kt
            repeat rw [if_neg hc68] at kt
            repeat rw [if_neg hc70] at kt
            show Steps p.tables e below (T63.setTop (mkF m 238 #[.val (.int p1), .val (.int p2), .val (.int p3), .val (.int p4), .val (.int p5), .val (.long q6), .second, .val (.int x7), .val (.int x8), .val (.int x9), .val (.int x10), .val (.int x11), .val (.int (3 : Int32)), .val (.int x13), .val (.int v13), .val (.ref b55), .unset] [(.int x9), (.int v13)])) _
            refine XS.icmpNo X63.here hx rfl (hb hby at_238) rfl (feq hc70).1 ?_
            show Steps p.tables e below (T63.setTop (mkF m 241 #[.val (.int p1), .val (.int p2), .val (.int p3), .val (.int p4), .val (.int p5), .val (.long q6), .second, .val (.int x7), .val (.int x8), .val (.int x9), .val (.int x10), .val (.int x11), .val (.int (3 : Int32)), .val (.int x13), .val (.int v13), .val (.ref b55), .unset] [])) _
            refine XS.iload X63.here hx rfl (hb hby at_241) rfl ?_
            show Steps p.tables e below (T63.setTop (mkF m 243 #[.val (.int p1), .val (.int p2), .val (.int p3), .val (.int p4), .val (.int p5), .val (.long q6), .second, .val (.int x7), .val (.int x8), .val (.int x9), .val (.int x10), .val (.int x11), .val (.int (3 : Int32)), .val (.int x13), .val (.int v13), .val (.ref b55), .unset] [(.int (3 : Int32))])) _
            refine XS.iconst X63.here hx rfl (hb hby at_243) ?_
            show Steps p.tables e below (T63.setTop (mkF m 244 #[.val (.int p1), .val (.int p2), .val (.int p3), .val (.int p4), .val (.int p5), .val (.long q6), .second, .val (.int x7), .val (.int x8), .val (.int x9), .val (.int x10), .val (.int x11), .val (.int (3 : Int32)), .val (.int x13), .val (.int v13), .val (.ref b55), .unset] [(.int (3 : Int32)), (.int (3 : Int32))])) _
            refine XS.icmpYes X63.here hx rfl (pc0 := 244) (pc' := 254) rfl (hb hby at_244) rfl (flt (by decide : ¬ ((3 : Int32) < (3 : Int32)))).2.2.2 (by decide) (by decide) ?_
            show Steps p.tables e below (T63.setTop (mkF m 254 #[.val (.int p1), .val (.int p2), .val (.int p3), .val (.int p4), .val (.int p5), .val (.long q6), .second, .val (.int x7), .val (.int x8), .val (.int x9), .val (.int x10), .val (.int x11), .val (.int (3 : Int32)), .val (.int x13), .val (.int v13), .val (.ref b55), .unset] [])) _
            refine XS.iload X63.here hx rfl (hb hby at_254) rfl ?_
            show Steps p.tables e below (T63.setTop (mkF m 256 #[.val (.int p1), .val (.int p2), .val (.int p3), .val (.int p4), .val (.int p5), .val (.long q6), .second, .val (.int x7), .val (.int x8), .val (.int x9), .val (.int x10), .val (.int x11), .val (.int (3 : Int32)), .val (.int x13), .val (.int v13), .val (.ref b55), .unset] [(.int (3 : Int32))])) _
            refine XS.iconst X63.here hx rfl (hb hby at_256) ?_
            show Steps p.tables e below (T63.setTop (mkF m 257 #[.val (.int p1), .val (.int p2), .val (.int p3), .val (.int p4), .val (.int p5), .val (.long q6), .second, .val (.int x7), .val (.int x8), .val (.int x9), .val (.int x10), .val (.int x11), .val (.int (3 : Int32)), .val (.int x13), .val (.int v13), .val (.ref b55), .unset] [(.int (4 : Int32)), (.int (3 : Int32))])) _
            refine XS.icmpYes X63.here hx rfl (pc0 := 257) (pc' := 271) rfl (hb hby at_257) rfl (flt (by decide : ¬ ((4 : Int32) < (3 : Int32)))).2.2.2 (by decide) (by decide) ?_
            show Steps p.tables e below (T63.setTop (mkF m 271 #[.val (.int p1), .val (.int p2), .val (.int p3), .val (.int p4), .val (.int p5), .val (.long q6), .second, .val (.int x7), .val (.int x8), .val (.int x9), .val (.int x10), .val (.int x11), .val (.int (3 : Int32)), .val (.int x13), .val (.int v13), .val (.ref b55), .unset] [])) _
            refine XS.iconst X63.here hx rfl (hb hby at_271) ?_
            exact kt
    obtain ⟨v72, hv72⟩ : ∃ z : Int32, z = (if v13 = x7 then (1 : Int32) else (if v13 = x8 then (1 : Int32) else (if v13 = x9 then (1 : Int32) else (0 : Int32)))) := ⟨_, rfl⟩
    rw [← hv72] at pre71
    have z74 : n0 ≤ T63.heap.size := (Nat.le_trans z64 hs63)
    obtain ⟨cq73, kq73, iq73a, iq73b, iq73c⟩ := isOf hZ rfl Ee63
    obtain ⟨_, _, ⟨T73, L73, k73, n73⟩, -, X73, ⟨Lc73, hQ73, l73, y73, z73⟩, st73⟩ := X63.virtualBack hx (y := (⟨"com/example/krel/krel/saturation/AtomSet", "contains", "(I)Z"⟩ : MethodName)) (z := (⟨"com/example/krel/krel/saturation/AtomSet", "contains", "(I)Z"⟩ : MethodName)) hown (mvT hZ (hw _ (List.mem_of_getElem? (i := 15) rfl))) (mvT hZ (hw _ (List.mem_of_getElem? (i := 16) rfl))) (notFace_of_selects (args := #[]) (mvT hZ (hw _ (List.mem_of_getElem? (i := 18) rfl)))) (mvT hZ (hw _ (List.mem_of_getElem? (i := 18) rfl))) (mvT hZ (hw _ (List.mem_of_getElem? (i := 17) rfl))) (by decide) (backOf (W := 0) (rm90003 l Z a0 hw [] b55 v13 (own_ins (own_ins (own_ins [] x7) x8) x9) T63.heap n0 z74 A63 (side_0_pos278_4 p1 p2 p3 p4 p5 q6 x7 hx7 x8 hx8 x9 hx9 x10 hx10 x11 hx11 x12 hx12 x13 hx13 x14 hx14 v13 hv13 hk14 v72 hv72)) hZ (hw _ (List.mem_of_getElem? (i := 19) rfl)) (hw _ (List.mem_of_getElem? (i := 3) rfl)) (by decide) (by decide)) iq73a iq73c (g := (mkF m 278 #[.val (.int p1), .val (.int p2), .val (.int p3), .val (.int p4), .val (.int p5), .val (.long q6), .second, .val (.int x7), .val (.int x8), .val (.int x9), .val (.int x10), .val (.int x11), .val (.int (3 : Int32)), .val (.int x13), .val (.int v13), .val (.ref b55), .val (.int v72)] [(.int v13), (.ref b55)])) rfl (by rw [hml]; rfl) (Steps.refl _) (argsL := [(.int v13)]) (rest := []) (lenOf pd_0_1 rfl) rfl (by show 2 * 0 + _ ≤ _; exact Nat.le_of_eq rfl) (hb hby at_278) (fun _ _ => ⟨rfl, rfl, (by decide : 9 + 0 ≤ _), (by decide : 87 + 0 ≤ _)⟩)
    dsimp only [Pt.U, Pt.locs, Pt.cells, Pt.slots] at X73 l73 y73 z73 st73 hQ73
    subst l73 y73 z73
    obtain ⟨rfl, N73q, e73⟩ := hQ73
    have N73 := Fr.app N63 N73q
    have pre75 : ∀ t, Steps p.tables e below (T73.setTop (mkF m 283 #[.val (.int p1), .val (.int p2), .val (.int p3), .val (.int p4), .val (.int p5), .val (.long q6), .second, .val (.int x7), .val (.int x8), .val (.int x9), .val (.int x10), .val (.int x11), .val (.int (3 : Int32)), .val (.int x13), .val (.int v13), .val (.ref b55), .val (.int v72)] [(.int v72), (.int (if v13 ∈ (own_ins (own_ins (own_ins [] x7) x8) x9) then (1 : Int32) else (0 : Int32)))])) t → Steps p.tables e below (s₁.setTop (entryFrame m #[(.int p1), (.int p2), (.int p3), (.int p4), (.int p5), (.long q6)] maxLocals)) t := fun t kt => by
      refine pre71 t ?_
      show Steps p.tables e below (T63.setTop (mkF m 272 #[.val (.int p1), .val (.int p2), .val (.int p3), .val (.int p4), .val (.int p5), .val (.long q6), .second, .val (.int x7), .val (.int x8), .val (.int x9), .val (.int x10), .val (.int x11), .val (.int (3 : Int32)), .val (.int x13), .val (.int v13), .val (.ref b55), .unset] [(.int v72)])) _
      refine XS.istore X63.here hx rfl (hb hby at_272) rfl (l' := #[.val (.int p1), .val (.int p2), .val (.int p3), .val (.int p4), .val (.int p5), .val (.long q6), .second, .val (.int x7), .val (.int x8), .val (.int x9), .val (.int x10), .val (.int x11), .val (.int (3 : Int32)), .val (.int x13), .val (.int v13), .val (.ref b55), .val (.int v72)]) rfl ?_
      show Steps p.tables e below (T63.setTop (mkF m 274 #[.val (.int p1), .val (.int p2), .val (.int p3), .val (.int p4), .val (.int p5), .val (.long q6), .second, .val (.int x7), .val (.int x8), .val (.int x9), .val (.int x10), .val (.int x11), .val (.int (3 : Int32)), .val (.int x13), .val (.int v13), .val (.ref b55), .val (.int v72)] [])) _
      refine XS.aload X63.here hx rfl (hb hby at_274) rfl rfl ?_
      show Steps p.tables e below (T63.setTop (mkF m 276 #[.val (.int p1), .val (.int p2), .val (.int p3), .val (.int p4), .val (.int p5), .val (.long q6), .second, .val (.int x7), .val (.int x8), .val (.int x9), .val (.int x10), .val (.int x11), .val (.int (3 : Int32)), .val (.int x13), .val (.int v13), .val (.ref b55), .val (.int v72)] [(.ref b55)])) _
      refine XS.iload X63.here hx rfl (hb hby at_276) rfl ?_
      show Steps p.tables e below (T63.setTop (mkF m 278 #[.val (.int p1), .val (.int p2), .val (.int p3), .val (.int p4), .val (.int p5), .val (.long q6), .second, .val (.int x7), .val (.int x8), .val (.int x9), .val (.int x10), .val (.int x11), .val (.int (3 : Int32)), .val (.int x13), .val (.int v13), .val (.ref b55), .val (.int v72)] [(.int v13), (.ref b55)])) _
      refine st73.trans ?_
      show Steps p.tables e below (T73.setTop (mkF m 281 #[.val (.int p1), .val (.int p2), .val (.int p3), .val (.int p4), .val (.int p5), .val (.long q6), .second, .val (.int x7), .val (.int x8), .val (.int x9), .val (.int x10), .val (.int x11), .val (.int (3 : Int32)), .val (.int x13), .val (.int v13), .val (.ref b55), .val (.int v72)] [(.int (if v13 ∈ (own_ins (own_ins (own_ins [] x7) x8) x9) then (1 : Int32) else (0 : Int32)))])) _
      refine XS.iload X73.here hx rfl (hb hby at_281) rfl ?_
      exact kt
    by_cases hc76 : (if v13 ∈ (own_ins (own_ins (own_ins [] x7) x8) x9) then (1 : Int32) else (0 : Int32)) = v72
    · obtain ⟨fs, hr, hrun, hended, hW, hsame⟩ := X73.leave (v := some (.int (1 : Int32))) (fun h => by rw [Bd.returns] at h; cases h)
      refine ⟨_, _, pre75 _ ?_, hrun, hended, _, _, rfl, ?_, ⟨_, rfl⟩, hW, hsame.mono (by decide) (by decide)⟩
      · show Steps p.tables e below (T73.setTop (mkF m 283 #[.val (.int p1), .val (.int p2), .val (.int p3), .val (.int p4), .val (.int p5), .val (.long q6), .second, .val (.int x7), .val (.int x8), .val (.int x9), .val (.int x10), .val (.int x11), .val (.int (3 : Int32)), .val (.int x13), .val (.int v13), .val (.ref b55), .val (.int v72)] [(.int v72), (.int (if v13 ∈ (own_ins (own_ins (own_ins [] x7) x8) x9) then (1 : Int32) else (0 : Int32)))])) _
        refine XS.icmpNo X73.here hx rfl (hb hby at_283) rfl (teq hc76).2 ?_
        show Steps p.tables e below (T73.setTop (mkF m 286 #[.val (.int p1), .val (.int p2), .val (.int p3), .val (.int p4), .val (.int p5), .val (.long q6), .second, .val (.int x7), .val (.int x8), .val (.int x9), .val (.int x10), .val (.int x11), .val (.int (3 : Int32)), .val (.int x13), .val (.int v13), .val (.ref b55), .val (.int v72)] [])) _
        refine XS.iconst X73.here hx rfl (hb hby at_286) ?_
        show Steps p.tables e below (T73.setTop (mkF m 287 #[.val (.int p1), .val (.int p2), .val (.int p3), .val (.int p4), .val (.int p5), .val (.long q6), .second, .val (.int x7), .val (.int x8), .val (.int x9), .val (.int x10), .val (.int x11), .val (.int (3 : Int32)), .val (.int x13), .val (.int v13), .val (.ref b55), .val (.int v72)] [(.int (1 : Int32))])) _
        refine XS.goto X73.here hx rfl (pc0 := 287) (pc' := 291) rfl (hb hby at_287) (by decide) (by decide) ?_
        show Steps p.tables e below (T73.setTop (mkF m 291 #[.val (.int p1), .val (.int p2), .val (.int p3), .val (.int p4), .val (.int p5), .val (.long q6), .second, .val (.int x7), .val (.int x8), .val (.int x9), .val (.int x10), .val (.int x11), .val (.int (3 : Int32)), .val (.int x13), .val (.int v13), .val (.ref b55), .val (.int v72)] [(.int (1 : Int32))])) _
        exact retN X73 hx (t := .boolean) Bd.returns (by simp) (hb hby at_291) hr
      · show Q0 Z p1 p2 p3 p4 p5 q6 h0 n0 _ T73.heap _
        rw [e73]
        exact ⟨rfl, N73⟩
    · exact (leaf_0_8 p1 p2 p3 p4 p5 q6 x7 hx7 x8 hx8 x9 hx9 x10 hx10 x11 hx11 x12 hx12 x13 hx13 x14 hx14 v13 hv13 hk14 v72 hv72 hc76).elim
  · rw [hk14] at pre12
    obtain ⟨b77, g77⟩ : ∃ z, z = h0.size := ⟨_, rfl⟩
    obtain ⟨T77, h77, X77, e77, E77, A77, D77, -, st77⟩ := newO X0 hx hZ hown (hw _ (List.mem_of_getElem? (i := 1) rfl)) (hw _ (List.mem_of_getElem? (i := 2) rfl)) (hw _ (List.mem_of_getElem? (i := 3) rfl)) e0 (g := (mkF m 125 #[.val (.int p1), .val (.int p2), .val (.int p3), .val (.int p4), .val (.int p5), .val (.long q6), .second, .val (.int x7), .val (.int x8), .val (.int x9), .val (.int x10), .val (.int x11), .val (.int (4 : Int32)), .val (.int x13), .val (.int v13), .unset, .unset] [])) rfl (hb hby at_125) (by decide) (by decide)
    rw [← g77] at A77 D77 st77
    have g_b77 : n0 ≤ b77 := Nat.le_trans Z0 (Nat.le_of_eq g77.symm)
    have F_slots_b77 : Fld Z h77 b77 "com/example/krel/krel/saturation/AtomSet" "slots" "[I" .null := D77 (Or.inl (hw _ (List.mem_of_getElem? (i := 12) rfl))) (ty := (.array .int)) (by decide)
    have F_atoms_b77 : Fld Z h77 b77 "com/example/krel/krel/saturation/AtomSet" "atoms" "[I" .null := D77 (Or.inl (hw _ (List.mem_of_getElem? (i := 14) rfl))) (ty := (.array .int)) (by decide)
    have F_size_b77 : Fld Z h77 b77 "com/example/krel/krel/saturation/AtomSet" "size" "I" (.int (0 : Int32)) := D77 (Or.inl (hw _ (List.mem_of_getElem? (i := 31) rfl))) (ty := .int) (by decide)
    have z79 : n0 ≤ h77.size := (Nat.le_trans Z0 E77.1)
    obtain ⟨_, _, ⟨T78, L78, k78, n78⟩, -, X78, ⟨Lc78, hQ78, l78, y78, z78⟩, st78⟩ := X77.specialBack hx (y := (⟨"com/example/krel/krel/saturation/AtomSet", "<init>", "()V"⟩ : MethodName)) rfl hown (mvT hZ (hw _ (List.mem_of_getElem? (i := 4) rfl))) (mvT hZ (hw _ (List.mem_of_getElem? (i := 5) rfl))) (mvT hZ (hw _ (List.mem_of_getElem? (i := 6) rfl))) (by decide) (backOf (W := 1) (rm1 l Z a0 hw [] b77 (.int (0 : Int32)) .null .null h77 n0 z79 A77 F_size_b77 F_slots_b77 g_b77 F_atoms_b77) hZ (hw _ (List.mem_of_getElem? (i := 6) rfl)) (hw _ (List.mem_of_getElem? (i := 3) rfl)) (by decide) (by decide)) (g := (mkF m 129 #[.val (.int p1), .val (.int p2), .val (.int p3), .val (.int p4), .val (.int p5), .val (.long q6), .second, .val (.int x7), .val (.int x8), .val (.int x9), .val (.int x10), .val (.int x11), .val (.int (4 : Int32)), .val (.int x13), .val (.int v13), .unset, .unset] [(.ref b77), (.ref b77)])) rfl (by rw [hml]; rfl) (Steps.refl _) (a := b77) (argsL := []) (rest := [(.ref b77)]) (lenOf pd_0_0 rfl) rfl (by show 2 * 0 + _ ≤ _; exact Nat.le_of_eq rfl) (hb hby at_129) (fun _ _ => ⟨rfl, e77, (by decide : 1 + 2 ≤ _), (by decide : 3 + 12 ≤ _)⟩)
    dsimp only [Pt.U, Pt.locs, Pt.cells, Pt.slots] at X78 l78 y78 z78 st78 hQ78
    subst l78 y78 z78
    obtain ⟨b78_0, b78_1, kk78_0, kk78_1, rfl, N78q, g_b78_0, g_b78_1, hz_b78_0, hz_b78_1, ne_b78_0_b78_1, K78, f78_0, f78_1, f78_2, f78_3, f78_4, f78_5⟩ := hQ78
    have ne_b77_b78_0 : b77 ≠ b78_0 := Nat.ne_of_lt (Nat.lt_of_lt_of_le A77.lt hz_b78_0)
    have ne_b77_b78_1 : b77 ≠ b78_1 := Nat.ne_of_lt (Nat.lt_of_lt_of_le A77.lt hz_b78_1)
    have N78 := Fr.app N0 N78q
    have A80 : own_AS Z T78.heap n0 b77 [] := ⟨b78_0, b78_1, kk78_0, kk78_1, [0, 0, 0, 0, 0, 0, 0, 0], [0, 0, 0, 0], f78_0, f78_3, f78_1, f78_2, g_b77, g_b78_0, g_b78_1, ne_b77_b78_0, ne_b77_b78_1, ne_b78_0_b78_1, (fun y hy => by simp at hy), List.nodup_nil, Or.inl ⟨by decide, rfl, f78_4, own_empty _ 8 (by decide), rfl, f78_5, rfl⟩⟩
    have hn80 : ([] : List Int32).length ≤ 0 := Nat.le_refl _
    have z82 : n0 ≤ T78.heap.size := (Nat.le_trans z79 K78.1)
    obtain ⟨cq81, kq81, iq81a, iq81b, iq81c⟩ := isOf hZ rfl f78_0
    obtain ⟨_, _, ⟨T81, L81, k81, n81⟩, -, X81, ⟨Lc81, hQ81, l81, y81, z81⟩, st81⟩ := X78.virtualBack hx (y := (⟨"com/example/krel/krel/saturation/AtomSet", "add", "(I)Z"⟩ : MethodName)) (z := (⟨"com/example/krel/krel/saturation/AtomSet", "add", "(I)Z"⟩ : MethodName)) hown (mvT hZ (hw _ (List.mem_of_getElem? (i := 25) rfl))) (mvT hZ (hw _ (List.mem_of_getElem? (i := 26) rfl))) (notFace_of_selects (args := #[]) (mvT hZ (hw _ (List.mem_of_getElem? (i := 28) rfl)))) (mvT hZ (hw _ (List.mem_of_getElem? (i := 28) rfl))) (mvT hZ (hw _ (List.mem_of_getElem? (i := 27) rfl))) (by decide) (backOf (W := 0) (rm90005 l Z a0 hw [] b77 x7 [] T78.heap n0 z82 A80 (Nat.le_trans hn80 (by decide)) (side_0_pos143_4 p1 p2 p3 p4 p5 q6 x7 hx7 x8 hx8 x9 hx9 x10 hx10 x11 hx11 x12 hx12 x13 hx13 x14 hx14 v13 hv13 hk14)) hZ (hw _ (List.mem_of_getElem? (i := 29) rfl)) (hw _ (List.mem_of_getElem? (i := 3) rfl)) (by decide) (by decide)) iq81a iq81c (g := (mkF m 143 #[.val (.int p1), .val (.int p2), .val (.int p3), .val (.int p4), .val (.int p5), .val (.long q6), .second, .val (.int x7), .val (.int x8), .val (.int x9), .val (.int x10), .val (.int x11), .val (.int (4 : Int32)), .val (.int x13), .val (.int v13), .val (.ref b77), .unset] [(.int x7), (.ref b77)])) rfl (by rw [hml]; rfl) (Steps.refl _) (argsL := [(.int x7)]) (rest := []) (lenOf pd_0_1 rfl) rfl (by show 2 * 0 + _ ≤ _; exact Nat.le_of_eq rfl) (hb hby at_143) (fun _ _ => ⟨rfl, rfl, (by decide : 3 + 2 ≤ _), (by decide : 15 + 24 ≤ _)⟩)
    dsimp only [Pt.U, Pt.locs, Pt.cells, Pt.slots] at X81 l81 y81 z81 st81 hQ81
    subst l81 y81 z81
    obtain ⟨⟨r81, rfl⟩, N81q, hs81, A81⟩ := hQ81
    have hn81 := own_inslen (x := x7) hn80
    have Ee81 := own_ASexa A81
    have N81 := Fr.app N78 N81q
    have z84 : n0 ≤ T81.heap.size := (Nat.le_trans z82 hs81)
    obtain ⟨cq83, kq83, iq83a, iq83b, iq83c⟩ := isOf hZ rfl Ee81
    obtain ⟨_, _, ⟨T83, L83, k83, n83⟩, -, X83, ⟨Lc83, hQ83, l83, y83, z83⟩, st83⟩ := X81.virtualBack hx (y := (⟨"com/example/krel/krel/saturation/AtomSet", "add", "(I)Z"⟩ : MethodName)) (z := (⟨"com/example/krel/krel/saturation/AtomSet", "add", "(I)Z"⟩ : MethodName)) hown (mvT hZ (hw _ (List.mem_of_getElem? (i := 25) rfl))) (mvT hZ (hw _ (List.mem_of_getElem? (i := 26) rfl))) (notFace_of_selects (args := #[]) (mvT hZ (hw _ (List.mem_of_getElem? (i := 28) rfl)))) (mvT hZ (hw _ (List.mem_of_getElem? (i := 28) rfl))) (mvT hZ (hw _ (List.mem_of_getElem? (i := 27) rfl))) (by decide) (backOf (W := 0) (rm90005 l Z a0 hw [] b77 x8 (own_ins [] x7) T81.heap n0 z84 A81 (Nat.le_trans hn81 (by decide)) (side_0_pos157_3 p1 p2 p3 p4 p5 q6 x7 hx7 x8 hx8 x9 hx9 x10 hx10 x11 hx11 x12 hx12 x13 hx13 x14 hx14 v13 hv13 hk14)) hZ (hw _ (List.mem_of_getElem? (i := 29) rfl)) (hw _ (List.mem_of_getElem? (i := 3) rfl)) (by decide) (by decide)) iq83a iq83c (g := (mkF m 157 #[.val (.int p1), .val (.int p2), .val (.int p3), .val (.int p4), .val (.int p5), .val (.long q6), .second, .val (.int x7), .val (.int x8), .val (.int x9), .val (.int x10), .val (.int x11), .val (.int (4 : Int32)), .val (.int x13), .val (.int v13), .val (.ref b77), .unset] [(.int x8), (.ref b77)])) rfl (by rw [hml]; rfl) (Steps.refl _) (argsL := [(.int x8)]) (rest := []) (lenOf pd_0_1 rfl) rfl (by show 2 * 0 + _ ≤ _; exact Nat.le_of_eq rfl) (hb hby at_157) (fun _ _ => ⟨rfl, rfl, (by decide : 5 + 2 ≤ _), (by decide : 39 + 24 ≤ _)⟩)
    dsimp only [Pt.U, Pt.locs, Pt.cells, Pt.slots] at X83 l83 y83 z83 st83 hQ83
    subst l83 y83 z83
    obtain ⟨⟨r83, rfl⟩, N83q, hs83, A83⟩ := hQ83
    have hn83 := own_inslen (x := x8) hn81
    have Ee83 := own_ASexa A83
    have N83 := Fr.app N81 N83q
    have z86 : n0 ≤ T83.heap.size := (Nat.le_trans z84 hs83)
    obtain ⟨cq85, kq85, iq85a, iq85b, iq85c⟩ := isOf hZ rfl Ee83
    obtain ⟨_, _, ⟨T85, L85, k85, n85⟩, -, X85, ⟨Lc85, hQ85, l85, y85, z85⟩, st85⟩ := X83.virtualBack hx (y := (⟨"com/example/krel/krel/saturation/AtomSet", "add", "(I)Z"⟩ : MethodName)) (z := (⟨"com/example/krel/krel/saturation/AtomSet", "add", "(I)Z"⟩ : MethodName)) hown (mvT hZ (hw _ (List.mem_of_getElem? (i := 25) rfl))) (mvT hZ (hw _ (List.mem_of_getElem? (i := 26) rfl))) (notFace_of_selects (args := #[]) (mvT hZ (hw _ (List.mem_of_getElem? (i := 28) rfl)))) (mvT hZ (hw _ (List.mem_of_getElem? (i := 28) rfl))) (mvT hZ (hw _ (List.mem_of_getElem? (i := 27) rfl))) (by decide) (backOf (W := 0) (rm90005 l Z a0 hw [] b77 x9 (own_ins (own_ins [] x7) x8) T83.heap n0 z86 A83 (Nat.le_trans hn83 (by decide)) (side_0_pos171_2 p1 p2 p3 p4 p5 q6 x7 hx7 x8 hx8 x9 hx9 x10 hx10 x11 hx11 x12 hx12 x13 hx13 x14 hx14 v13 hv13 hk14)) hZ (hw _ (List.mem_of_getElem? (i := 29) rfl)) (hw _ (List.mem_of_getElem? (i := 3) rfl)) (by decide) (by decide)) iq85a iq85c (g := (mkF m 171 #[.val (.int p1), .val (.int p2), .val (.int p3), .val (.int p4), .val (.int p5), .val (.long q6), .second, .val (.int x7), .val (.int x8), .val (.int x9), .val (.int x10), .val (.int x11), .val (.int (4 : Int32)), .val (.int x13), .val (.int v13), .val (.ref b77), .unset] [(.int x9), (.ref b77)])) rfl (by rw [hml]; rfl) (Steps.refl _) (argsL := [(.int x9)]) (rest := []) (lenOf pd_0_1 rfl) rfl (by show 2 * 0 + _ ≤ _; exact Nat.le_of_eq rfl) (hb hby at_171) (fun _ _ => ⟨rfl, rfl, (by decide : 7 + 2 ≤ _), (by decide : 63 + 24 ≤ _)⟩)
    dsimp only [Pt.U, Pt.locs, Pt.cells, Pt.slots] at X85 l85 y85 z85 st85 hQ85
    subst l85 y85 z85
    obtain ⟨⟨r85, rfl⟩, N85q, hs85, A85⟩ := hQ85
    have hn85 := own_inslen (x := x9) hn83
    have Ee85 := own_ASexa A85
    have N85 := Fr.app N83 N85q
    have z88 : n0 ≤ T85.heap.size := (Nat.le_trans z86 hs85)
    obtain ⟨cq87, kq87, iq87a, iq87b, iq87c⟩ := isOf hZ rfl Ee85
    obtain ⟨_, _, ⟨T87, L87, k87, n87⟩, -, X87, ⟨Lc87, hQ87, l87, y87, z87⟩, st87⟩ := X85.virtualBack hx (y := (⟨"com/example/krel/krel/saturation/AtomSet", "add", "(I)Z"⟩ : MethodName)) (z := (⟨"com/example/krel/krel/saturation/AtomSet", "add", "(I)Z"⟩ : MethodName)) hown (mvT hZ (hw _ (List.mem_of_getElem? (i := 25) rfl))) (mvT hZ (hw _ (List.mem_of_getElem? (i := 26) rfl))) (notFace_of_selects (args := #[]) (mvT hZ (hw _ (List.mem_of_getElem? (i := 28) rfl)))) (mvT hZ (hw _ (List.mem_of_getElem? (i := 28) rfl))) (mvT hZ (hw _ (List.mem_of_getElem? (i := 27) rfl))) (by decide) (backOf (W := 0) (rm90005 l Z a0 hw [] b77 x10 (own_ins (own_ins (own_ins [] x7) x8) x9) T85.heap n0 z88 A85 (Nat.le_trans hn85 (by decide)) (side_0_pos185 p1 p2 p3 p4 p5 q6 x7 hx7 x8 hx8 x9 hx9 x10 hx10 x11 hx11 x12 hx12 x13 hx13 x14 hx14 v13 hv13 hk14)) hZ (hw _ (List.mem_of_getElem? (i := 29) rfl)) (hw _ (List.mem_of_getElem? (i := 3) rfl)) (by decide) (by decide)) iq87a iq87c (g := (mkF m 185 #[.val (.int p1), .val (.int p2), .val (.int p3), .val (.int p4), .val (.int p5), .val (.long q6), .second, .val (.int x7), .val (.int x8), .val (.int x9), .val (.int x10), .val (.int x11), .val (.int (4 : Int32)), .val (.int x13), .val (.int v13), .val (.ref b77), .unset] [(.int x10), (.ref b77)])) rfl (by rw [hml]; rfl) (Steps.refl _) (argsL := [(.int x10)]) (rest := []) (lenOf pd_0_1 rfl) rfl (by show 2 * 0 + _ ≤ _; exact Nat.le_of_eq rfl) (hb hby at_185) (fun _ _ => ⟨rfl, rfl, (by decide : 9 + 2 ≤ _), (by decide : 87 + 24 ≤ _)⟩)
    dsimp only [Pt.U, Pt.locs, Pt.cells, Pt.slots] at X87 l87 y87 z87 st87 hQ87
    subst l87 y87 z87
    obtain ⟨⟨r87, rfl⟩, N87q, hs87, A87⟩ := hQ87
    have hn87 := own_inslen (x := x10) hn85
    have Ee87 := own_ASexa A87
    have N87 := Fr.app N85 N87q
    have pre89 : ∀ t, Steps p.tables e below (T87.setTop (mkF m 212 #[.val (.int p1), .val (.int p2), .val (.int p3), .val (.int p4), .val (.int p5), .val (.long q6), .second, .val (.int x7), .val (.int x8), .val (.int x9), .val (.int x10), .val (.int x11), .val (.int (4 : Int32)), .val (.int x13), .val (.int v13), .val (.ref b77), .unset] [(.int x7), (.int v13)])) t → Steps p.tables e below (s₁.setTop (entryFrame m #[(.int p1), (.int p2), (.int p3), (.int p4), (.int p5), (.long q6)] maxLocals)) t := fun t kt => by
      refine pre12 t ?_
      show Steps p.tables e below (s₁.setTop (mkF m 125 #[.val (.int p1), .val (.int p2), .val (.int p3), .val (.int p4), .val (.int p5), .val (.long q6), .second, .val (.int x7), .val (.int x8), .val (.int x9), .val (.int x10), .val (.int x11), .val (.int (4 : Int32)), .val (.int x13), .val (.int v13), .unset, .unset] [])) _
      refine st77 _ ?_
      show Steps p.tables e below (T77.setTop (mkF m 128 #[.val (.int p1), .val (.int p2), .val (.int p3), .val (.int p4), .val (.int p5), .val (.long q6), .second, .val (.int x7), .val (.int x8), .val (.int x9), .val (.int x10), .val (.int x11), .val (.int (4 : Int32)), .val (.int x13), .val (.int v13), .unset, .unset] [(.ref b77)])) _
      refine XS.dup X77.here hx rfl (hb hby at_128) rfl rfl ?_
      show Steps p.tables e below (T77.setTop (mkF m 129 #[.val (.int p1), .val (.int p2), .val (.int p3), .val (.int p4), .val (.int p5), .val (.long q6), .second, .val (.int x7), .val (.int x8), .val (.int x9), .val (.int x10), .val (.int x11), .val (.int (4 : Int32)), .val (.int x13), .val (.int v13), .unset, .unset] [(.ref b77), (.ref b77)])) _
      refine st78.trans ?_
      show Steps p.tables e below (T78.setTop (mkF m 132 #[.val (.int p1), .val (.int p2), .val (.int p3), .val (.int p4), .val (.int p5), .val (.long q6), .second, .val (.int x7), .val (.int x8), .val (.int x9), .val (.int x10), .val (.int x11), .val (.int (4 : Int32)), .val (.int x13), .val (.int v13), .unset, .unset] [(.ref b77)])) _
      refine XS.astore X78.here hx rfl (hb hby at_132) rfl rfl (l' := #[.val (.int p1), .val (.int p2), .val (.int p3), .val (.int p4), .val (.int p5), .val (.long q6), .second, .val (.int x7), .val (.int x8), .val (.int x9), .val (.int x10), .val (.int x11), .val (.int (4 : Int32)), .val (.int x13), .val (.int v13), .val (.ref b77), .unset]) rfl ?_
      show Steps p.tables e below (T78.setTop (mkF m 134 #[.val (.int p1), .val (.int p2), .val (.int p3), .val (.int p4), .val (.int p5), .val (.long q6), .second, .val (.int x7), .val (.int x8), .val (.int x9), .val (.int x10), .val (.int x11), .val (.int (4 : Int32)), .val (.int x13), .val (.int v13), .val (.ref b77), .unset] [])) _
      refine XS.iload X78.here hx rfl (hb hby at_134) rfl ?_
      show Steps p.tables e below (T78.setTop (mkF m 136 #[.val (.int p1), .val (.int p2), .val (.int p3), .val (.int p4), .val (.int p5), .val (.long q6), .second, .val (.int x7), .val (.int x8), .val (.int x9), .val (.int x10), .val (.int x11), .val (.int (4 : Int32)), .val (.int x13), .val (.int v13), .val (.ref b77), .unset] [(.int (4 : Int32))])) _
      refine XS.ifNo X78.here hx rfl (hb hby at_136) rfl ((if0 _ _).trans (tlt (by decide : (0 : Int32) < (4 : Int32))).2.2.2) ?_
      show Steps p.tables e below (T78.setTop (mkF m 139 #[.val (.int p1), .val (.int p2), .val (.int p3), .val (.int p4), .val (.int p5), .val (.long q6), .second, .val (.int x7), .val (.int x8), .val (.int x9), .val (.int x10), .val (.int x11), .val (.int (4 : Int32)), .val (.int x13), .val (.int v13), .val (.ref b77), .unset] [])) _
      refine XS.aload X78.here hx rfl (hb hby at_139) rfl rfl ?_
      show Steps p.tables e below (T78.setTop (mkF m 141 #[.val (.int p1), .val (.int p2), .val (.int p3), .val (.int p4), .val (.int p5), .val (.long q6), .second, .val (.int x7), .val (.int x8), .val (.int x9), .val (.int x10), .val (.int x11), .val (.int (4 : Int32)), .val (.int x13), .val (.int v13), .val (.ref b77), .unset] [(.ref b77)])) _
      refine XS.iload X78.here hx rfl (hb hby at_141) rfl ?_
      show Steps p.tables e below (T78.setTop (mkF m 143 #[.val (.int p1), .val (.int p2), .val (.int p3), .val (.int p4), .val (.int p5), .val (.long q6), .second, .val (.int x7), .val (.int x8), .val (.int x9), .val (.int x10), .val (.int x11), .val (.int (4 : Int32)), .val (.int x13), .val (.int v13), .val (.ref b77), .unset] [(.int x7), (.ref b77)])) _
      refine st81.trans ?_
      show Steps p.tables e below (T81.setTop (mkF m 146 #[.val (.int p1), .val (.int p2), .val (.int p3), .val (.int p4), .val (.int p5), .val (.long q6), .second, .val (.int x7), .val (.int x8), .val (.int x9), .val (.int x10), .val (.int x11), .val (.int (4 : Int32)), .val (.int x13), .val (.int v13), .val (.ref b77), .unset] [(.int r81)])) _
      refine XS.pop X81.here hx rfl (hb hby at_146) rfl rfl ?_
      show Steps p.tables e below (T81.setTop (mkF m 147 #[.val (.int p1), .val (.int p2), .val (.int p3), .val (.int p4), .val (.int p5), .val (.long q6), .second, .val (.int x7), .val (.int x8), .val (.int x9), .val (.int x10), .val (.int x11), .val (.int (4 : Int32)), .val (.int x13), .val (.int v13), .val (.ref b77), .unset] [])) _
      refine XS.iload X81.here hx rfl (hb hby at_147) rfl ?_
      show Steps p.tables e below (T81.setTop (mkF m 149 #[.val (.int p1), .val (.int p2), .val (.int p3), .val (.int p4), .val (.int p5), .val (.long q6), .second, .val (.int x7), .val (.int x8), .val (.int x9), .val (.int x10), .val (.int x11), .val (.int (4 : Int32)), .val (.int x13), .val (.int v13), .val (.ref b77), .unset] [(.int (4 : Int32))])) _
      refine XS.iconst X81.here hx rfl (hb hby at_149) ?_
      show Steps p.tables e below (T81.setTop (mkF m 150 #[.val (.int p1), .val (.int p2), .val (.int p3), .val (.int p4), .val (.int p5), .val (.long q6), .second, .val (.int x7), .val (.int x8), .val (.int x9), .val (.int x10), .val (.int x11), .val (.int (4 : Int32)), .val (.int x13), .val (.int v13), .val (.ref b77), .unset] [(.int (1 : Int32)), (.int (4 : Int32))])) _
      refine XS.icmpNo X81.here hx rfl (hb hby at_150) rfl (tlt (by decide : (1 : Int32) < (4 : Int32))).2.2.2 ?_
      show Steps p.tables e below (T81.setTop (mkF m 153 #[.val (.int p1), .val (.int p2), .val (.int p3), .val (.int p4), .val (.int p5), .val (.long q6), .second, .val (.int x7), .val (.int x8), .val (.int x9), .val (.int x10), .val (.int x11), .val (.int (4 : Int32)), .val (.int x13), .val (.int v13), .val (.ref b77), .unset] [])) _
      refine XS.aload X81.here hx rfl (hb hby at_153) rfl rfl ?_
      show Steps p.tables e below (T81.setTop (mkF m 155 #[.val (.int p1), .val (.int p2), .val (.int p3), .val (.int p4), .val (.int p5), .val (.long q6), .second, .val (.int x7), .val (.int x8), .val (.int x9), .val (.int x10), .val (.int x11), .val (.int (4 : Int32)), .val (.int x13), .val (.int v13), .val (.ref b77), .unset] [(.ref b77)])) _
      refine XS.iload X81.here hx rfl (hb hby at_155) rfl ?_
      show Steps p.tables e below (T81.setTop (mkF m 157 #[.val (.int p1), .val (.int p2), .val (.int p3), .val (.int p4), .val (.int p5), .val (.long q6), .second, .val (.int x7), .val (.int x8), .val (.int x9), .val (.int x10), .val (.int x11), .val (.int (4 : Int32)), .val (.int x13), .val (.int v13), .val (.ref b77), .unset] [(.int x8), (.ref b77)])) _
      refine st83.trans ?_
      show Steps p.tables e below (T83.setTop (mkF m 160 #[.val (.int p1), .val (.int p2), .val (.int p3), .val (.int p4), .val (.int p5), .val (.long q6), .second, .val (.int x7), .val (.int x8), .val (.int x9), .val (.int x10), .val (.int x11), .val (.int (4 : Int32)), .val (.int x13), .val (.int v13), .val (.ref b77), .unset] [(.int r83)])) _
      refine XS.pop X83.here hx rfl (hb hby at_160) rfl rfl ?_
      show Steps p.tables e below (T83.setTop (mkF m 161 #[.val (.int p1), .val (.int p2), .val (.int p3), .val (.int p4), .val (.int p5), .val (.long q6), .second, .val (.int x7), .val (.int x8), .val (.int x9), .val (.int x10), .val (.int x11), .val (.int (4 : Int32)), .val (.int x13), .val (.int v13), .val (.ref b77), .unset] [])) _
      refine XS.iload X83.here hx rfl (hb hby at_161) rfl ?_
      show Steps p.tables e below (T83.setTop (mkF m 163 #[.val (.int p1), .val (.int p2), .val (.int p3), .val (.int p4), .val (.int p5), .val (.long q6), .second, .val (.int x7), .val (.int x8), .val (.int x9), .val (.int x10), .val (.int x11), .val (.int (4 : Int32)), .val (.int x13), .val (.int v13), .val (.ref b77), .unset] [(.int (4 : Int32))])) _
      refine XS.iconst X83.here hx rfl (hb hby at_163) ?_
      show Steps p.tables e below (T83.setTop (mkF m 164 #[.val (.int p1), .val (.int p2), .val (.int p3), .val (.int p4), .val (.int p5), .val (.long q6), .second, .val (.int x7), .val (.int x8), .val (.int x9), .val (.int x10), .val (.int x11), .val (.int (4 : Int32)), .val (.int x13), .val (.int v13), .val (.ref b77), .unset] [(.int (2 : Int32)), (.int (4 : Int32))])) _
      refine XS.icmpNo X83.here hx rfl (hb hby at_164) rfl (tlt (by decide : (2 : Int32) < (4 : Int32))).2.2.2 ?_
      show Steps p.tables e below (T83.setTop (mkF m 167 #[.val (.int p1), .val (.int p2), .val (.int p3), .val (.int p4), .val (.int p5), .val (.long q6), .second, .val (.int x7), .val (.int x8), .val (.int x9), .val (.int x10), .val (.int x11), .val (.int (4 : Int32)), .val (.int x13), .val (.int v13), .val (.ref b77), .unset] [])) _
      refine XS.aload X83.here hx rfl (hb hby at_167) rfl rfl ?_
      show Steps p.tables e below (T83.setTop (mkF m 169 #[.val (.int p1), .val (.int p2), .val (.int p3), .val (.int p4), .val (.int p5), .val (.long q6), .second, .val (.int x7), .val (.int x8), .val (.int x9), .val (.int x10), .val (.int x11), .val (.int (4 : Int32)), .val (.int x13), .val (.int v13), .val (.ref b77), .unset] [(.ref b77)])) _
      refine XS.iload X83.here hx rfl (hb hby at_169) rfl ?_
      show Steps p.tables e below (T83.setTop (mkF m 171 #[.val (.int p1), .val (.int p2), .val (.int p3), .val (.int p4), .val (.int p5), .val (.long q6), .second, .val (.int x7), .val (.int x8), .val (.int x9), .val (.int x10), .val (.int x11), .val (.int (4 : Int32)), .val (.int x13), .val (.int v13), .val (.ref b77), .unset] [(.int x9), (.ref b77)])) _
      refine st85.trans ?_
      show Steps p.tables e below (T85.setTop (mkF m 174 #[.val (.int p1), .val (.int p2), .val (.int p3), .val (.int p4), .val (.int p5), .val (.long q6), .second, .val (.int x7), .val (.int x8), .val (.int x9), .val (.int x10), .val (.int x11), .val (.int (4 : Int32)), .val (.int x13), .val (.int v13), .val (.ref b77), .unset] [(.int r85)])) _
      refine XS.pop X85.here hx rfl (hb hby at_174) rfl rfl ?_
      show Steps p.tables e below (T85.setTop (mkF m 175 #[.val (.int p1), .val (.int p2), .val (.int p3), .val (.int p4), .val (.int p5), .val (.long q6), .second, .val (.int x7), .val (.int x8), .val (.int x9), .val (.int x10), .val (.int x11), .val (.int (4 : Int32)), .val (.int x13), .val (.int v13), .val (.ref b77), .unset] [])) _
      refine XS.iload X85.here hx rfl (hb hby at_175) rfl ?_
      show Steps p.tables e below (T85.setTop (mkF m 177 #[.val (.int p1), .val (.int p2), .val (.int p3), .val (.int p4), .val (.int p5), .val (.long q6), .second, .val (.int x7), .val (.int x8), .val (.int x9), .val (.int x10), .val (.int x11), .val (.int (4 : Int32)), .val (.int x13), .val (.int v13), .val (.ref b77), .unset] [(.int (4 : Int32))])) _
      refine XS.iconst X85.here hx rfl (hb hby at_177) ?_
      show Steps p.tables e below (T85.setTop (mkF m 178 #[.val (.int p1), .val (.int p2), .val (.int p3), .val (.int p4), .val (.int p5), .val (.long q6), .second, .val (.int x7), .val (.int x8), .val (.int x9), .val (.int x10), .val (.int x11), .val (.int (4 : Int32)), .val (.int x13), .val (.int v13), .val (.ref b77), .unset] [(.int (3 : Int32)), (.int (4 : Int32))])) _
      refine XS.icmpNo X85.here hx rfl (hb hby at_178) rfl (tlt (by decide : (3 : Int32) < (4 : Int32))).2.2.2 ?_
      show Steps p.tables e below (T85.setTop (mkF m 181 #[.val (.int p1), .val (.int p2), .val (.int p3), .val (.int p4), .val (.int p5), .val (.long q6), .second, .val (.int x7), .val (.int x8), .val (.int x9), .val (.int x10), .val (.int x11), .val (.int (4 : Int32)), .val (.int x13), .val (.int v13), .val (.ref b77), .unset] [])) _
      refine XS.aload X85.here hx rfl (hb hby at_181) rfl rfl ?_
      show Steps p.tables e below (T85.setTop (mkF m 183 #[.val (.int p1), .val (.int p2), .val (.int p3), .val (.int p4), .val (.int p5), .val (.long q6), .second, .val (.int x7), .val (.int x8), .val (.int x9), .val (.int x10), .val (.int x11), .val (.int (4 : Int32)), .val (.int x13), .val (.int v13), .val (.ref b77), .unset] [(.ref b77)])) _
      refine XS.iload X85.here hx rfl (hb hby at_183) rfl ?_
      show Steps p.tables e below (T85.setTop (mkF m 185 #[.val (.int p1), .val (.int p2), .val (.int p3), .val (.int p4), .val (.int p5), .val (.long q6), .second, .val (.int x7), .val (.int x8), .val (.int x9), .val (.int x10), .val (.int x11), .val (.int (4 : Int32)), .val (.int x13), .val (.int v13), .val (.ref b77), .unset] [(.int x10), (.ref b77)])) _
      refine st87.trans ?_
      show Steps p.tables e below (T87.setTop (mkF m 188 #[.val (.int p1), .val (.int p2), .val (.int p3), .val (.int p4), .val (.int p5), .val (.long q6), .second, .val (.int x7), .val (.int x8), .val (.int x9), .val (.int x10), .val (.int x11), .val (.int (4 : Int32)), .val (.int x13), .val (.int v13), .val (.ref b77), .unset] [(.int r87)])) _
      refine XS.pop X87.here hx rfl (hb hby at_188) rfl rfl ?_
      show Steps p.tables e below (T87.setTop (mkF m 189 #[.val (.int p1), .val (.int p2), .val (.int p3), .val (.int p4), .val (.int p5), .val (.long q6), .second, .val (.int x7), .val (.int x8), .val (.int x9), .val (.int x10), .val (.int x11), .val (.int (4 : Int32)), .val (.int x13), .val (.int v13), .val (.ref b77), .unset] [])) _
      refine XS.iload X87.here hx rfl (hb hby at_189) rfl ?_
      show Steps p.tables e below (T87.setTop (mkF m 191 #[.val (.int p1), .val (.int p2), .val (.int p3), .val (.int p4), .val (.int p5), .val (.long q6), .second, .val (.int x7), .val (.int x8), .val (.int x9), .val (.int x10), .val (.int x11), .val (.int (4 : Int32)), .val (.int x13), .val (.int v13), .val (.ref b77), .unset] [(.int (4 : Int32))])) _
      refine XS.iconst X87.here hx rfl (hb hby at_191) ?_
      show Steps p.tables e below (T87.setTop (mkF m 192 #[.val (.int p1), .val (.int p2), .val (.int p3), .val (.int p4), .val (.int p5), .val (.long q6), .second, .val (.int x7), .val (.int x8), .val (.int x9), .val (.int x10), .val (.int x11), .val (.int (4 : Int32)), .val (.int x13), .val (.int v13), .val (.ref b77), .unset] [(.int (4 : Int32)), (.int (4 : Int32))])) _
      refine XS.icmpYes X87.here hx rfl (pc0 := 192) (pc' := 203) rfl (hb hby at_192) rfl (flt (by decide : ¬ ((4 : Int32) < (4 : Int32)))).2.2.2 (by decide) (by decide) ?_
      show Steps p.tables e below (T87.setTop (mkF m 203 #[.val (.int p1), .val (.int p2), .val (.int p3), .val (.int p4), .val (.int p5), .val (.long q6), .second, .val (.int x7), .val (.int x8), .val (.int x9), .val (.int x10), .val (.int x11), .val (.int (4 : Int32)), .val (.int x13), .val (.int v13), .val (.ref b77), .unset] [])) _
      refine XS.iload X87.here hx rfl (hb hby at_203) rfl ?_
      show Steps p.tables e below (T87.setTop (mkF m 205 #[.val (.int p1), .val (.int p2), .val (.int p3), .val (.int p4), .val (.int p5), .val (.long q6), .second, .val (.int x7), .val (.int x8), .val (.int x9), .val (.int x10), .val (.int x11), .val (.int (4 : Int32)), .val (.int x13), .val (.int v13), .val (.ref b77), .unset] [(.int (4 : Int32))])) _
      refine XS.ifNo X87.here hx rfl (hb hby at_205) rfl ((if0 _ _).trans (tlt (by decide : (0 : Int32) < (4 : Int32))).2.2.2) ?_
      show Steps p.tables e below (T87.setTop (mkF m 208 #[.val (.int p1), .val (.int p2), .val (.int p3), .val (.int p4), .val (.int p5), .val (.long q6), .second, .val (.int x7), .val (.int x8), .val (.int x9), .val (.int x10), .val (.int x11), .val (.int (4 : Int32)), .val (.int x13), .val (.int v13), .val (.ref b77), .unset] [])) _
      refine XS.iload X87.here hx rfl (hb hby at_208) rfl ?_
      show Steps p.tables e below (T87.setTop (mkF m 210 #[.val (.int p1), .val (.int p2), .val (.int p3), .val (.int p4), .val (.int p5), .val (.long q6), .second, .val (.int x7), .val (.int x8), .val (.int x9), .val (.int x10), .val (.int x11), .val (.int (4 : Int32)), .val (.int x13), .val (.int v13), .val (.ref b77), .unset] [(.int v13)])) _
      refine XS.iload X87.here hx rfl (hb hby at_210) rfl ?_
      exact kt
    have pre97 : ∀ t, Steps p.tables e below (T87.setTop (mkF m 272 #[.val (.int p1), .val (.int p2), .val (.int p3), .val (.int p4), .val (.int p5), .val (.long q6), .second, .val (.int x7), .val (.int x8), .val (.int x9), .val (.int x10), .val (.int x11), .val (.int (4 : Int32)), .val (.int x13), .val (.int v13), .val (.ref b77), .unset] [(.int (if v13 = x7 then (1 : Int32) else (if v13 = x8 then (1 : Int32) else (if v13 = x9 then (1 : Int32) else (if v13 = x10 then (1 : Int32) else (0 : Int32))))))])) t → Steps p.tables e below (s₁.setTop (entryFrame m #[(.int p1), (.int p2), (.int p3), (.int p4), (.int p5), (.long q6)] maxLocals)) t := by
      by_cases hc90 : v13 = x7
      · refine fun t kt => pre89 t ?_
        repeat rw [if_pos hc90] at kt
        show Steps p.tables e below (T87.setTop (mkF m 212 #[.val (.int p1), .val (.int p2), .val (.int p3), .val (.int p4), .val (.int p5), .val (.long q6), .second, .val (.int x7), .val (.int x8), .val (.int x9), .val (.int x10), .val (.int x11), .val (.int (4 : Int32)), .val (.int x13), .val (.int v13), .val (.ref b77), .unset] [(.int x7), (.int v13)])) _
        refine XS.icmpYes X87.here hx rfl (pc0 := 212) (pc' := 267) rfl (hb hby at_212) rfl (teq hc90).1 (by decide) (by decide) ?_
        show Steps p.tables e below (T87.setTop (mkF m 267 #[.val (.int p1), .val (.int p2), .val (.int p3), .val (.int p4), .val (.int p5), .val (.long q6), .second, .val (.int x7), .val (.int x8), .val (.int x9), .val (.int x10), .val (.int x11), .val (.int (4 : Int32)), .val (.int x13), .val (.int v13), .val (.ref b77), .unset] [])) _
        refine XS.iconst X87.here hx rfl (hb hby at_267) ?_
        show Steps p.tables e below (T87.setTop (mkF m 268 #[.val (.int p1), .val (.int p2), .val (.int p3), .val (.int p4), .val (.int p5), .val (.long q6), .second, .val (.int x7), .val (.int x8), .val (.int x9), .val (.int x10), .val (.int x11), .val (.int (4 : Int32)), .val (.int x13), .val (.int v13), .val (.ref b77), .unset] [(.int (1 : Int32))])) _
        refine XS.goto X87.here hx rfl (pc0 := 268) (pc' := 272) rfl (hb hby at_268) (by decide) (by decide) ?_
        exact kt
      · have pre91 : ∀ t, Steps p.tables e below (T87.setTop (mkF m 225 #[.val (.int p1), .val (.int p2), .val (.int p3), .val (.int p4), .val (.int p5), .val (.long q6), .second, .val (.int x7), .val (.int x8), .val (.int x9), .val (.int x10), .val (.int x11), .val (.int (4 : Int32)), .val (.int x13), .val (.int v13), .val (.ref b77), .unset] [(.int x8), (.int v13)])) t → Steps p.tables e below (s₁.setTop (entryFrame m #[(.int p1), (.int p2), (.int p3), (.int p4), (.int p5), (.long q6)] maxLocals)) t := fun t kt => by
          refine pre89 t ?_
          show Steps p.tables e below (T87.setTop (mkF m 212 #[.val (.int p1), .val (.int p2), .val (.int p3), .val (.int p4), .val (.int p5), .val (.long q6), .second, .val (.int x7), .val (.int x8), .val (.int x9), .val (.int x10), .val (.int x11), .val (.int (4 : Int32)), .val (.int x13), .val (.int v13), .val (.ref b77), .unset] [(.int x7), (.int v13)])) _
          refine XS.icmpNo X87.here hx rfl (hb hby at_212) rfl (feq hc90).1 ?_
          show Steps p.tables e below (T87.setTop (mkF m 215 #[.val (.int p1), .val (.int p2), .val (.int p3), .val (.int p4), .val (.int p5), .val (.long q6), .second, .val (.int x7), .val (.int x8), .val (.int x9), .val (.int x10), .val (.int x11), .val (.int (4 : Int32)), .val (.int x13), .val (.int v13), .val (.ref b77), .unset] [])) _
          refine XS.iload X87.here hx rfl (hb hby at_215) rfl ?_
          show Steps p.tables e below (T87.setTop (mkF m 217 #[.val (.int p1), .val (.int p2), .val (.int p3), .val (.int p4), .val (.int p5), .val (.long q6), .second, .val (.int x7), .val (.int x8), .val (.int x9), .val (.int x10), .val (.int x11), .val (.int (4 : Int32)), .val (.int x13), .val (.int v13), .val (.ref b77), .unset] [(.int (4 : Int32))])) _
          refine XS.iconst X87.here hx rfl (hb hby at_217) ?_
          show Steps p.tables e below (T87.setTop (mkF m 218 #[.val (.int p1), .val (.int p2), .val (.int p3), .val (.int p4), .val (.int p5), .val (.long q6), .second, .val (.int x7), .val (.int x8), .val (.int x9), .val (.int x10), .val (.int x11), .val (.int (4 : Int32)), .val (.int x13), .val (.int v13), .val (.ref b77), .unset] [(.int (1 : Int32)), (.int (4 : Int32))])) _
          refine XS.icmpNo X87.here hx rfl (hb hby at_218) rfl (tlt (by decide : (1 : Int32) < (4 : Int32))).2.2.2 ?_
          show Steps p.tables e below (T87.setTop (mkF m 221 #[.val (.int p1), .val (.int p2), .val (.int p3), .val (.int p4), .val (.int p5), .val (.long q6), .second, .val (.int x7), .val (.int x8), .val (.int x9), .val (.int x10), .val (.int x11), .val (.int (4 : Int32)), .val (.int x13), .val (.int v13), .val (.ref b77), .unset] [])) _
          refine XS.iload X87.here hx rfl (hb hby at_221) rfl ?_
          show Steps p.tables e below (T87.setTop (mkF m 223 #[.val (.int p1), .val (.int p2), .val (.int p3), .val (.int p4), .val (.int p5), .val (.long q6), .second, .val (.int x7), .val (.int x8), .val (.int x9), .val (.int x10), .val (.int x11), .val (.int (4 : Int32)), .val (.int x13), .val (.int v13), .val (.ref b77), .unset] [(.int v13)])) _
          refine XS.iload X87.here hx rfl (hb hby at_223) rfl ?_
          exact kt
        by_cases hc92 : v13 = x8
        · refine fun t kt => pre91 t ?_
          repeat rw [if_neg hc90] at kt
          repeat rw [if_pos hc92] at kt
          show Steps p.tables e below (T87.setTop (mkF m 225 #[.val (.int p1), .val (.int p2), .val (.int p3), .val (.int p4), .val (.int p5), .val (.long q6), .second, .val (.int x7), .val (.int x8), .val (.int x9), .val (.int x10), .val (.int x11), .val (.int (4 : Int32)), .val (.int x13), .val (.int v13), .val (.ref b77), .unset] [(.int x8), (.int v13)])) _
          refine XS.icmpYes X87.here hx rfl (pc0 := 225) (pc' := 267) rfl (hb hby at_225) rfl (teq hc92).1 (by decide) (by decide) ?_
          show Steps p.tables e below (T87.setTop (mkF m 267 #[.val (.int p1), .val (.int p2), .val (.int p3), .val (.int p4), .val (.int p5), .val (.long q6), .second, .val (.int x7), .val (.int x8), .val (.int x9), .val (.int x10), .val (.int x11), .val (.int (4 : Int32)), .val (.int x13), .val (.int v13), .val (.ref b77), .unset] [])) _
          refine XS.iconst X87.here hx rfl (hb hby at_267) ?_
          show Steps p.tables e below (T87.setTop (mkF m 268 #[.val (.int p1), .val (.int p2), .val (.int p3), .val (.int p4), .val (.int p5), .val (.long q6), .second, .val (.int x7), .val (.int x8), .val (.int x9), .val (.int x10), .val (.int x11), .val (.int (4 : Int32)), .val (.int x13), .val (.int v13), .val (.ref b77), .unset] [(.int (1 : Int32))])) _
          refine XS.goto X87.here hx rfl (pc0 := 268) (pc' := 272) rfl (hb hby at_268) (by decide) (by decide) ?_
          exact kt
        · have pre93 : ∀ t, Steps p.tables e below (T87.setTop (mkF m 238 #[.val (.int p1), .val (.int p2), .val (.int p3), .val (.int p4), .val (.int p5), .val (.long q6), .second, .val (.int x7), .val (.int x8), .val (.int x9), .val (.int x10), .val (.int x11), .val (.int (4 : Int32)), .val (.int x13), .val (.int v13), .val (.ref b77), .unset] [(.int x9), (.int v13)])) t → Steps p.tables e below (s₁.setTop (entryFrame m #[(.int p1), (.int p2), (.int p3), (.int p4), (.int p5), (.long q6)] maxLocals)) t := fun t kt => by
            refine pre91 t ?_
            show Steps p.tables e below (T87.setTop (mkF m 225 #[.val (.int p1), .val (.int p2), .val (.int p3), .val (.int p4), .val (.int p5), .val (.long q6), .second, .val (.int x7), .val (.int x8), .val (.int x9), .val (.int x10), .val (.int x11), .val (.int (4 : Int32)), .val (.int x13), .val (.int v13), .val (.ref b77), .unset] [(.int x8), (.int v13)])) _
            refine XS.icmpNo X87.here hx rfl (hb hby at_225) rfl (feq hc92).1 ?_
            show Steps p.tables e below (T87.setTop (mkF m 228 #[.val (.int p1), .val (.int p2), .val (.int p3), .val (.int p4), .val (.int p5), .val (.long q6), .second, .val (.int x7), .val (.int x8), .val (.int x9), .val (.int x10), .val (.int x11), .val (.int (4 : Int32)), .val (.int x13), .val (.int v13), .val (.ref b77), .unset] [])) _
            refine XS.iload X87.here hx rfl (hb hby at_228) rfl ?_
            show Steps p.tables e below (T87.setTop (mkF m 230 #[.val (.int p1), .val (.int p2), .val (.int p3), .val (.int p4), .val (.int p5), .val (.long q6), .second, .val (.int x7), .val (.int x8), .val (.int x9), .val (.int x10), .val (.int x11), .val (.int (4 : Int32)), .val (.int x13), .val (.int v13), .val (.ref b77), .unset] [(.int (4 : Int32))])) _
            refine XS.iconst X87.here hx rfl (hb hby at_230) ?_
            show Steps p.tables e below (T87.setTop (mkF m 231 #[.val (.int p1), .val (.int p2), .val (.int p3), .val (.int p4), .val (.int p5), .val (.long q6), .second, .val (.int x7), .val (.int x8), .val (.int x9), .val (.int x10), .val (.int x11), .val (.int (4 : Int32)), .val (.int x13), .val (.int v13), .val (.ref b77), .unset] [(.int (2 : Int32)), (.int (4 : Int32))])) _
            refine XS.icmpNo X87.here hx rfl (hb hby at_231) rfl (tlt (by decide : (2 : Int32) < (4 : Int32))).2.2.2 ?_
            show Steps p.tables e below (T87.setTop (mkF m 234 #[.val (.int p1), .val (.int p2), .val (.int p3), .val (.int p4), .val (.int p5), .val (.long q6), .second, .val (.int x7), .val (.int x8), .val (.int x9), .val (.int x10), .val (.int x11), .val (.int (4 : Int32)), .val (.int x13), .val (.int v13), .val (.ref b77), .unset] [])) _
            refine XS.iload X87.here hx rfl (hb hby at_234) rfl ?_
            show Steps p.tables e below (T87.setTop (mkF m 236 #[.val (.int p1), .val (.int p2), .val (.int p3), .val (.int p4), .val (.int p5), .val (.long q6), .second, .val (.int x7), .val (.int x8), .val (.int x9), .val (.int x10), .val (.int x11), .val (.int (4 : Int32)), .val (.int x13), .val (.int v13), .val (.ref b77), .unset] [(.int v13)])) _
            refine XS.iload X87.here hx rfl (hb hby at_236) rfl ?_
            exact kt
          by_cases hc94 : v13 = x9
          · refine fun t kt => pre93 t ?_
            repeat rw [if_neg hc90] at kt
            repeat rw [if_neg hc92] at kt
            repeat rw [if_pos hc94] at kt
            show Steps p.tables e below (T87.setTop (mkF m 238 #[.val (.int p1), .val (.int p2), .val (.int p3), .val (.int p4), .val (.int p5), .val (.long q6), .second, .val (.int x7), .val (.int x8), .val (.int x9), .val (.int x10), .val (.int x11), .val (.int (4 : Int32)), .val (.int x13), .val (.int v13), .val (.ref b77), .unset] [(.int x9), (.int v13)])) _
            refine XS.icmpYes X87.here hx rfl (pc0 := 238) (pc' := 267) rfl (hb hby at_238) rfl (teq hc94).1 (by decide) (by decide) ?_
            show Steps p.tables e below (T87.setTop (mkF m 267 #[.val (.int p1), .val (.int p2), .val (.int p3), .val (.int p4), .val (.int p5), .val (.long q6), .second, .val (.int x7), .val (.int x8), .val (.int x9), .val (.int x10), .val (.int x11), .val (.int (4 : Int32)), .val (.int x13), .val (.int v13), .val (.ref b77), .unset] [])) _
            refine XS.iconst X87.here hx rfl (hb hby at_267) ?_
            show Steps p.tables e below (T87.setTop (mkF m 268 #[.val (.int p1), .val (.int p2), .val (.int p3), .val (.int p4), .val (.int p5), .val (.long q6), .second, .val (.int x7), .val (.int x8), .val (.int x9), .val (.int x10), .val (.int x11), .val (.int (4 : Int32)), .val (.int x13), .val (.int v13), .val (.ref b77), .unset] [(.int (1 : Int32))])) _
            refine XS.goto X87.here hx rfl (pc0 := 268) (pc' := 272) rfl (hb hby at_268) (by decide) (by decide) ?_
            exact kt
          · have pre95 : ∀ t, Steps p.tables e below (T87.setTop (mkF m 251 #[.val (.int p1), .val (.int p2), .val (.int p3), .val (.int p4), .val (.int p5), .val (.long q6), .second, .val (.int x7), .val (.int x8), .val (.int x9), .val (.int x10), .val (.int x11), .val (.int (4 : Int32)), .val (.int x13), .val (.int v13), .val (.ref b77), .unset] [(.int x10), (.int v13)])) t → Steps p.tables e below (s₁.setTop (entryFrame m #[(.int p1), (.int p2), (.int p3), (.int p4), (.int p5), (.long q6)] maxLocals)) t := fun t kt => by
              refine pre93 t ?_
              show Steps p.tables e below (T87.setTop (mkF m 238 #[.val (.int p1), .val (.int p2), .val (.int p3), .val (.int p4), .val (.int p5), .val (.long q6), .second, .val (.int x7), .val (.int x8), .val (.int x9), .val (.int x10), .val (.int x11), .val (.int (4 : Int32)), .val (.int x13), .val (.int v13), .val (.ref b77), .unset] [(.int x9), (.int v13)])) _
              refine XS.icmpNo X87.here hx rfl (hb hby at_238) rfl (feq hc94).1 ?_
              show Steps p.tables e below (T87.setTop (mkF m 241 #[.val (.int p1), .val (.int p2), .val (.int p3), .val (.int p4), .val (.int p5), .val (.long q6), .second, .val (.int x7), .val (.int x8), .val (.int x9), .val (.int x10), .val (.int x11), .val (.int (4 : Int32)), .val (.int x13), .val (.int v13), .val (.ref b77), .unset] [])) _
              refine XS.iload X87.here hx rfl (hb hby at_241) rfl ?_
              show Steps p.tables e below (T87.setTop (mkF m 243 #[.val (.int p1), .val (.int p2), .val (.int p3), .val (.int p4), .val (.int p5), .val (.long q6), .second, .val (.int x7), .val (.int x8), .val (.int x9), .val (.int x10), .val (.int x11), .val (.int (4 : Int32)), .val (.int x13), .val (.int v13), .val (.ref b77), .unset] [(.int (4 : Int32))])) _
              refine XS.iconst X87.here hx rfl (hb hby at_243) ?_
              show Steps p.tables e below (T87.setTop (mkF m 244 #[.val (.int p1), .val (.int p2), .val (.int p3), .val (.int p4), .val (.int p5), .val (.long q6), .second, .val (.int x7), .val (.int x8), .val (.int x9), .val (.int x10), .val (.int x11), .val (.int (4 : Int32)), .val (.int x13), .val (.int v13), .val (.ref b77), .unset] [(.int (3 : Int32)), (.int (4 : Int32))])) _
              refine XS.icmpNo X87.here hx rfl (hb hby at_244) rfl (tlt (by decide : (3 : Int32) < (4 : Int32))).2.2.2 ?_
              show Steps p.tables e below (T87.setTop (mkF m 247 #[.val (.int p1), .val (.int p2), .val (.int p3), .val (.int p4), .val (.int p5), .val (.long q6), .second, .val (.int x7), .val (.int x8), .val (.int x9), .val (.int x10), .val (.int x11), .val (.int (4 : Int32)), .val (.int x13), .val (.int v13), .val (.ref b77), .unset] [])) _
              refine XS.iload X87.here hx rfl (hb hby at_247) rfl ?_
              show Steps p.tables e below (T87.setTop (mkF m 249 #[.val (.int p1), .val (.int p2), .val (.int p3), .val (.int p4), .val (.int p5), .val (.long q6), .second, .val (.int x7), .val (.int x8), .val (.int x9), .val (.int x10), .val (.int x11), .val (.int (4 : Int32)), .val (.int x13), .val (.int v13), .val (.ref b77), .unset] [(.int v13)])) _
              refine XS.iload X87.here hx rfl (hb hby at_249) rfl ?_
              exact kt
            by_cases hc96 : v13 = x10
            · refine fun t kt => pre95 t ?_
              repeat rw [if_neg hc90] at kt
              repeat rw [if_neg hc92] at kt
              repeat rw [if_neg hc94] at kt
              repeat rw [if_pos hc96] at kt
              show Steps p.tables e below (T87.setTop (mkF m 251 #[.val (.int p1), .val (.int p2), .val (.int p3), .val (.int p4), .val (.int p5), .val (.long q6), .second, .val (.int x7), .val (.int x8), .val (.int x9), .val (.int x10), .val (.int x11), .val (.int (4 : Int32)), .val (.int x13), .val (.int v13), .val (.ref b77), .unset] [(.int x10), (.int v13)])) _
              refine XS.icmpYes X87.here hx rfl (pc0 := 251) (pc' := 267) rfl (hb hby at_251) rfl (teq hc96).1 (by decide) (by decide) ?_
              show Steps p.tables e below (T87.setTop (mkF m 267 #[.val (.int p1), .val (.int p2), .val (.int p3), .val (.int p4), .val (.int p5), .val (.long q6), .second, .val (.int x7), .val (.int x8), .val (.int x9), .val (.int x10), .val (.int x11), .val (.int (4 : Int32)), .val (.int x13), .val (.int v13), .val (.ref b77), .unset] [])) _
              refine XS.iconst X87.here hx rfl (hb hby at_267) ?_
              show Steps p.tables e below (T87.setTop (mkF m 268 #[.val (.int p1), .val (.int p2), .val (.int p3), .val (.int p4), .val (.int p5), .val (.long q6), .second, .val (.int x7), .val (.int x8), .val (.int x9), .val (.int x10), .val (.int x11), .val (.int (4 : Int32)), .val (.int x13), .val (.int v13), .val (.ref b77), .unset] [(.int (1 : Int32))])) _
              refine XS.goto X87.here hx rfl (pc0 := 268) (pc' := 272) rfl (hb hby at_268) (by decide) (by decide) ?_
              exact kt
            · refine fun t kt => pre95 t ?_
              repeat rw [if_neg hc90] at kt
              repeat rw [if_neg hc92] at kt
              repeat rw [if_neg hc94] at kt
              repeat rw [if_neg hc96] at kt
              show Steps p.tables e below (T87.setTop (mkF m 251 #[.val (.int p1), .val (.int p2), .val (.int p3), .val (.int p4), .val (.int p5), .val (.long q6), .second, .val (.int x7), .val (.int x8), .val (.int x9), .val (.int x10), .val (.int x11), .val (.int (4 : Int32)), .val (.int x13), .val (.int v13), .val (.ref b77), .unset] [(.int x10), (.int v13)])) _
              refine XS.icmpNo X87.here hx rfl (hb hby at_251) rfl (feq hc96).1 ?_
              show Steps p.tables e below (T87.setTop (mkF m 254 #[.val (.int p1), .val (.int p2), .val (.int p3), .val (.int p4), .val (.int p5), .val (.long q6), .second, .val (.int x7), .val (.int x8), .val (.int x9), .val (.int x10), .val (.int x11), .val (.int (4 : Int32)), .val (.int x13), .val (.int v13), .val (.ref b77), .unset] [])) _
              refine XS.iload X87.here hx rfl (hb hby at_254) rfl ?_
              show Steps p.tables e below (T87.setTop (mkF m 256 #[.val (.int p1), .val (.int p2), .val (.int p3), .val (.int p4), .val (.int p5), .val (.long q6), .second, .val (.int x7), .val (.int x8), .val (.int x9), .val (.int x10), .val (.int x11), .val (.int (4 : Int32)), .val (.int x13), .val (.int v13), .val (.ref b77), .unset] [(.int (4 : Int32))])) _
              refine XS.iconst X87.here hx rfl (hb hby at_256) ?_
              show Steps p.tables e below (T87.setTop (mkF m 257 #[.val (.int p1), .val (.int p2), .val (.int p3), .val (.int p4), .val (.int p5), .val (.long q6), .second, .val (.int x7), .val (.int x8), .val (.int x9), .val (.int x10), .val (.int x11), .val (.int (4 : Int32)), .val (.int x13), .val (.int v13), .val (.ref b77), .unset] [(.int (4 : Int32)), (.int (4 : Int32))])) _
              refine XS.icmpYes X87.here hx rfl (pc0 := 257) (pc' := 271) rfl (hb hby at_257) rfl (flt (by decide : ¬ ((4 : Int32) < (4 : Int32)))).2.2.2 (by decide) (by decide) ?_
              show Steps p.tables e below (T87.setTop (mkF m 271 #[.val (.int p1), .val (.int p2), .val (.int p3), .val (.int p4), .val (.int p5), .val (.long q6), .second, .val (.int x7), .val (.int x8), .val (.int x9), .val (.int x10), .val (.int x11), .val (.int (4 : Int32)), .val (.int x13), .val (.int v13), .val (.ref b77), .unset] [])) _
              refine XS.iconst X87.here hx rfl (hb hby at_271) ?_
              exact kt
    obtain ⟨v98, hv98⟩ : ∃ z : Int32, z = (if v13 = x7 then (1 : Int32) else (if v13 = x8 then (1 : Int32) else (if v13 = x9 then (1 : Int32) else (if v13 = x10 then (1 : Int32) else (0 : Int32))))) := ⟨_, rfl⟩
    rw [← hv98] at pre97
    have z100 : n0 ≤ T87.heap.size := (Nat.le_trans z88 hs87)
    obtain ⟨cq99, kq99, iq99a, iq99b, iq99c⟩ := isOf hZ rfl Ee87
    obtain ⟨_, _, ⟨T99, L99, k99, n99⟩, -, X99, ⟨Lc99, hQ99, l99, y99, z99⟩, st99⟩ := X87.virtualBack hx (y := (⟨"com/example/krel/krel/saturation/AtomSet", "contains", "(I)Z"⟩ : MethodName)) (z := (⟨"com/example/krel/krel/saturation/AtomSet", "contains", "(I)Z"⟩ : MethodName)) hown (mvT hZ (hw _ (List.mem_of_getElem? (i := 15) rfl))) (mvT hZ (hw _ (List.mem_of_getElem? (i := 16) rfl))) (notFace_of_selects (args := #[]) (mvT hZ (hw _ (List.mem_of_getElem? (i := 18) rfl)))) (mvT hZ (hw _ (List.mem_of_getElem? (i := 18) rfl))) (mvT hZ (hw _ (List.mem_of_getElem? (i := 17) rfl))) (by decide) (backOf (W := 0) (rm90003 l Z a0 hw [] b77 v13 (own_ins (own_ins (own_ins (own_ins [] x7) x8) x9) x10) T87.heap n0 z100 A87 (side_0_pos278_5 p1 p2 p3 p4 p5 q6 x7 hx7 x8 hx8 x9 hx9 x10 hx10 x11 hx11 x12 hx12 x13 hx13 x14 hx14 v13 hv13 hk14 v98 hv98)) hZ (hw _ (List.mem_of_getElem? (i := 19) rfl)) (hw _ (List.mem_of_getElem? (i := 3) rfl)) (by decide) (by decide)) iq99a iq99c (g := (mkF m 278 #[.val (.int p1), .val (.int p2), .val (.int p3), .val (.int p4), .val (.int p5), .val (.long q6), .second, .val (.int x7), .val (.int x8), .val (.int x9), .val (.int x10), .val (.int x11), .val (.int (4 : Int32)), .val (.int x13), .val (.int v13), .val (.ref b77), .val (.int v98)] [(.int v13), (.ref b77)])) rfl (by rw [hml]; rfl) (Steps.refl _) (argsL := [(.int v13)]) (rest := []) (lenOf pd_0_1 rfl) rfl (by show 2 * 0 + _ ≤ _; exact Nat.le_of_eq rfl) (hb hby at_278) (fun _ _ => ⟨rfl, rfl, (by decide : 11 + 0 ≤ _), (by decide : 111 + 0 ≤ _)⟩)
    dsimp only [Pt.U, Pt.locs, Pt.cells, Pt.slots] at X99 l99 y99 z99 st99 hQ99
    subst l99 y99 z99
    obtain ⟨rfl, N99q, e99⟩ := hQ99
    have N99 := Fr.app N87 N99q
    have pre101 : ∀ t, Steps p.tables e below (T99.setTop (mkF m 283 #[.val (.int p1), .val (.int p2), .val (.int p3), .val (.int p4), .val (.int p5), .val (.long q6), .second, .val (.int x7), .val (.int x8), .val (.int x9), .val (.int x10), .val (.int x11), .val (.int (4 : Int32)), .val (.int x13), .val (.int v13), .val (.ref b77), .val (.int v98)] [(.int v98), (.int (if v13 ∈ (own_ins (own_ins (own_ins (own_ins [] x7) x8) x9) x10) then (1 : Int32) else (0 : Int32)))])) t → Steps p.tables e below (s₁.setTop (entryFrame m #[(.int p1), (.int p2), (.int p3), (.int p4), (.int p5), (.long q6)] maxLocals)) t := fun t kt => by
      refine pre97 t ?_
      show Steps p.tables e below (T87.setTop (mkF m 272 #[.val (.int p1), .val (.int p2), .val (.int p3), .val (.int p4), .val (.int p5), .val (.long q6), .second, .val (.int x7), .val (.int x8), .val (.int x9), .val (.int x10), .val (.int x11), .val (.int (4 : Int32)), .val (.int x13), .val (.int v13), .val (.ref b77), .unset] [(.int v98)])) _
      refine XS.istore X87.here hx rfl (hb hby at_272) rfl (l' := #[.val (.int p1), .val (.int p2), .val (.int p3), .val (.int p4), .val (.int p5), .val (.long q6), .second, .val (.int x7), .val (.int x8), .val (.int x9), .val (.int x10), .val (.int x11), .val (.int (4 : Int32)), .val (.int x13), .val (.int v13), .val (.ref b77), .val (.int v98)]) rfl ?_
      show Steps p.tables e below (T87.setTop (mkF m 274 #[.val (.int p1), .val (.int p2), .val (.int p3), .val (.int p4), .val (.int p5), .val (.long q6), .second, .val (.int x7), .val (.int x8), .val (.int x9), .val (.int x10), .val (.int x11), .val (.int (4 : Int32)), .val (.int x13), .val (.int v13), .val (.ref b77), .val (.int v98)] [])) _
      refine XS.aload X87.here hx rfl (hb hby at_274) rfl rfl ?_
      show Steps p.tables e below (T87.setTop (mkF m 276 #[.val (.int p1), .val (.int p2), .val (.int p3), .val (.int p4), .val (.int p5), .val (.long q6), .second, .val (.int x7), .val (.int x8), .val (.int x9), .val (.int x10), .val (.int x11), .val (.int (4 : Int32)), .val (.int x13), .val (.int v13), .val (.ref b77), .val (.int v98)] [(.ref b77)])) _
      refine XS.iload X87.here hx rfl (hb hby at_276) rfl ?_
      show Steps p.tables e below (T87.setTop (mkF m 278 #[.val (.int p1), .val (.int p2), .val (.int p3), .val (.int p4), .val (.int p5), .val (.long q6), .second, .val (.int x7), .val (.int x8), .val (.int x9), .val (.int x10), .val (.int x11), .val (.int (4 : Int32)), .val (.int x13), .val (.int v13), .val (.ref b77), .val (.int v98)] [(.int v13), (.ref b77)])) _
      refine st99.trans ?_
      show Steps p.tables e below (T99.setTop (mkF m 281 #[.val (.int p1), .val (.int p2), .val (.int p3), .val (.int p4), .val (.int p5), .val (.long q6), .second, .val (.int x7), .val (.int x8), .val (.int x9), .val (.int x10), .val (.int x11), .val (.int (4 : Int32)), .val (.int x13), .val (.int v13), .val (.ref b77), .val (.int v98)] [(.int (if v13 ∈ (own_ins (own_ins (own_ins (own_ins [] x7) x8) x9) x10) then (1 : Int32) else (0 : Int32)))])) _
      refine XS.iload X99.here hx rfl (hb hby at_281) rfl ?_
      exact kt
    by_cases hc102 : (if v13 ∈ (own_ins (own_ins (own_ins (own_ins [] x7) x8) x9) x10) then (1 : Int32) else (0 : Int32)) = v98
    · obtain ⟨fs, hr, hrun, hended, hW, hsame⟩ := X99.leave (v := some (.int (1 : Int32))) (fun h => by rw [Bd.returns] at h; cases h)
      refine ⟨_, _, pre101 _ ?_, hrun, hended, _, _, rfl, ?_, ⟨_, rfl⟩, hW, hsame.mono (by decide) (by decide)⟩
      · show Steps p.tables e below (T99.setTop (mkF m 283 #[.val (.int p1), .val (.int p2), .val (.int p3), .val (.int p4), .val (.int p5), .val (.long q6), .second, .val (.int x7), .val (.int x8), .val (.int x9), .val (.int x10), .val (.int x11), .val (.int (4 : Int32)), .val (.int x13), .val (.int v13), .val (.ref b77), .val (.int v98)] [(.int v98), (.int (if v13 ∈ (own_ins (own_ins (own_ins (own_ins [] x7) x8) x9) x10) then (1 : Int32) else (0 : Int32)))])) _
        refine XS.icmpNo X99.here hx rfl (hb hby at_283) rfl (teq hc102).2 ?_
        show Steps p.tables e below (T99.setTop (mkF m 286 #[.val (.int p1), .val (.int p2), .val (.int p3), .val (.int p4), .val (.int p5), .val (.long q6), .second, .val (.int x7), .val (.int x8), .val (.int x9), .val (.int x10), .val (.int x11), .val (.int (4 : Int32)), .val (.int x13), .val (.int v13), .val (.ref b77), .val (.int v98)] [])) _
        refine XS.iconst X99.here hx rfl (hb hby at_286) ?_
        show Steps p.tables e below (T99.setTop (mkF m 287 #[.val (.int p1), .val (.int p2), .val (.int p3), .val (.int p4), .val (.int p5), .val (.long q6), .second, .val (.int x7), .val (.int x8), .val (.int x9), .val (.int x10), .val (.int x11), .val (.int (4 : Int32)), .val (.int x13), .val (.int v13), .val (.ref b77), .val (.int v98)] [(.int (1 : Int32))])) _
        refine XS.goto X99.here hx rfl (pc0 := 287) (pc' := 291) rfl (hb hby at_287) (by decide) (by decide) ?_
        show Steps p.tables e below (T99.setTop (mkF m 291 #[.val (.int p1), .val (.int p2), .val (.int p3), .val (.int p4), .val (.int p5), .val (.long q6), .second, .val (.int x7), .val (.int x8), .val (.int x9), .val (.int x10), .val (.int x11), .val (.int (4 : Int32)), .val (.int x13), .val (.int v13), .val (.ref b77), .val (.int v98)] [(.int (1 : Int32))])) _
        exact retN X99 hx (t := .boolean) Bd.returns (by simp) (hb hby at_291) hr
      · show Q0 Z p1 p2 p3 p4 p5 q6 h0 n0 _ T99.heap _
        rw [e99]
        exact ⟨rfl, N99⟩
    · exact (leaf_0_10 p1 p2 p3 p4 p5 q6 x7 hx7 x8 hx8 x9 hx9 x10 hx10 x11 hx11 x12 hx12 x13 hx13 x14 hx14 v13 hv13 hk14 v98 hv98 hc102).elim
  · rw [hk14] at pre12
    obtain ⟨b103, g103⟩ : ∃ z, z = h0.size := ⟨_, rfl⟩
    obtain ⟨T103, h103, X103, e103, E103, A103, D103, -, st103⟩ := newO X0 hx hZ hown (hw _ (List.mem_of_getElem? (i := 1) rfl)) (hw _ (List.mem_of_getElem? (i := 2) rfl)) (hw _ (List.mem_of_getElem? (i := 3) rfl)) e0 (g := (mkF m 125 #[.val (.int p1), .val (.int p2), .val (.int p3), .val (.int p4), .val (.int p5), .val (.long q6), .second, .val (.int x7), .val (.int x8), .val (.int x9), .val (.int x10), .val (.int x11), .val (.int (5 : Int32)), .val (.int x13), .val (.int v13), .unset, .unset] [])) rfl (hb hby at_125) (by decide) (by decide)
    rw [← g103] at A103 D103 st103
    have g_b103 : n0 ≤ b103 := Nat.le_trans Z0 (Nat.le_of_eq g103.symm)
    have F_slots_b103 : Fld Z h103 b103 "com/example/krel/krel/saturation/AtomSet" "slots" "[I" .null := D103 (Or.inl (hw _ (List.mem_of_getElem? (i := 12) rfl))) (ty := (.array .int)) (by decide)
    have F_atoms_b103 : Fld Z h103 b103 "com/example/krel/krel/saturation/AtomSet" "atoms" "[I" .null := D103 (Or.inl (hw _ (List.mem_of_getElem? (i := 14) rfl))) (ty := (.array .int)) (by decide)
    have F_size_b103 : Fld Z h103 b103 "com/example/krel/krel/saturation/AtomSet" "size" "I" (.int (0 : Int32)) := D103 (Or.inl (hw _ (List.mem_of_getElem? (i := 31) rfl))) (ty := .int) (by decide)
    have z105 : n0 ≤ h103.size := (Nat.le_trans Z0 E103.1)
    obtain ⟨_, _, ⟨T104, L104, k104, n104⟩, -, X104, ⟨Lc104, hQ104, l104, y104, z104⟩, st104⟩ := X103.specialBack hx (y := (⟨"com/example/krel/krel/saturation/AtomSet", "<init>", "()V"⟩ : MethodName)) rfl hown (mvT hZ (hw _ (List.mem_of_getElem? (i := 4) rfl))) (mvT hZ (hw _ (List.mem_of_getElem? (i := 5) rfl))) (mvT hZ (hw _ (List.mem_of_getElem? (i := 6) rfl))) (by decide) (backOf (W := 1) (rm1 l Z a0 hw [] b103 (.int (0 : Int32)) .null .null h103 n0 z105 A103 F_size_b103 F_slots_b103 g_b103 F_atoms_b103) hZ (hw _ (List.mem_of_getElem? (i := 6) rfl)) (hw _ (List.mem_of_getElem? (i := 3) rfl)) (by decide) (by decide)) (g := (mkF m 129 #[.val (.int p1), .val (.int p2), .val (.int p3), .val (.int p4), .val (.int p5), .val (.long q6), .second, .val (.int x7), .val (.int x8), .val (.int x9), .val (.int x10), .val (.int x11), .val (.int (5 : Int32)), .val (.int x13), .val (.int v13), .unset, .unset] [(.ref b103), (.ref b103)])) rfl (by rw [hml]; rfl) (Steps.refl _) (a := b103) (argsL := []) (rest := [(.ref b103)]) (lenOf pd_0_0 rfl) rfl (by show 2 * 0 + _ ≤ _; exact Nat.le_of_eq rfl) (hb hby at_129) (fun _ _ => ⟨rfl, e103, (by decide : 1 + 2 ≤ _), (by decide : 3 + 12 ≤ _)⟩)
    dsimp only [Pt.U, Pt.locs, Pt.cells, Pt.slots] at X104 l104 y104 z104 st104 hQ104
    subst l104 y104 z104
    obtain ⟨b104_0, b104_1, kk104_0, kk104_1, rfl, N104q, g_b104_0, g_b104_1, hz_b104_0, hz_b104_1, ne_b104_0_b104_1, K104, f104_0, f104_1, f104_2, f104_3, f104_4, f104_5⟩ := hQ104
    have ne_b103_b104_0 : b103 ≠ b104_0 := Nat.ne_of_lt (Nat.lt_of_lt_of_le A103.lt hz_b104_0)
    have ne_b103_b104_1 : b103 ≠ b104_1 := Nat.ne_of_lt (Nat.lt_of_lt_of_le A103.lt hz_b104_1)
    have N104 := Fr.app N0 N104q
    have A106 : own_AS Z T104.heap n0 b103 [] := ⟨b104_0, b104_1, kk104_0, kk104_1, [0, 0, 0, 0, 0, 0, 0, 0], [0, 0, 0, 0], f104_0, f104_3, f104_1, f104_2, g_b103, g_b104_0, g_b104_1, ne_b103_b104_0, ne_b103_b104_1, ne_b104_0_b104_1, (fun y hy => by simp at hy), List.nodup_nil, Or.inl ⟨by decide, rfl, f104_4, own_empty _ 8 (by decide), rfl, f104_5, rfl⟩⟩
    have hn106 : ([] : List Int32).length ≤ 0 := Nat.le_refl _
    have z108 : n0 ≤ T104.heap.size := (Nat.le_trans z105 K104.1)
    obtain ⟨cq107, kq107, iq107a, iq107b, iq107c⟩ := isOf hZ rfl f104_0
    obtain ⟨_, _, ⟨T107, L107, k107, n107⟩, -, X107, ⟨Lc107, hQ107, l107, y107, z107⟩, st107⟩ := X104.virtualBack hx (y := (⟨"com/example/krel/krel/saturation/AtomSet", "add", "(I)Z"⟩ : MethodName)) (z := (⟨"com/example/krel/krel/saturation/AtomSet", "add", "(I)Z"⟩ : MethodName)) hown (mvT hZ (hw _ (List.mem_of_getElem? (i := 25) rfl))) (mvT hZ (hw _ (List.mem_of_getElem? (i := 26) rfl))) (notFace_of_selects (args := #[]) (mvT hZ (hw _ (List.mem_of_getElem? (i := 28) rfl)))) (mvT hZ (hw _ (List.mem_of_getElem? (i := 28) rfl))) (mvT hZ (hw _ (List.mem_of_getElem? (i := 27) rfl))) (by decide) (backOf (W := 0) (rm90005 l Z a0 hw [] b103 x7 [] T104.heap n0 z108 A106 (Nat.le_trans hn106 (by decide)) (side_0_pos143_5 p1 p2 p3 p4 p5 q6 x7 hx7 x8 hx8 x9 hx9 x10 hx10 x11 hx11 x12 hx12 x13 hx13 x14 hx14 v13 hv13 hk14)) hZ (hw _ (List.mem_of_getElem? (i := 29) rfl)) (hw _ (List.mem_of_getElem? (i := 3) rfl)) (by decide) (by decide)) iq107a iq107c (g := (mkF m 143 #[.val (.int p1), .val (.int p2), .val (.int p3), .val (.int p4), .val (.int p5), .val (.long q6), .second, .val (.int x7), .val (.int x8), .val (.int x9), .val (.int x10), .val (.int x11), .val (.int (5 : Int32)), .val (.int x13), .val (.int v13), .val (.ref b103), .unset] [(.int x7), (.ref b103)])) rfl (by rw [hml]; rfl) (Steps.refl _) (argsL := [(.int x7)]) (rest := []) (lenOf pd_0_1 rfl) rfl (by show 2 * 0 + _ ≤ _; exact Nat.le_of_eq rfl) (hb hby at_143) (fun _ _ => ⟨rfl, rfl, (by decide : 3 + 2 ≤ _), (by decide : 15 + 24 ≤ _)⟩)
    dsimp only [Pt.U, Pt.locs, Pt.cells, Pt.slots] at X107 l107 y107 z107 st107 hQ107
    subst l107 y107 z107
    obtain ⟨⟨r107, rfl⟩, N107q, hs107, A107⟩ := hQ107
    have hn107 := own_inslen (x := x7) hn106
    have Ee107 := own_ASexa A107
    have N107 := Fr.app N104 N107q
    have z110 : n0 ≤ T107.heap.size := (Nat.le_trans z108 hs107)
    obtain ⟨cq109, kq109, iq109a, iq109b, iq109c⟩ := isOf hZ rfl Ee107
    obtain ⟨_, _, ⟨T109, L109, k109, n109⟩, -, X109, ⟨Lc109, hQ109, l109, y109, z109⟩, st109⟩ := X107.virtualBack hx (y := (⟨"com/example/krel/krel/saturation/AtomSet", "add", "(I)Z"⟩ : MethodName)) (z := (⟨"com/example/krel/krel/saturation/AtomSet", "add", "(I)Z"⟩ : MethodName)) hown (mvT hZ (hw _ (List.mem_of_getElem? (i := 25) rfl))) (mvT hZ (hw _ (List.mem_of_getElem? (i := 26) rfl))) (notFace_of_selects (args := #[]) (mvT hZ (hw _ (List.mem_of_getElem? (i := 28) rfl)))) (mvT hZ (hw _ (List.mem_of_getElem? (i := 28) rfl))) (mvT hZ (hw _ (List.mem_of_getElem? (i := 27) rfl))) (by decide) (backOf (W := 0) (rm90005 l Z a0 hw [] b103 x8 (own_ins [] x7) T107.heap n0 z110 A107 (Nat.le_trans hn107 (by decide)) (side_0_pos157_4 p1 p2 p3 p4 p5 q6 x7 hx7 x8 hx8 x9 hx9 x10 hx10 x11 hx11 x12 hx12 x13 hx13 x14 hx14 v13 hv13 hk14)) hZ (hw _ (List.mem_of_getElem? (i := 29) rfl)) (hw _ (List.mem_of_getElem? (i := 3) rfl)) (by decide) (by decide)) iq109a iq109c (g := (mkF m 157 #[.val (.int p1), .val (.int p2), .val (.int p3), .val (.int p4), .val (.int p5), .val (.long q6), .second, .val (.int x7), .val (.int x8), .val (.int x9), .val (.int x10), .val (.int x11), .val (.int (5 : Int32)), .val (.int x13), .val (.int v13), .val (.ref b103), .unset] [(.int x8), (.ref b103)])) rfl (by rw [hml]; rfl) (Steps.refl _) (argsL := [(.int x8)]) (rest := []) (lenOf pd_0_1 rfl) rfl (by show 2 * 0 + _ ≤ _; exact Nat.le_of_eq rfl) (hb hby at_157) (fun _ _ => ⟨rfl, rfl, (by decide : 5 + 2 ≤ _), (by decide : 39 + 24 ≤ _)⟩)
    dsimp only [Pt.U, Pt.locs, Pt.cells, Pt.slots] at X109 l109 y109 z109 st109 hQ109
    subst l109 y109 z109
    obtain ⟨⟨r109, rfl⟩, N109q, hs109, A109⟩ := hQ109
    have hn109 := own_inslen (x := x8) hn107
    have Ee109 := own_ASexa A109
    have N109 := Fr.app N107 N109q
    have z112 : n0 ≤ T109.heap.size := (Nat.le_trans z110 hs109)
    obtain ⟨cq111, kq111, iq111a, iq111b, iq111c⟩ := isOf hZ rfl Ee109
    obtain ⟨_, _, ⟨T111, L111, k111, n111⟩, -, X111, ⟨Lc111, hQ111, l111, y111, z111⟩, st111⟩ := X109.virtualBack hx (y := (⟨"com/example/krel/krel/saturation/AtomSet", "add", "(I)Z"⟩ : MethodName)) (z := (⟨"com/example/krel/krel/saturation/AtomSet", "add", "(I)Z"⟩ : MethodName)) hown (mvT hZ (hw _ (List.mem_of_getElem? (i := 25) rfl))) (mvT hZ (hw _ (List.mem_of_getElem? (i := 26) rfl))) (notFace_of_selects (args := #[]) (mvT hZ (hw _ (List.mem_of_getElem? (i := 28) rfl)))) (mvT hZ (hw _ (List.mem_of_getElem? (i := 28) rfl))) (mvT hZ (hw _ (List.mem_of_getElem? (i := 27) rfl))) (by decide) (backOf (W := 0) (rm90005 l Z a0 hw [] b103 x9 (own_ins (own_ins [] x7) x8) T109.heap n0 z112 A109 (Nat.le_trans hn109 (by decide)) (side_0_pos171_3 p1 p2 p3 p4 p5 q6 x7 hx7 x8 hx8 x9 hx9 x10 hx10 x11 hx11 x12 hx12 x13 hx13 x14 hx14 v13 hv13 hk14)) hZ (hw _ (List.mem_of_getElem? (i := 29) rfl)) (hw _ (List.mem_of_getElem? (i := 3) rfl)) (by decide) (by decide)) iq111a iq111c (g := (mkF m 171 #[.val (.int p1), .val (.int p2), .val (.int p3), .val (.int p4), .val (.int p5), .val (.long q6), .second, .val (.int x7), .val (.int x8), .val (.int x9), .val (.int x10), .val (.int x11), .val (.int (5 : Int32)), .val (.int x13), .val (.int v13), .val (.ref b103), .unset] [(.int x9), (.ref b103)])) rfl (by rw [hml]; rfl) (Steps.refl _) (argsL := [(.int x9)]) (rest := []) (lenOf pd_0_1 rfl) rfl (by show 2 * 0 + _ ≤ _; exact Nat.le_of_eq rfl) (hb hby at_171) (fun _ _ => ⟨rfl, rfl, (by decide : 7 + 2 ≤ _), (by decide : 63 + 24 ≤ _)⟩)
    dsimp only [Pt.U, Pt.locs, Pt.cells, Pt.slots] at X111 l111 y111 z111 st111 hQ111
    subst l111 y111 z111
    obtain ⟨⟨r111, rfl⟩, N111q, hs111, A111⟩ := hQ111
    have hn111 := own_inslen (x := x9) hn109
    have Ee111 := own_ASexa A111
    have N111 := Fr.app N109 N111q
    have z114 : n0 ≤ T111.heap.size := (Nat.le_trans z112 hs111)
    obtain ⟨cq113, kq113, iq113a, iq113b, iq113c⟩ := isOf hZ rfl Ee111
    obtain ⟨_, _, ⟨T113, L113, k113, n113⟩, -, X113, ⟨Lc113, hQ113, l113, y113, z113⟩, st113⟩ := X111.virtualBack hx (y := (⟨"com/example/krel/krel/saturation/AtomSet", "add", "(I)Z"⟩ : MethodName)) (z := (⟨"com/example/krel/krel/saturation/AtomSet", "add", "(I)Z"⟩ : MethodName)) hown (mvT hZ (hw _ (List.mem_of_getElem? (i := 25) rfl))) (mvT hZ (hw _ (List.mem_of_getElem? (i := 26) rfl))) (notFace_of_selects (args := #[]) (mvT hZ (hw _ (List.mem_of_getElem? (i := 28) rfl)))) (mvT hZ (hw _ (List.mem_of_getElem? (i := 28) rfl))) (mvT hZ (hw _ (List.mem_of_getElem? (i := 27) rfl))) (by decide) (backOf (W := 0) (rm90005 l Z a0 hw [] b103 x10 (own_ins (own_ins (own_ins [] x7) x8) x9) T111.heap n0 z114 A111 (Nat.le_trans hn111 (by decide)) (side_0_pos185_2 p1 p2 p3 p4 p5 q6 x7 hx7 x8 hx8 x9 hx9 x10 hx10 x11 hx11 x12 hx12 x13 hx13 x14 hx14 v13 hv13 hk14)) hZ (hw _ (List.mem_of_getElem? (i := 29) rfl)) (hw _ (List.mem_of_getElem? (i := 3) rfl)) (by decide) (by decide)) iq113a iq113c (g := (mkF m 185 #[.val (.int p1), .val (.int p2), .val (.int p3), .val (.int p4), .val (.int p5), .val (.long q6), .second, .val (.int x7), .val (.int x8), .val (.int x9), .val (.int x10), .val (.int x11), .val (.int (5 : Int32)), .val (.int x13), .val (.int v13), .val (.ref b103), .unset] [(.int x10), (.ref b103)])) rfl (by rw [hml]; rfl) (Steps.refl _) (argsL := [(.int x10)]) (rest := []) (lenOf pd_0_1 rfl) rfl (by show 2 * 0 + _ ≤ _; exact Nat.le_of_eq rfl) (hb hby at_185) (fun _ _ => ⟨rfl, rfl, (by decide : 9 + 2 ≤ _), (by decide : 87 + 24 ≤ _)⟩)
    dsimp only [Pt.U, Pt.locs, Pt.cells, Pt.slots] at X113 l113 y113 z113 st113 hQ113
    subst l113 y113 z113
    obtain ⟨⟨r113, rfl⟩, N113q, hs113, A113⟩ := hQ113
    have hn113 := own_inslen (x := x10) hn111
    have Ee113 := own_ASexa A113
    have N113 := Fr.app N111 N113q
    have z116 : n0 ≤ T113.heap.size := (Nat.le_trans z114 hs113)
    obtain ⟨cq115, kq115, iq115a, iq115b, iq115c⟩ := isOf hZ rfl Ee113
    obtain ⟨_, _, ⟨T115, L115, k115, n115⟩, -, X115, ⟨Lc115, hQ115, l115, y115, z115⟩, st115⟩ := X113.virtualBack hx (y := (⟨"com/example/krel/krel/saturation/AtomSet", "add", "(I)Z"⟩ : MethodName)) (z := (⟨"com/example/krel/krel/saturation/AtomSet", "add", "(I)Z"⟩ : MethodName)) hown (mvT hZ (hw _ (List.mem_of_getElem? (i := 25) rfl))) (mvT hZ (hw _ (List.mem_of_getElem? (i := 26) rfl))) (notFace_of_selects (args := #[]) (mvT hZ (hw _ (List.mem_of_getElem? (i := 28) rfl)))) (mvT hZ (hw _ (List.mem_of_getElem? (i := 28) rfl))) (mvT hZ (hw _ (List.mem_of_getElem? (i := 27) rfl))) (by decide) (backOf (W := 0) (rm90005 l Z a0 hw [] b103 x11 (own_ins (own_ins (own_ins (own_ins [] x7) x8) x9) x10) T113.heap n0 z116 A113 (Nat.le_trans hn113 (by decide)) (side_0_pos199 p1 p2 p3 p4 p5 q6 x7 hx7 x8 hx8 x9 hx9 x10 hx10 x11 hx11 x12 hx12 x13 hx13 x14 hx14 v13 hv13 hk14)) hZ (hw _ (List.mem_of_getElem? (i := 29) rfl)) (hw _ (List.mem_of_getElem? (i := 3) rfl)) (by decide) (by decide)) iq115a iq115c (g := (mkF m 199 #[.val (.int p1), .val (.int p2), .val (.int p3), .val (.int p4), .val (.int p5), .val (.long q6), .second, .val (.int x7), .val (.int x8), .val (.int x9), .val (.int x10), .val (.int x11), .val (.int (5 : Int32)), .val (.int x13), .val (.int v13), .val (.ref b103), .unset] [(.int x11), (.ref b103)])) rfl (by rw [hml]; rfl) (Steps.refl _) (argsL := [(.int x11)]) (rest := []) (lenOf pd_0_1 rfl) rfl (by show 2 * 0 + _ ≤ _; exact Nat.le_of_eq rfl) (hb hby at_199) (fun _ _ => ⟨rfl, rfl, (by decide : 11 + 2 ≤ _), (by decide : 111 + 24 ≤ _)⟩)
    dsimp only [Pt.U, Pt.locs, Pt.cells, Pt.slots] at X115 l115 y115 z115 st115 hQ115
    subst l115 y115 z115
    obtain ⟨⟨r115, rfl⟩, N115q, hs115, A115⟩ := hQ115
    have hn115 := own_inslen (x := x11) hn113
    have Ee115 := own_ASexa A115
    have N115 := Fr.app N113 N115q
    have pre117 : ∀ t, Steps p.tables e below (T115.setTop (mkF m 212 #[.val (.int p1), .val (.int p2), .val (.int p3), .val (.int p4), .val (.int p5), .val (.long q6), .second, .val (.int x7), .val (.int x8), .val (.int x9), .val (.int x10), .val (.int x11), .val (.int (5 : Int32)), .val (.int x13), .val (.int v13), .val (.ref b103), .unset] [(.int x7), (.int v13)])) t → Steps p.tables e below (s₁.setTop (entryFrame m #[(.int p1), (.int p2), (.int p3), (.int p4), (.int p5), (.long q6)] maxLocals)) t := fun t kt => by
      refine pre12 t ?_
      show Steps p.tables e below (s₁.setTop (mkF m 125 #[.val (.int p1), .val (.int p2), .val (.int p3), .val (.int p4), .val (.int p5), .val (.long q6), .second, .val (.int x7), .val (.int x8), .val (.int x9), .val (.int x10), .val (.int x11), .val (.int (5 : Int32)), .val (.int x13), .val (.int v13), .unset, .unset] [])) _
      refine st103 _ ?_
      show Steps p.tables e below (T103.setTop (mkF m 128 #[.val (.int p1), .val (.int p2), .val (.int p3), .val (.int p4), .val (.int p5), .val (.long q6), .second, .val (.int x7), .val (.int x8), .val (.int x9), .val (.int x10), .val (.int x11), .val (.int (5 : Int32)), .val (.int x13), .val (.int v13), .unset, .unset] [(.ref b103)])) _
      refine XS.dup X103.here hx rfl (hb hby at_128) rfl rfl ?_
      show Steps p.tables e below (T103.setTop (mkF m 129 #[.val (.int p1), .val (.int p2), .val (.int p3), .val (.int p4), .val (.int p5), .val (.long q6), .second, .val (.int x7), .val (.int x8), .val (.int x9), .val (.int x10), .val (.int x11), .val (.int (5 : Int32)), .val (.int x13), .val (.int v13), .unset, .unset] [(.ref b103), (.ref b103)])) _
      refine st104.trans ?_
      show Steps p.tables e below (T104.setTop (mkF m 132 #[.val (.int p1), .val (.int p2), .val (.int p3), .val (.int p4), .val (.int p5), .val (.long q6), .second, .val (.int x7), .val (.int x8), .val (.int x9), .val (.int x10), .val (.int x11), .val (.int (5 : Int32)), .val (.int x13), .val (.int v13), .unset, .unset] [(.ref b103)])) _
      refine XS.astore X104.here hx rfl (hb hby at_132) rfl rfl (l' := #[.val (.int p1), .val (.int p2), .val (.int p3), .val (.int p4), .val (.int p5), .val (.long q6), .second, .val (.int x7), .val (.int x8), .val (.int x9), .val (.int x10), .val (.int x11), .val (.int (5 : Int32)), .val (.int x13), .val (.int v13), .val (.ref b103), .unset]) rfl ?_
      show Steps p.tables e below (T104.setTop (mkF m 134 #[.val (.int p1), .val (.int p2), .val (.int p3), .val (.int p4), .val (.int p5), .val (.long q6), .second, .val (.int x7), .val (.int x8), .val (.int x9), .val (.int x10), .val (.int x11), .val (.int (5 : Int32)), .val (.int x13), .val (.int v13), .val (.ref b103), .unset] [])) _
      refine XS.iload X104.here hx rfl (hb hby at_134) rfl ?_
      show Steps p.tables e below (T104.setTop (mkF m 136 #[.val (.int p1), .val (.int p2), .val (.int p3), .val (.int p4), .val (.int p5), .val (.long q6), .second, .val (.int x7), .val (.int x8), .val (.int x9), .val (.int x10), .val (.int x11), .val (.int (5 : Int32)), .val (.int x13), .val (.int v13), .val (.ref b103), .unset] [(.int (5 : Int32))])) _
      refine XS.ifNo X104.here hx rfl (hb hby at_136) rfl ((if0 _ _).trans (tlt (by decide : (0 : Int32) < (5 : Int32))).2.2.2) ?_
      show Steps p.tables e below (T104.setTop (mkF m 139 #[.val (.int p1), .val (.int p2), .val (.int p3), .val (.int p4), .val (.int p5), .val (.long q6), .second, .val (.int x7), .val (.int x8), .val (.int x9), .val (.int x10), .val (.int x11), .val (.int (5 : Int32)), .val (.int x13), .val (.int v13), .val (.ref b103), .unset] [])) _
      refine XS.aload X104.here hx rfl (hb hby at_139) rfl rfl ?_
      show Steps p.tables e below (T104.setTop (mkF m 141 #[.val (.int p1), .val (.int p2), .val (.int p3), .val (.int p4), .val (.int p5), .val (.long q6), .second, .val (.int x7), .val (.int x8), .val (.int x9), .val (.int x10), .val (.int x11), .val (.int (5 : Int32)), .val (.int x13), .val (.int v13), .val (.ref b103), .unset] [(.ref b103)])) _
      refine XS.iload X104.here hx rfl (hb hby at_141) rfl ?_
      show Steps p.tables e below (T104.setTop (mkF m 143 #[.val (.int p1), .val (.int p2), .val (.int p3), .val (.int p4), .val (.int p5), .val (.long q6), .second, .val (.int x7), .val (.int x8), .val (.int x9), .val (.int x10), .val (.int x11), .val (.int (5 : Int32)), .val (.int x13), .val (.int v13), .val (.ref b103), .unset] [(.int x7), (.ref b103)])) _
      refine st107.trans ?_
      show Steps p.tables e below (T107.setTop (mkF m 146 #[.val (.int p1), .val (.int p2), .val (.int p3), .val (.int p4), .val (.int p5), .val (.long q6), .second, .val (.int x7), .val (.int x8), .val (.int x9), .val (.int x10), .val (.int x11), .val (.int (5 : Int32)), .val (.int x13), .val (.int v13), .val (.ref b103), .unset] [(.int r107)])) _
      refine XS.pop X107.here hx rfl (hb hby at_146) rfl rfl ?_
      show Steps p.tables e below (T107.setTop (mkF m 147 #[.val (.int p1), .val (.int p2), .val (.int p3), .val (.int p4), .val (.int p5), .val (.long q6), .second, .val (.int x7), .val (.int x8), .val (.int x9), .val (.int x10), .val (.int x11), .val (.int (5 : Int32)), .val (.int x13), .val (.int v13), .val (.ref b103), .unset] [])) _
      refine XS.iload X107.here hx rfl (hb hby at_147) rfl ?_
      show Steps p.tables e below (T107.setTop (mkF m 149 #[.val (.int p1), .val (.int p2), .val (.int p3), .val (.int p4), .val (.int p5), .val (.long q6), .second, .val (.int x7), .val (.int x8), .val (.int x9), .val (.int x10), .val (.int x11), .val (.int (5 : Int32)), .val (.int x13), .val (.int v13), .val (.ref b103), .unset] [(.int (5 : Int32))])) _
      refine XS.iconst X107.here hx rfl (hb hby at_149) ?_
      show Steps p.tables e below (T107.setTop (mkF m 150 #[.val (.int p1), .val (.int p2), .val (.int p3), .val (.int p4), .val (.int p5), .val (.long q6), .second, .val (.int x7), .val (.int x8), .val (.int x9), .val (.int x10), .val (.int x11), .val (.int (5 : Int32)), .val (.int x13), .val (.int v13), .val (.ref b103), .unset] [(.int (1 : Int32)), (.int (5 : Int32))])) _
      refine XS.icmpNo X107.here hx rfl (hb hby at_150) rfl (tlt (by decide : (1 : Int32) < (5 : Int32))).2.2.2 ?_
      show Steps p.tables e below (T107.setTop (mkF m 153 #[.val (.int p1), .val (.int p2), .val (.int p3), .val (.int p4), .val (.int p5), .val (.long q6), .second, .val (.int x7), .val (.int x8), .val (.int x9), .val (.int x10), .val (.int x11), .val (.int (5 : Int32)), .val (.int x13), .val (.int v13), .val (.ref b103), .unset] [])) _
      refine XS.aload X107.here hx rfl (hb hby at_153) rfl rfl ?_
      show Steps p.tables e below (T107.setTop (mkF m 155 #[.val (.int p1), .val (.int p2), .val (.int p3), .val (.int p4), .val (.int p5), .val (.long q6), .second, .val (.int x7), .val (.int x8), .val (.int x9), .val (.int x10), .val (.int x11), .val (.int (5 : Int32)), .val (.int x13), .val (.int v13), .val (.ref b103), .unset] [(.ref b103)])) _
      refine XS.iload X107.here hx rfl (hb hby at_155) rfl ?_
      show Steps p.tables e below (T107.setTop (mkF m 157 #[.val (.int p1), .val (.int p2), .val (.int p3), .val (.int p4), .val (.int p5), .val (.long q6), .second, .val (.int x7), .val (.int x8), .val (.int x9), .val (.int x10), .val (.int x11), .val (.int (5 : Int32)), .val (.int x13), .val (.int v13), .val (.ref b103), .unset] [(.int x8), (.ref b103)])) _
      refine st109.trans ?_
      show Steps p.tables e below (T109.setTop (mkF m 160 #[.val (.int p1), .val (.int p2), .val (.int p3), .val (.int p4), .val (.int p5), .val (.long q6), .second, .val (.int x7), .val (.int x8), .val (.int x9), .val (.int x10), .val (.int x11), .val (.int (5 : Int32)), .val (.int x13), .val (.int v13), .val (.ref b103), .unset] [(.int r109)])) _
      refine XS.pop X109.here hx rfl (hb hby at_160) rfl rfl ?_
      show Steps p.tables e below (T109.setTop (mkF m 161 #[.val (.int p1), .val (.int p2), .val (.int p3), .val (.int p4), .val (.int p5), .val (.long q6), .second, .val (.int x7), .val (.int x8), .val (.int x9), .val (.int x10), .val (.int x11), .val (.int (5 : Int32)), .val (.int x13), .val (.int v13), .val (.ref b103), .unset] [])) _
      refine XS.iload X109.here hx rfl (hb hby at_161) rfl ?_
      show Steps p.tables e below (T109.setTop (mkF m 163 #[.val (.int p1), .val (.int p2), .val (.int p3), .val (.int p4), .val (.int p5), .val (.long q6), .second, .val (.int x7), .val (.int x8), .val (.int x9), .val (.int x10), .val (.int x11), .val (.int (5 : Int32)), .val (.int x13), .val (.int v13), .val (.ref b103), .unset] [(.int (5 : Int32))])) _
      refine XS.iconst X109.here hx rfl (hb hby at_163) ?_
      show Steps p.tables e below (T109.setTop (mkF m 164 #[.val (.int p1), .val (.int p2), .val (.int p3), .val (.int p4), .val (.int p5), .val (.long q6), .second, .val (.int x7), .val (.int x8), .val (.int x9), .val (.int x10), .val (.int x11), .val (.int (5 : Int32)), .val (.int x13), .val (.int v13), .val (.ref b103), .unset] [(.int (2 : Int32)), (.int (5 : Int32))])) _
      refine XS.icmpNo X109.here hx rfl (hb hby at_164) rfl (tlt (by decide : (2 : Int32) < (5 : Int32))).2.2.2 ?_
      show Steps p.tables e below (T109.setTop (mkF m 167 #[.val (.int p1), .val (.int p2), .val (.int p3), .val (.int p4), .val (.int p5), .val (.long q6), .second, .val (.int x7), .val (.int x8), .val (.int x9), .val (.int x10), .val (.int x11), .val (.int (5 : Int32)), .val (.int x13), .val (.int v13), .val (.ref b103), .unset] [])) _
      refine XS.aload X109.here hx rfl (hb hby at_167) rfl rfl ?_
      show Steps p.tables e below (T109.setTop (mkF m 169 #[.val (.int p1), .val (.int p2), .val (.int p3), .val (.int p4), .val (.int p5), .val (.long q6), .second, .val (.int x7), .val (.int x8), .val (.int x9), .val (.int x10), .val (.int x11), .val (.int (5 : Int32)), .val (.int x13), .val (.int v13), .val (.ref b103), .unset] [(.ref b103)])) _
      refine XS.iload X109.here hx rfl (hb hby at_169) rfl ?_
      show Steps p.tables e below (T109.setTop (mkF m 171 #[.val (.int p1), .val (.int p2), .val (.int p3), .val (.int p4), .val (.int p5), .val (.long q6), .second, .val (.int x7), .val (.int x8), .val (.int x9), .val (.int x10), .val (.int x11), .val (.int (5 : Int32)), .val (.int x13), .val (.int v13), .val (.ref b103), .unset] [(.int x9), (.ref b103)])) _
      refine st111.trans ?_
      show Steps p.tables e below (T111.setTop (mkF m 174 #[.val (.int p1), .val (.int p2), .val (.int p3), .val (.int p4), .val (.int p5), .val (.long q6), .second, .val (.int x7), .val (.int x8), .val (.int x9), .val (.int x10), .val (.int x11), .val (.int (5 : Int32)), .val (.int x13), .val (.int v13), .val (.ref b103), .unset] [(.int r111)])) _
      refine XS.pop X111.here hx rfl (hb hby at_174) rfl rfl ?_
      show Steps p.tables e below (T111.setTop (mkF m 175 #[.val (.int p1), .val (.int p2), .val (.int p3), .val (.int p4), .val (.int p5), .val (.long q6), .second, .val (.int x7), .val (.int x8), .val (.int x9), .val (.int x10), .val (.int x11), .val (.int (5 : Int32)), .val (.int x13), .val (.int v13), .val (.ref b103), .unset] [])) _
      refine XS.iload X111.here hx rfl (hb hby at_175) rfl ?_
      show Steps p.tables e below (T111.setTop (mkF m 177 #[.val (.int p1), .val (.int p2), .val (.int p3), .val (.int p4), .val (.int p5), .val (.long q6), .second, .val (.int x7), .val (.int x8), .val (.int x9), .val (.int x10), .val (.int x11), .val (.int (5 : Int32)), .val (.int x13), .val (.int v13), .val (.ref b103), .unset] [(.int (5 : Int32))])) _
      refine XS.iconst X111.here hx rfl (hb hby at_177) ?_
      show Steps p.tables e below (T111.setTop (mkF m 178 #[.val (.int p1), .val (.int p2), .val (.int p3), .val (.int p4), .val (.int p5), .val (.long q6), .second, .val (.int x7), .val (.int x8), .val (.int x9), .val (.int x10), .val (.int x11), .val (.int (5 : Int32)), .val (.int x13), .val (.int v13), .val (.ref b103), .unset] [(.int (3 : Int32)), (.int (5 : Int32))])) _
      refine XS.icmpNo X111.here hx rfl (hb hby at_178) rfl (tlt (by decide : (3 : Int32) < (5 : Int32))).2.2.2 ?_
      show Steps p.tables e below (T111.setTop (mkF m 181 #[.val (.int p1), .val (.int p2), .val (.int p3), .val (.int p4), .val (.int p5), .val (.long q6), .second, .val (.int x7), .val (.int x8), .val (.int x9), .val (.int x10), .val (.int x11), .val (.int (5 : Int32)), .val (.int x13), .val (.int v13), .val (.ref b103), .unset] [])) _
      refine XS.aload X111.here hx rfl (hb hby at_181) rfl rfl ?_
      show Steps p.tables e below (T111.setTop (mkF m 183 #[.val (.int p1), .val (.int p2), .val (.int p3), .val (.int p4), .val (.int p5), .val (.long q6), .second, .val (.int x7), .val (.int x8), .val (.int x9), .val (.int x10), .val (.int x11), .val (.int (5 : Int32)), .val (.int x13), .val (.int v13), .val (.ref b103), .unset] [(.ref b103)])) _
      refine XS.iload X111.here hx rfl (hb hby at_183) rfl ?_
      show Steps p.tables e below (T111.setTop (mkF m 185 #[.val (.int p1), .val (.int p2), .val (.int p3), .val (.int p4), .val (.int p5), .val (.long q6), .second, .val (.int x7), .val (.int x8), .val (.int x9), .val (.int x10), .val (.int x11), .val (.int (5 : Int32)), .val (.int x13), .val (.int v13), .val (.ref b103), .unset] [(.int x10), (.ref b103)])) _
      refine st113.trans ?_
      show Steps p.tables e below (T113.setTop (mkF m 188 #[.val (.int p1), .val (.int p2), .val (.int p3), .val (.int p4), .val (.int p5), .val (.long q6), .second, .val (.int x7), .val (.int x8), .val (.int x9), .val (.int x10), .val (.int x11), .val (.int (5 : Int32)), .val (.int x13), .val (.int v13), .val (.ref b103), .unset] [(.int r113)])) _
      refine XS.pop X113.here hx rfl (hb hby at_188) rfl rfl ?_
      show Steps p.tables e below (T113.setTop (mkF m 189 #[.val (.int p1), .val (.int p2), .val (.int p3), .val (.int p4), .val (.int p5), .val (.long q6), .second, .val (.int x7), .val (.int x8), .val (.int x9), .val (.int x10), .val (.int x11), .val (.int (5 : Int32)), .val (.int x13), .val (.int v13), .val (.ref b103), .unset] [])) _
      refine XS.iload X113.here hx rfl (hb hby at_189) rfl ?_
      show Steps p.tables e below (T113.setTop (mkF m 191 #[.val (.int p1), .val (.int p2), .val (.int p3), .val (.int p4), .val (.int p5), .val (.long q6), .second, .val (.int x7), .val (.int x8), .val (.int x9), .val (.int x10), .val (.int x11), .val (.int (5 : Int32)), .val (.int x13), .val (.int v13), .val (.ref b103), .unset] [(.int (5 : Int32))])) _
      refine XS.iconst X113.here hx rfl (hb hby at_191) ?_
      show Steps p.tables e below (T113.setTop (mkF m 192 #[.val (.int p1), .val (.int p2), .val (.int p3), .val (.int p4), .val (.int p5), .val (.long q6), .second, .val (.int x7), .val (.int x8), .val (.int x9), .val (.int x10), .val (.int x11), .val (.int (5 : Int32)), .val (.int x13), .val (.int v13), .val (.ref b103), .unset] [(.int (4 : Int32)), (.int (5 : Int32))])) _
      refine XS.icmpNo X113.here hx rfl (hb hby at_192) rfl (tlt (by decide : (4 : Int32) < (5 : Int32))).2.2.2 ?_
      show Steps p.tables e below (T113.setTop (mkF m 195 #[.val (.int p1), .val (.int p2), .val (.int p3), .val (.int p4), .val (.int p5), .val (.long q6), .second, .val (.int x7), .val (.int x8), .val (.int x9), .val (.int x10), .val (.int x11), .val (.int (5 : Int32)), .val (.int x13), .val (.int v13), .val (.ref b103), .unset] [])) _
      refine XS.aload X113.here hx rfl (hb hby at_195) rfl rfl ?_
      show Steps p.tables e below (T113.setTop (mkF m 197 #[.val (.int p1), .val (.int p2), .val (.int p3), .val (.int p4), .val (.int p5), .val (.long q6), .second, .val (.int x7), .val (.int x8), .val (.int x9), .val (.int x10), .val (.int x11), .val (.int (5 : Int32)), .val (.int x13), .val (.int v13), .val (.ref b103), .unset] [(.ref b103)])) _
      refine XS.iload X113.here hx rfl (hb hby at_197) rfl ?_
      show Steps p.tables e below (T113.setTop (mkF m 199 #[.val (.int p1), .val (.int p2), .val (.int p3), .val (.int p4), .val (.int p5), .val (.long q6), .second, .val (.int x7), .val (.int x8), .val (.int x9), .val (.int x10), .val (.int x11), .val (.int (5 : Int32)), .val (.int x13), .val (.int v13), .val (.ref b103), .unset] [(.int x11), (.ref b103)])) _
      refine st115.trans ?_
      show Steps p.tables e below (T115.setTop (mkF m 202 #[.val (.int p1), .val (.int p2), .val (.int p3), .val (.int p4), .val (.int p5), .val (.long q6), .second, .val (.int x7), .val (.int x8), .val (.int x9), .val (.int x10), .val (.int x11), .val (.int (5 : Int32)), .val (.int x13), .val (.int v13), .val (.ref b103), .unset] [(.int r115)])) _
      refine XS.pop X115.here hx rfl (hb hby at_202) rfl rfl ?_
      show Steps p.tables e below (T115.setTop (mkF m 203 #[.val (.int p1), .val (.int p2), .val (.int p3), .val (.int p4), .val (.int p5), .val (.long q6), .second, .val (.int x7), .val (.int x8), .val (.int x9), .val (.int x10), .val (.int x11), .val (.int (5 : Int32)), .val (.int x13), .val (.int v13), .val (.ref b103), .unset] [])) _
      refine XS.iload X115.here hx rfl (hb hby at_203) rfl ?_
      show Steps p.tables e below (T115.setTop (mkF m 205 #[.val (.int p1), .val (.int p2), .val (.int p3), .val (.int p4), .val (.int p5), .val (.long q6), .second, .val (.int x7), .val (.int x8), .val (.int x9), .val (.int x10), .val (.int x11), .val (.int (5 : Int32)), .val (.int x13), .val (.int v13), .val (.ref b103), .unset] [(.int (5 : Int32))])) _
      refine XS.ifNo X115.here hx rfl (hb hby at_205) rfl ((if0 _ _).trans (tlt (by decide : (0 : Int32) < (5 : Int32))).2.2.2) ?_
      show Steps p.tables e below (T115.setTop (mkF m 208 #[.val (.int p1), .val (.int p2), .val (.int p3), .val (.int p4), .val (.int p5), .val (.long q6), .second, .val (.int x7), .val (.int x8), .val (.int x9), .val (.int x10), .val (.int x11), .val (.int (5 : Int32)), .val (.int x13), .val (.int v13), .val (.ref b103), .unset] [])) _
      refine XS.iload X115.here hx rfl (hb hby at_208) rfl ?_
      show Steps p.tables e below (T115.setTop (mkF m 210 #[.val (.int p1), .val (.int p2), .val (.int p3), .val (.int p4), .val (.int p5), .val (.long q6), .second, .val (.int x7), .val (.int x8), .val (.int x9), .val (.int x10), .val (.int x11), .val (.int (5 : Int32)), .val (.int x13), .val (.int v13), .val (.ref b103), .unset] [(.int v13)])) _
      refine XS.iload X115.here hx rfl (hb hby at_210) rfl ?_
      exact kt
    have pre127 : ∀ t, Steps p.tables e below (T115.setTop (mkF m 272 #[.val (.int p1), .val (.int p2), .val (.int p3), .val (.int p4), .val (.int p5), .val (.long q6), .second, .val (.int x7), .val (.int x8), .val (.int x9), .val (.int x10), .val (.int x11), .val (.int (5 : Int32)), .val (.int x13), .val (.int v13), .val (.ref b103), .unset] [(.int (if v13 = x7 then (1 : Int32) else (if v13 = x8 then (1 : Int32) else (if v13 = x9 then (1 : Int32) else (if v13 = x10 then (1 : Int32) else (if v13 = x11 then (1 : Int32) else (0 : Int32)))))))])) t → Steps p.tables e below (s₁.setTop (entryFrame m #[(.int p1), (.int p2), (.int p3), (.int p4), (.int p5), (.long q6)] maxLocals)) t := by
      by_cases hc118 : v13 = x7
      · refine fun t kt => pre117 t ?_
        repeat rw [if_pos hc118] at kt
        show Steps p.tables e below (T115.setTop (mkF m 212 #[.val (.int p1), .val (.int p2), .val (.int p3), .val (.int p4), .val (.int p5), .val (.long q6), .second, .val (.int x7), .val (.int x8), .val (.int x9), .val (.int x10), .val (.int x11), .val (.int (5 : Int32)), .val (.int x13), .val (.int v13), .val (.ref b103), .unset] [(.int x7), (.int v13)])) _
        refine XS.icmpYes X115.here hx rfl (pc0 := 212) (pc' := 267) rfl (hb hby at_212) rfl (teq hc118).1 (by decide) (by decide) ?_
        show Steps p.tables e below (T115.setTop (mkF m 267 #[.val (.int p1), .val (.int p2), .val (.int p3), .val (.int p4), .val (.int p5), .val (.long q6), .second, .val (.int x7), .val (.int x8), .val (.int x9), .val (.int x10), .val (.int x11), .val (.int (5 : Int32)), .val (.int x13), .val (.int v13), .val (.ref b103), .unset] [])) _
        refine XS.iconst X115.here hx rfl (hb hby at_267) ?_
        show Steps p.tables e below (T115.setTop (mkF m 268 #[.val (.int p1), .val (.int p2), .val (.int p3), .val (.int p4), .val (.int p5), .val (.long q6), .second, .val (.int x7), .val (.int x8), .val (.int x9), .val (.int x10), .val (.int x11), .val (.int (5 : Int32)), .val (.int x13), .val (.int v13), .val (.ref b103), .unset] [(.int (1 : Int32))])) _
        refine XS.goto X115.here hx rfl (pc0 := 268) (pc' := 272) rfl (hb hby at_268) (by decide) (by decide) ?_
        exact kt
      · have pre119 : ∀ t, Steps p.tables e below (T115.setTop (mkF m 225 #[.val (.int p1), .val (.int p2), .val (.int p3), .val (.int p4), .val (.int p5), .val (.long q6), .second, .val (.int x7), .val (.int x8), .val (.int x9), .val (.int x10), .val (.int x11), .val (.int (5 : Int32)), .val (.int x13), .val (.int v13), .val (.ref b103), .unset] [(.int x8), (.int v13)])) t → Steps p.tables e below (s₁.setTop (entryFrame m #[(.int p1), (.int p2), (.int p3), (.int p4), (.int p5), (.long q6)] maxLocals)) t := fun t kt => by
          refine pre117 t ?_
          show Steps p.tables e below (T115.setTop (mkF m 212 #[.val (.int p1), .val (.int p2), .val (.int p3), .val (.int p4), .val (.int p5), .val (.long q6), .second, .val (.int x7), .val (.int x8), .val (.int x9), .val (.int x10), .val (.int x11), .val (.int (5 : Int32)), .val (.int x13), .val (.int v13), .val (.ref b103), .unset] [(.int x7), (.int v13)])) _
          refine XS.icmpNo X115.here hx rfl (hb hby at_212) rfl (feq hc118).1 ?_
          show Steps p.tables e below (T115.setTop (mkF m 215 #[.val (.int p1), .val (.int p2), .val (.int p3), .val (.int p4), .val (.int p5), .val (.long q6), .second, .val (.int x7), .val (.int x8), .val (.int x9), .val (.int x10), .val (.int x11), .val (.int (5 : Int32)), .val (.int x13), .val (.int v13), .val (.ref b103), .unset] [])) _
          refine XS.iload X115.here hx rfl (hb hby at_215) rfl ?_
          show Steps p.tables e below (T115.setTop (mkF m 217 #[.val (.int p1), .val (.int p2), .val (.int p3), .val (.int p4), .val (.int p5), .val (.long q6), .second, .val (.int x7), .val (.int x8), .val (.int x9), .val (.int x10), .val (.int x11), .val (.int (5 : Int32)), .val (.int x13), .val (.int v13), .val (.ref b103), .unset] [(.int (5 : Int32))])) _
          refine XS.iconst X115.here hx rfl (hb hby at_217) ?_
          show Steps p.tables e below (T115.setTop (mkF m 218 #[.val (.int p1), .val (.int p2), .val (.int p3), .val (.int p4), .val (.int p5), .val (.long q6), .second, .val (.int x7), .val (.int x8), .val (.int x9), .val (.int x10), .val (.int x11), .val (.int (5 : Int32)), .val (.int x13), .val (.int v13), .val (.ref b103), .unset] [(.int (1 : Int32)), (.int (5 : Int32))])) _
          refine XS.icmpNo X115.here hx rfl (hb hby at_218) rfl (tlt (by decide : (1 : Int32) < (5 : Int32))).2.2.2 ?_
          show Steps p.tables e below (T115.setTop (mkF m 221 #[.val (.int p1), .val (.int p2), .val (.int p3), .val (.int p4), .val (.int p5), .val (.long q6), .second, .val (.int x7), .val (.int x8), .val (.int x9), .val (.int x10), .val (.int x11), .val (.int (5 : Int32)), .val (.int x13), .val (.int v13), .val (.ref b103), .unset] [])) _
          refine XS.iload X115.here hx rfl (hb hby at_221) rfl ?_
          show Steps p.tables e below (T115.setTop (mkF m 223 #[.val (.int p1), .val (.int p2), .val (.int p3), .val (.int p4), .val (.int p5), .val (.long q6), .second, .val (.int x7), .val (.int x8), .val (.int x9), .val (.int x10), .val (.int x11), .val (.int (5 : Int32)), .val (.int x13), .val (.int v13), .val (.ref b103), .unset] [(.int v13)])) _
          refine XS.iload X115.here hx rfl (hb hby at_223) rfl ?_
          exact kt
        by_cases hc120 : v13 = x8
        · refine fun t kt => pre119 t ?_
          repeat rw [if_neg hc118] at kt
          repeat rw [if_pos hc120] at kt
          show Steps p.tables e below (T115.setTop (mkF m 225 #[.val (.int p1), .val (.int p2), .val (.int p3), .val (.int p4), .val (.int p5), .val (.long q6), .second, .val (.int x7), .val (.int x8), .val (.int x9), .val (.int x10), .val (.int x11), .val (.int (5 : Int32)), .val (.int x13), .val (.int v13), .val (.ref b103), .unset] [(.int x8), (.int v13)])) _
          refine XS.icmpYes X115.here hx rfl (pc0 := 225) (pc' := 267) rfl (hb hby at_225) rfl (teq hc120).1 (by decide) (by decide) ?_
          show Steps p.tables e below (T115.setTop (mkF m 267 #[.val (.int p1), .val (.int p2), .val (.int p3), .val (.int p4), .val (.int p5), .val (.long q6), .second, .val (.int x7), .val (.int x8), .val (.int x9), .val (.int x10), .val (.int x11), .val (.int (5 : Int32)), .val (.int x13), .val (.int v13), .val (.ref b103), .unset] [])) _
          refine XS.iconst X115.here hx rfl (hb hby at_267) ?_
          show Steps p.tables e below (T115.setTop (mkF m 268 #[.val (.int p1), .val (.int p2), .val (.int p3), .val (.int p4), .val (.int p5), .val (.long q6), .second, .val (.int x7), .val (.int x8), .val (.int x9), .val (.int x10), .val (.int x11), .val (.int (5 : Int32)), .val (.int x13), .val (.int v13), .val (.ref b103), .unset] [(.int (1 : Int32))])) _
          refine XS.goto X115.here hx rfl (pc0 := 268) (pc' := 272) rfl (hb hby at_268) (by decide) (by decide) ?_
          exact kt
        · have pre121 : ∀ t, Steps p.tables e below (T115.setTop (mkF m 238 #[.val (.int p1), .val (.int p2), .val (.int p3), .val (.int p4), .val (.int p5), .val (.long q6), .second, .val (.int x7), .val (.int x8), .val (.int x9), .val (.int x10), .val (.int x11), .val (.int (5 : Int32)), .val (.int x13), .val (.int v13), .val (.ref b103), .unset] [(.int x9), (.int v13)])) t → Steps p.tables e below (s₁.setTop (entryFrame m #[(.int p1), (.int p2), (.int p3), (.int p4), (.int p5), (.long q6)] maxLocals)) t := fun t kt => by
            refine pre119 t ?_
            show Steps p.tables e below (T115.setTop (mkF m 225 #[.val (.int p1), .val (.int p2), .val (.int p3), .val (.int p4), .val (.int p5), .val (.long q6), .second, .val (.int x7), .val (.int x8), .val (.int x9), .val (.int x10), .val (.int x11), .val (.int (5 : Int32)), .val (.int x13), .val (.int v13), .val (.ref b103), .unset] [(.int x8), (.int v13)])) _
            refine XS.icmpNo X115.here hx rfl (hb hby at_225) rfl (feq hc120).1 ?_
            show Steps p.tables e below (T115.setTop (mkF m 228 #[.val (.int p1), .val (.int p2), .val (.int p3), .val (.int p4), .val (.int p5), .val (.long q6), .second, .val (.int x7), .val (.int x8), .val (.int x9), .val (.int x10), .val (.int x11), .val (.int (5 : Int32)), .val (.int x13), .val (.int v13), .val (.ref b103), .unset] [])) _
            refine XS.iload X115.here hx rfl (hb hby at_228) rfl ?_
            show Steps p.tables e below (T115.setTop (mkF m 230 #[.val (.int p1), .val (.int p2), .val (.int p3), .val (.int p4), .val (.int p5), .val (.long q6), .second, .val (.int x7), .val (.int x8), .val (.int x9), .val (.int x10), .val (.int x11), .val (.int (5 : Int32)), .val (.int x13), .val (.int v13), .val (.ref b103), .unset] [(.int (5 : Int32))])) _
            refine XS.iconst X115.here hx rfl (hb hby at_230) ?_
            show Steps p.tables e below (T115.setTop (mkF m 231 #[.val (.int p1), .val (.int p2), .val (.int p3), .val (.int p4), .val (.int p5), .val (.long q6), .second, .val (.int x7), .val (.int x8), .val (.int x9), .val (.int x10), .val (.int x11), .val (.int (5 : Int32)), .val (.int x13), .val (.int v13), .val (.ref b103), .unset] [(.int (2 : Int32)), (.int (5 : Int32))])) _
            refine XS.icmpNo X115.here hx rfl (hb hby at_231) rfl (tlt (by decide : (2 : Int32) < (5 : Int32))).2.2.2 ?_
            show Steps p.tables e below (T115.setTop (mkF m 234 #[.val (.int p1), .val (.int p2), .val (.int p3), .val (.int p4), .val (.int p5), .val (.long q6), .second, .val (.int x7), .val (.int x8), .val (.int x9), .val (.int x10), .val (.int x11), .val (.int (5 : Int32)), .val (.int x13), .val (.int v13), .val (.ref b103), .unset] [])) _
            refine XS.iload X115.here hx rfl (hb hby at_234) rfl ?_
            show Steps p.tables e below (T115.setTop (mkF m 236 #[.val (.int p1), .val (.int p2), .val (.int p3), .val (.int p4), .val (.int p5), .val (.long q6), .second, .val (.int x7), .val (.int x8), .val (.int x9), .val (.int x10), .val (.int x11), .val (.int (5 : Int32)), .val (.int x13), .val (.int v13), .val (.ref b103), .unset] [(.int v13)])) _
            refine XS.iload X115.here hx rfl (hb hby at_236) rfl ?_
            exact kt
          by_cases hc122 : v13 = x9
          · refine fun t kt => pre121 t ?_
            repeat rw [if_neg hc118] at kt
            repeat rw [if_neg hc120] at kt
            repeat rw [if_pos hc122] at kt
            show Steps p.tables e below (T115.setTop (mkF m 238 #[.val (.int p1), .val (.int p2), .val (.int p3), .val (.int p4), .val (.int p5), .val (.long q6), .second, .val (.int x7), .val (.int x8), .val (.int x9), .val (.int x10), .val (.int x11), .val (.int (5 : Int32)), .val (.int x13), .val (.int v13), .val (.ref b103), .unset] [(.int x9), (.int v13)])) _
            refine XS.icmpYes X115.here hx rfl (pc0 := 238) (pc' := 267) rfl (hb hby at_238) rfl (teq hc122).1 (by decide) (by decide) ?_
            show Steps p.tables e below (T115.setTop (mkF m 267 #[.val (.int p1), .val (.int p2), .val (.int p3), .val (.int p4), .val (.int p5), .val (.long q6), .second, .val (.int x7), .val (.int x8), .val (.int x9), .val (.int x10), .val (.int x11), .val (.int (5 : Int32)), .val (.int x13), .val (.int v13), .val (.ref b103), .unset] [])) _
            refine XS.iconst X115.here hx rfl (hb hby at_267) ?_
            show Steps p.tables e below (T115.setTop (mkF m 268 #[.val (.int p1), .val (.int p2), .val (.int p3), .val (.int p4), .val (.int p5), .val (.long q6), .second, .val (.int x7), .val (.int x8), .val (.int x9), .val (.int x10), .val (.int x11), .val (.int (5 : Int32)), .val (.int x13), .val (.int v13), .val (.ref b103), .unset] [(.int (1 : Int32))])) _
            refine XS.goto X115.here hx rfl (pc0 := 268) (pc' := 272) rfl (hb hby at_268) (by decide) (by decide) ?_
            exact kt
          · have pre123 : ∀ t, Steps p.tables e below (T115.setTop (mkF m 251 #[.val (.int p1), .val (.int p2), .val (.int p3), .val (.int p4), .val (.int p5), .val (.long q6), .second, .val (.int x7), .val (.int x8), .val (.int x9), .val (.int x10), .val (.int x11), .val (.int (5 : Int32)), .val (.int x13), .val (.int v13), .val (.ref b103), .unset] [(.int x10), (.int v13)])) t → Steps p.tables e below (s₁.setTop (entryFrame m #[(.int p1), (.int p2), (.int p3), (.int p4), (.int p5), (.long q6)] maxLocals)) t := fun t kt => by
              refine pre121 t ?_
              show Steps p.tables e below (T115.setTop (mkF m 238 #[.val (.int p1), .val (.int p2), .val (.int p3), .val (.int p4), .val (.int p5), .val (.long q6), .second, .val (.int x7), .val (.int x8), .val (.int x9), .val (.int x10), .val (.int x11), .val (.int (5 : Int32)), .val (.int x13), .val (.int v13), .val (.ref b103), .unset] [(.int x9), (.int v13)])) _
              refine XS.icmpNo X115.here hx rfl (hb hby at_238) rfl (feq hc122).1 ?_
              show Steps p.tables e below (T115.setTop (mkF m 241 #[.val (.int p1), .val (.int p2), .val (.int p3), .val (.int p4), .val (.int p5), .val (.long q6), .second, .val (.int x7), .val (.int x8), .val (.int x9), .val (.int x10), .val (.int x11), .val (.int (5 : Int32)), .val (.int x13), .val (.int v13), .val (.ref b103), .unset] [])) _
              refine XS.iload X115.here hx rfl (hb hby at_241) rfl ?_
              show Steps p.tables e below (T115.setTop (mkF m 243 #[.val (.int p1), .val (.int p2), .val (.int p3), .val (.int p4), .val (.int p5), .val (.long q6), .second, .val (.int x7), .val (.int x8), .val (.int x9), .val (.int x10), .val (.int x11), .val (.int (5 : Int32)), .val (.int x13), .val (.int v13), .val (.ref b103), .unset] [(.int (5 : Int32))])) _
              refine XS.iconst X115.here hx rfl (hb hby at_243) ?_
              show Steps p.tables e below (T115.setTop (mkF m 244 #[.val (.int p1), .val (.int p2), .val (.int p3), .val (.int p4), .val (.int p5), .val (.long q6), .second, .val (.int x7), .val (.int x8), .val (.int x9), .val (.int x10), .val (.int x11), .val (.int (5 : Int32)), .val (.int x13), .val (.int v13), .val (.ref b103), .unset] [(.int (3 : Int32)), (.int (5 : Int32))])) _
              refine XS.icmpNo X115.here hx rfl (hb hby at_244) rfl (tlt (by decide : (3 : Int32) < (5 : Int32))).2.2.2 ?_
              show Steps p.tables e below (T115.setTop (mkF m 247 #[.val (.int p1), .val (.int p2), .val (.int p3), .val (.int p4), .val (.int p5), .val (.long q6), .second, .val (.int x7), .val (.int x8), .val (.int x9), .val (.int x10), .val (.int x11), .val (.int (5 : Int32)), .val (.int x13), .val (.int v13), .val (.ref b103), .unset] [])) _
              refine XS.iload X115.here hx rfl (hb hby at_247) rfl ?_
              show Steps p.tables e below (T115.setTop (mkF m 249 #[.val (.int p1), .val (.int p2), .val (.int p3), .val (.int p4), .val (.int p5), .val (.long q6), .second, .val (.int x7), .val (.int x8), .val (.int x9), .val (.int x10), .val (.int x11), .val (.int (5 : Int32)), .val (.int x13), .val (.int v13), .val (.ref b103), .unset] [(.int v13)])) _
              refine XS.iload X115.here hx rfl (hb hby at_249) rfl ?_
              exact kt
            by_cases hc124 : v13 = x10
            · refine fun t kt => pre123 t ?_
              repeat rw [if_neg hc118] at kt
              repeat rw [if_neg hc120] at kt
              repeat rw [if_neg hc122] at kt
              repeat rw [if_pos hc124] at kt
              show Steps p.tables e below (T115.setTop (mkF m 251 #[.val (.int p1), .val (.int p2), .val (.int p3), .val (.int p4), .val (.int p5), .val (.long q6), .second, .val (.int x7), .val (.int x8), .val (.int x9), .val (.int x10), .val (.int x11), .val (.int (5 : Int32)), .val (.int x13), .val (.int v13), .val (.ref b103), .unset] [(.int x10), (.int v13)])) _
              refine XS.icmpYes X115.here hx rfl (pc0 := 251) (pc' := 267) rfl (hb hby at_251) rfl (teq hc124).1 (by decide) (by decide) ?_
              show Steps p.tables e below (T115.setTop (mkF m 267 #[.val (.int p1), .val (.int p2), .val (.int p3), .val (.int p4), .val (.int p5), .val (.long q6), .second, .val (.int x7), .val (.int x8), .val (.int x9), .val (.int x10), .val (.int x11), .val (.int (5 : Int32)), .val (.int x13), .val (.int v13), .val (.ref b103), .unset] [])) _
              refine XS.iconst X115.here hx rfl (hb hby at_267) ?_
              show Steps p.tables e below (T115.setTop (mkF m 268 #[.val (.int p1), .val (.int p2), .val (.int p3), .val (.int p4), .val (.int p5), .val (.long q6), .second, .val (.int x7), .val (.int x8), .val (.int x9), .val (.int x10), .val (.int x11), .val (.int (5 : Int32)), .val (.int x13), .val (.int v13), .val (.ref b103), .unset] [(.int (1 : Int32))])) _
              refine XS.goto X115.here hx rfl (pc0 := 268) (pc' := 272) rfl (hb hby at_268) (by decide) (by decide) ?_
              exact kt
            · have pre125 : ∀ t, Steps p.tables e below (T115.setTop (mkF m 264 #[.val (.int p1), .val (.int p2), .val (.int p3), .val (.int p4), .val (.int p5), .val (.long q6), .second, .val (.int x7), .val (.int x8), .val (.int x9), .val (.int x10), .val (.int x11), .val (.int (5 : Int32)), .val (.int x13), .val (.int v13), .val (.ref b103), .unset] [(.int x11), (.int v13)])) t → Steps p.tables e below (s₁.setTop (entryFrame m #[(.int p1), (.int p2), (.int p3), (.int p4), (.int p5), (.long q6)] maxLocals)) t := fun t kt => by
                refine pre123 t ?_
                show Steps p.tables e below (T115.setTop (mkF m 251 #[.val (.int p1), .val (.int p2), .val (.int p3), .val (.int p4), .val (.int p5), .val (.long q6), .second, .val (.int x7), .val (.int x8), .val (.int x9), .val (.int x10), .val (.int x11), .val (.int (5 : Int32)), .val (.int x13), .val (.int v13), .val (.ref b103), .unset] [(.int x10), (.int v13)])) _
                refine XS.icmpNo X115.here hx rfl (hb hby at_251) rfl (feq hc124).1 ?_
                show Steps p.tables e below (T115.setTop (mkF m 254 #[.val (.int p1), .val (.int p2), .val (.int p3), .val (.int p4), .val (.int p5), .val (.long q6), .second, .val (.int x7), .val (.int x8), .val (.int x9), .val (.int x10), .val (.int x11), .val (.int (5 : Int32)), .val (.int x13), .val (.int v13), .val (.ref b103), .unset] [])) _
                refine XS.iload X115.here hx rfl (hb hby at_254) rfl ?_
                show Steps p.tables e below (T115.setTop (mkF m 256 #[.val (.int p1), .val (.int p2), .val (.int p3), .val (.int p4), .val (.int p5), .val (.long q6), .second, .val (.int x7), .val (.int x8), .val (.int x9), .val (.int x10), .val (.int x11), .val (.int (5 : Int32)), .val (.int x13), .val (.int v13), .val (.ref b103), .unset] [(.int (5 : Int32))])) _
                refine XS.iconst X115.here hx rfl (hb hby at_256) ?_
                show Steps p.tables e below (T115.setTop (mkF m 257 #[.val (.int p1), .val (.int p2), .val (.int p3), .val (.int p4), .val (.int p5), .val (.long q6), .second, .val (.int x7), .val (.int x8), .val (.int x9), .val (.int x10), .val (.int x11), .val (.int (5 : Int32)), .val (.int x13), .val (.int v13), .val (.ref b103), .unset] [(.int (4 : Int32)), (.int (5 : Int32))])) _
                refine XS.icmpNo X115.here hx rfl (hb hby at_257) rfl (tlt (by decide : (4 : Int32) < (5 : Int32))).2.2.2 ?_
                show Steps p.tables e below (T115.setTop (mkF m 260 #[.val (.int p1), .val (.int p2), .val (.int p3), .val (.int p4), .val (.int p5), .val (.long q6), .second, .val (.int x7), .val (.int x8), .val (.int x9), .val (.int x10), .val (.int x11), .val (.int (5 : Int32)), .val (.int x13), .val (.int v13), .val (.ref b103), .unset] [])) _
                refine XS.iload X115.here hx rfl (hb hby at_260) rfl ?_
                show Steps p.tables e below (T115.setTop (mkF m 262 #[.val (.int p1), .val (.int p2), .val (.int p3), .val (.int p4), .val (.int p5), .val (.long q6), .second, .val (.int x7), .val (.int x8), .val (.int x9), .val (.int x10), .val (.int x11), .val (.int (5 : Int32)), .val (.int x13), .val (.int v13), .val (.ref b103), .unset] [(.int v13)])) _
                refine XS.iload X115.here hx rfl (hb hby at_262) rfl ?_
                exact kt
              by_cases hc126 : v13 = x11
              · refine fun t kt => pre125 t ?_
                repeat rw [if_neg hc118] at kt
                repeat rw [if_neg hc120] at kt
                repeat rw [if_neg hc122] at kt
                repeat rw [if_neg hc124] at kt
                repeat rw [if_pos hc126] at kt
                show Steps p.tables e below (T115.setTop (mkF m 264 #[.val (.int p1), .val (.int p2), .val (.int p3), .val (.int p4), .val (.int p5), .val (.long q6), .second, .val (.int x7), .val (.int x8), .val (.int x9), .val (.int x10), .val (.int x11), .val (.int (5 : Int32)), .val (.int x13), .val (.int v13), .val (.ref b103), .unset] [(.int x11), (.int v13)])) _
                refine XS.icmpNo X115.here hx rfl (hb hby at_264) rfl (teq hc126).2 ?_
                show Steps p.tables e below (T115.setTop (mkF m 267 #[.val (.int p1), .val (.int p2), .val (.int p3), .val (.int p4), .val (.int p5), .val (.long q6), .second, .val (.int x7), .val (.int x8), .val (.int x9), .val (.int x10), .val (.int x11), .val (.int (5 : Int32)), .val (.int x13), .val (.int v13), .val (.ref b103), .unset] [])) _
                refine XS.iconst X115.here hx rfl (hb hby at_267) ?_
                show Steps p.tables e below (T115.setTop (mkF m 268 #[.val (.int p1), .val (.int p2), .val (.int p3), .val (.int p4), .val (.int p5), .val (.long q6), .second, .val (.int x7), .val (.int x8), .val (.int x9), .val (.int x10), .val (.int x11), .val (.int (5 : Int32)), .val (.int x13), .val (.int v13), .val (.ref b103), .unset] [(.int (1 : Int32))])) _
                refine XS.goto X115.here hx rfl (pc0 := 268) (pc' := 272) rfl (hb hby at_268) (by decide) (by decide) ?_
                exact kt
              · refine fun t kt => pre125 t ?_
                repeat rw [if_neg hc118] at kt
                repeat rw [if_neg hc120] at kt
                repeat rw [if_neg hc122] at kt
                repeat rw [if_neg hc124] at kt
                repeat rw [if_neg hc126] at kt
                show Steps p.tables e below (T115.setTop (mkF m 264 #[.val (.int p1), .val (.int p2), .val (.int p3), .val (.int p4), .val (.int p5), .val (.long q6), .second, .val (.int x7), .val (.int x8), .val (.int x9), .val (.int x10), .val (.int x11), .val (.int (5 : Int32)), .val (.int x13), .val (.int v13), .val (.ref b103), .unset] [(.int x11), (.int v13)])) _
                refine XS.icmpYes X115.here hx rfl (pc0 := 264) (pc' := 271) rfl (hb hby at_264) rfl (feq hc126).2 (by decide) (by decide) ?_
                show Steps p.tables e below (T115.setTop (mkF m 271 #[.val (.int p1), .val (.int p2), .val (.int p3), .val (.int p4), .val (.int p5), .val (.long q6), .second, .val (.int x7), .val (.int x8), .val (.int x9), .val (.int x10), .val (.int x11), .val (.int (5 : Int32)), .val (.int x13), .val (.int v13), .val (.ref b103), .unset] [])) _
                refine XS.iconst X115.here hx rfl (hb hby at_271) ?_
                exact kt
    obtain ⟨v128, hv128⟩ : ∃ z : Int32, z = (if v13 = x7 then (1 : Int32) else (if v13 = x8 then (1 : Int32) else (if v13 = x9 then (1 : Int32) else (if v13 = x10 then (1 : Int32) else (if v13 = x11 then (1 : Int32) else (0 : Int32)))))) := ⟨_, rfl⟩
    rw [← hv128] at pre127
    have z130 : n0 ≤ T115.heap.size := (Nat.le_trans z116 hs115)
    obtain ⟨cq129, kq129, iq129a, iq129b, iq129c⟩ := isOf hZ rfl Ee115
    obtain ⟨_, _, ⟨T129, L129, k129, n129⟩, -, X129, ⟨Lc129, hQ129, l129, y129, z129⟩, st129⟩ := X115.virtualBack hx (y := (⟨"com/example/krel/krel/saturation/AtomSet", "contains", "(I)Z"⟩ : MethodName)) (z := (⟨"com/example/krel/krel/saturation/AtomSet", "contains", "(I)Z"⟩ : MethodName)) hown (mvT hZ (hw _ (List.mem_of_getElem? (i := 15) rfl))) (mvT hZ (hw _ (List.mem_of_getElem? (i := 16) rfl))) (notFace_of_selects (args := #[]) (mvT hZ (hw _ (List.mem_of_getElem? (i := 18) rfl)))) (mvT hZ (hw _ (List.mem_of_getElem? (i := 18) rfl))) (mvT hZ (hw _ (List.mem_of_getElem? (i := 17) rfl))) (by decide) (backOf (W := 0) (rm90003 l Z a0 hw [] b103 v13 (own_ins (own_ins (own_ins (own_ins (own_ins [] x7) x8) x9) x10) x11) T115.heap n0 z130 A115 (side_0_pos278_6 p1 p2 p3 p4 p5 q6 x7 hx7 x8 hx8 x9 hx9 x10 hx10 x11 hx11 x12 hx12 x13 hx13 x14 hx14 v13 hv13 hk14 v128 hv128)) hZ (hw _ (List.mem_of_getElem? (i := 19) rfl)) (hw _ (List.mem_of_getElem? (i := 3) rfl)) (by decide) (by decide)) iq129a iq129c (g := (mkF m 278 #[.val (.int p1), .val (.int p2), .val (.int p3), .val (.int p4), .val (.int p5), .val (.long q6), .second, .val (.int x7), .val (.int x8), .val (.int x9), .val (.int x10), .val (.int x11), .val (.int (5 : Int32)), .val (.int x13), .val (.int v13), .val (.ref b103), .val (.int v128)] [(.int v13), (.ref b103)])) rfl (by rw [hml]; rfl) (Steps.refl _) (argsL := [(.int v13)]) (rest := []) (lenOf pd_0_1 rfl) rfl (by show 2 * 0 + _ ≤ _; exact Nat.le_of_eq rfl) (hb hby at_278) (fun _ _ => ⟨rfl, rfl, (by decide : 13 + 0 ≤ _), (by decide : 135 + 0 ≤ _)⟩)
    dsimp only [Pt.U, Pt.locs, Pt.cells, Pt.slots] at X129 l129 y129 z129 st129 hQ129
    subst l129 y129 z129
    obtain ⟨rfl, N129q, e129⟩ := hQ129
    have N129 := Fr.app N115 N129q
    have pre131 : ∀ t, Steps p.tables e below (T129.setTop (mkF m 283 #[.val (.int p1), .val (.int p2), .val (.int p3), .val (.int p4), .val (.int p5), .val (.long q6), .second, .val (.int x7), .val (.int x8), .val (.int x9), .val (.int x10), .val (.int x11), .val (.int (5 : Int32)), .val (.int x13), .val (.int v13), .val (.ref b103), .val (.int v128)] [(.int v128), (.int (if v13 ∈ (own_ins (own_ins (own_ins (own_ins (own_ins [] x7) x8) x9) x10) x11) then (1 : Int32) else (0 : Int32)))])) t → Steps p.tables e below (s₁.setTop (entryFrame m #[(.int p1), (.int p2), (.int p3), (.int p4), (.int p5), (.long q6)] maxLocals)) t := fun t kt => by
      refine pre127 t ?_
      show Steps p.tables e below (T115.setTop (mkF m 272 #[.val (.int p1), .val (.int p2), .val (.int p3), .val (.int p4), .val (.int p5), .val (.long q6), .second, .val (.int x7), .val (.int x8), .val (.int x9), .val (.int x10), .val (.int x11), .val (.int (5 : Int32)), .val (.int x13), .val (.int v13), .val (.ref b103), .unset] [(.int v128)])) _
      refine XS.istore X115.here hx rfl (hb hby at_272) rfl (l' := #[.val (.int p1), .val (.int p2), .val (.int p3), .val (.int p4), .val (.int p5), .val (.long q6), .second, .val (.int x7), .val (.int x8), .val (.int x9), .val (.int x10), .val (.int x11), .val (.int (5 : Int32)), .val (.int x13), .val (.int v13), .val (.ref b103), .val (.int v128)]) rfl ?_
      show Steps p.tables e below (T115.setTop (mkF m 274 #[.val (.int p1), .val (.int p2), .val (.int p3), .val (.int p4), .val (.int p5), .val (.long q6), .second, .val (.int x7), .val (.int x8), .val (.int x9), .val (.int x10), .val (.int x11), .val (.int (5 : Int32)), .val (.int x13), .val (.int v13), .val (.ref b103), .val (.int v128)] [])) _
      refine XS.aload X115.here hx rfl (hb hby at_274) rfl rfl ?_
      show Steps p.tables e below (T115.setTop (mkF m 276 #[.val (.int p1), .val (.int p2), .val (.int p3), .val (.int p4), .val (.int p5), .val (.long q6), .second, .val (.int x7), .val (.int x8), .val (.int x9), .val (.int x10), .val (.int x11), .val (.int (5 : Int32)), .val (.int x13), .val (.int v13), .val (.ref b103), .val (.int v128)] [(.ref b103)])) _
      refine XS.iload X115.here hx rfl (hb hby at_276) rfl ?_
      show Steps p.tables e below (T115.setTop (mkF m 278 #[.val (.int p1), .val (.int p2), .val (.int p3), .val (.int p4), .val (.int p5), .val (.long q6), .second, .val (.int x7), .val (.int x8), .val (.int x9), .val (.int x10), .val (.int x11), .val (.int (5 : Int32)), .val (.int x13), .val (.int v13), .val (.ref b103), .val (.int v128)] [(.int v13), (.ref b103)])) _
      refine st129.trans ?_
      show Steps p.tables e below (T129.setTop (mkF m 281 #[.val (.int p1), .val (.int p2), .val (.int p3), .val (.int p4), .val (.int p5), .val (.long q6), .second, .val (.int x7), .val (.int x8), .val (.int x9), .val (.int x10), .val (.int x11), .val (.int (5 : Int32)), .val (.int x13), .val (.int v13), .val (.ref b103), .val (.int v128)] [(.int (if v13 ∈ (own_ins (own_ins (own_ins (own_ins (own_ins [] x7) x8) x9) x10) x11) then (1 : Int32) else (0 : Int32)))])) _
      refine XS.iload X129.here hx rfl (hb hby at_281) rfl ?_
      exact kt
    by_cases hc132 : (if v13 ∈ (own_ins (own_ins (own_ins (own_ins (own_ins [] x7) x8) x9) x10) x11) then (1 : Int32) else (0 : Int32)) = v128
    · obtain ⟨fs, hr, hrun, hended, hW, hsame⟩ := X129.leave (v := some (.int (1 : Int32))) (fun h => by rw [Bd.returns] at h; cases h)
      refine ⟨_, _, pre131 _ ?_, hrun, hended, _, _, rfl, ?_, ⟨_, rfl⟩, hW, hsame.mono (by decide) (by decide)⟩
      · show Steps p.tables e below (T129.setTop (mkF m 283 #[.val (.int p1), .val (.int p2), .val (.int p3), .val (.int p4), .val (.int p5), .val (.long q6), .second, .val (.int x7), .val (.int x8), .val (.int x9), .val (.int x10), .val (.int x11), .val (.int (5 : Int32)), .val (.int x13), .val (.int v13), .val (.ref b103), .val (.int v128)] [(.int v128), (.int (if v13 ∈ (own_ins (own_ins (own_ins (own_ins (own_ins [] x7) x8) x9) x10) x11) then (1 : Int32) else (0 : Int32)))])) _
        refine XS.icmpNo X129.here hx rfl (hb hby at_283) rfl (teq hc132).2 ?_
        show Steps p.tables e below (T129.setTop (mkF m 286 #[.val (.int p1), .val (.int p2), .val (.int p3), .val (.int p4), .val (.int p5), .val (.long q6), .second, .val (.int x7), .val (.int x8), .val (.int x9), .val (.int x10), .val (.int x11), .val (.int (5 : Int32)), .val (.int x13), .val (.int v13), .val (.ref b103), .val (.int v128)] [])) _
        refine XS.iconst X129.here hx rfl (hb hby at_286) ?_
        show Steps p.tables e below (T129.setTop (mkF m 287 #[.val (.int p1), .val (.int p2), .val (.int p3), .val (.int p4), .val (.int p5), .val (.long q6), .second, .val (.int x7), .val (.int x8), .val (.int x9), .val (.int x10), .val (.int x11), .val (.int (5 : Int32)), .val (.int x13), .val (.int v13), .val (.ref b103), .val (.int v128)] [(.int (1 : Int32))])) _
        refine XS.goto X129.here hx rfl (pc0 := 287) (pc' := 291) rfl (hb hby at_287) (by decide) (by decide) ?_
        show Steps p.tables e below (T129.setTop (mkF m 291 #[.val (.int p1), .val (.int p2), .val (.int p3), .val (.int p4), .val (.int p5), .val (.long q6), .second, .val (.int x7), .val (.int x8), .val (.int x9), .val (.int x10), .val (.int x11), .val (.int (5 : Int32)), .val (.int x13), .val (.int v13), .val (.ref b103), .val (.int v128)] [(.int (1 : Int32))])) _
        exact retN X129 hx (t := .boolean) Bd.returns (by simp) (hb hby at_291) hr
      · show Q0 Z p1 p2 p3 p4 p5 q6 h0 n0 _ T129.heap _
        rw [e129]
        exact ⟨rfl, N129⟩
    · exact (leaf_0_12 p1 p2 p3 p4 p5 q6 x7 hx7 x8 hx8 x9 hx9 x10 hx10 x11 hx11 x12 hx12 x13 hx13 x14 hx14 v13 hv13 hk14 v128 hv128 hc132).elim
set_option maxRecDepth 65536 in
set_option maxHeartbeats 40000000 in
theorem comes_1 {Post : Tables → Env → Array Value → State → Outcome → State → Prop} (hpost : ∀ tb e args s v u, (limb_1_1.after args s (.returned v) u = true ∧ limb_1_2.after args s (.returned v) u = true ∧ True) → FrameEnd s (.returned v) u (Jvm.fieldLocs frame_1_writes args s ++ Jvm.arrayLocs frame_1_arrays args s ++ Jvm.staticLocs frame_1_statics s) 24 192 → Post tb e args s (.returned v) u) :
    ArmFor flags0 classFile x code maxLocals ret World_1 tables_1 room_1 Calls_1 rest_1 Pre_1 Post := by
  intro l hfl _ _ p e ha hc hk s m args below hf hA hF happ hP
  obtain ⟨hcalls, hrest, hpre⟩ := hP
  obtain ⟨-, -, -, hnamed, -, -, -, hat⟩ := (Spec.applies_iff hf).mp happ
  obtain ⟨hg, hn⟩ := and_e (Cond.before_iff.mp (show (Jvm.Cond.and given_1 narrow_1).before args s = true from hpre))
  obtain ⟨g1, g2⟩ := and_e hg
  obtain ⟨g3, g4⟩ := and_e g2
  obtain ⟨g5, g6⟩ := and_e g4
  obtain ⟨g7, g8⟩ := and_e g6
  obtain ⟨g9, g10⟩ := and_e g8
  obtain ⟨g11, g12⟩ := and_e g10
  obtain ⟨w0, w1, w2, w3, w4, w5, rfl⟩ : ∃ w0 w1 w2 w3 w4 w5 : Value, args = #[w0, w1, w2, w3, w4, w5] := by
    have hs : args.size = 6 := by simpa [Cond.value, given_1] using g1
    obtain ⟨L⟩ := args
    match L, hs with
    | [w0, w1, w2, w3, w4, w5], _ => exact ⟨w0, w1, w2, w3, w4, w5, rfl⟩
  have hw := fun d (hd : d ∈ tables_1) => atoms_spec (ws := Jvm.Cond.code x code maxLocals ret :: tables_1) hat d (List.mem_cons_of_mem _ hd)
  have hfit : Fit s := fun {y c} hc i hi => by
    obtain ⟨ha, rfl⟩ := Array.getElem?_eq_some_iff.mp hc
    have q := List.all_eq_true.mp ((Array.all_eq_true_iff_forall_mem.mp hF) _ (Array.getElem_mem ha)) i (List.mem_range.mpr hi)
    simpa [Array.getElem?_eq_getElem hi] using q
  obtain ⟨i0, ei0⟩ := is_v g3
  obtain rfl : w0 = (.int i0) := Option.some.inj ei0
  obtain ⟨i1, ei1⟩ := is_v g5
  obtain rfl : w1 = (.int i1) := Option.some.inj ei1
  obtain ⟨i2, ei2⟩ := is_v g7
  obtain rfl : w2 = (.int i2) := Option.some.inj ei2
  obtain ⟨i3, ei3⟩ := is_v g9
  obtain rfl : w3 = (.int i3) := Option.some.inj ei3
  obtain ⟨i4, ei4⟩ := is_v g11
  obtain rfl : w4 = (.int i4) := Option.some.inj ei4
  obtain ⟨i5, ei5⟩ := isL_v g12
  obtain rfl : w5 = (.long i5) := Option.some.inj ei5
  obtain ⟨n, o, h1, h2, h3, _, L, rfl, ⟨rfl, N⟩, hq⟩ := rm0 l s _ hw tables_1 i0 i1 i2 i3 i4 i5 s.heap s.heap.size (Nat.le_refl _) p e ha hc hk s m _ below hf ((Spec.applies_iff_loose hf).mp happ).1 ⟨rfl, State.Warmed39.refl s, rfl⟩ trivial
  refine ⟨n, _, h1, h2, h3, hpost _ _ _ _ _ _ ⟨Cond.after_iff.mpr rfl, Cond.after_iff.mpr (eq_i res_at (Term.int_eval (1)) rfl), trivial⟩ ⟨hq.1, hq.2.1, (hq.2.2.sift fun y hy => Or.inr (N y hy)).mono (by decide) (by decide)⟩⟩
theorem main_1_1 : Claimed_1_1 := comes_1 fun _ _ _ _ _ _ h hF => ⟨h.1, hF⟩
theorem main_1_2 : Claimed_1_2 := comes_1 fun _ _ _ _ _ _ h hF => ⟨h.2.1, hF⟩
end Jvm.Pilot.@@N@@
namespace Jvm.Pilot.@@N@@
open Jvm Jvm.ClassFile Sem Op Lib Jvm.Free Jvm.Stand Jvm.Pilot.@@N@@.Jvm.D
/-! MADE BY PROGRAM (witnessworld.py) out of the Statement's table words and the real class files: 12 classes; the members and pool entries that the words name. The judged class is class 1, her method 1. -/
namespace start1
open Jvm.ClassFile
def u (s : String) : CpInfo := .utf8 (stringToUtf16 s)
/-- a pool by its gaps: so many unusable entries, then the entry; so many at the end -/
def gap : Nat → List CpInfo → List CpInfo
  | 0, r => r
  | n + 1, r => .unusable :: gap n r
def poolList (es : List (Nat × CpInfo)) (last : Nat) : List CpInfo := es.foldr (fun e r => gap e.1 (e.2 :: r)) (gap last [])
def pool (es : List (Nat × CpInfo)) (last : Nat) : Array CpInfo := ⟨poolList es last⟩
def fileOf (pool : Array CpInfo) (this : Nat) (attrs : Array Attribute := #[]) (ms : Array MethodInfo := #[]) (fl : Nat := 33) (sup : Nat := 0) (ifs : Array Nat := #[]) (fds : Array FieldInfo := #[]) : ClassFile where
  minorVersion := 0
  majorVersion := 65
  constantPool := pool
  accessFlags := fl
  thisClass := this
  superClass := sup
  interfaces := ifs
  fields := fds
  methods := ms
  attributes := attrs
def plain (name : String) (sup : Option ClassId) : Class where
  name := name
  kind := .ordinary
  loader := none
  accessFlags := 33
  super := sup
  interfaces := #[]
  cf := none
  fields := #[]
  methods := #[]
  instanceTypes := #[]
  staticTypes := #[]
  resolved := #[]
  callSites := []
  init := .initialized
  statics := none
  mirror := none

def pool0 : Array CpInfo := pool [(5, u "<init>"), (0, u "()V"), (1, .class_ 10), (1, u "java/lang/Object")] 113

def k0c0 : Code := { maxStack := 0, maxLocals := 1, code := object_method_1_code, exceptionTable := #[], attributes := #[] }
def k0m0 : Method := { name := "<init>", desc := "()V", sig := { parameters := [], returnType := none }, accessFlags := 1, code := some k0c0 }
/-- java/lang/Object -/
def k0 : Class := { plain "java/lang/Object" none with
  accessFlags := 33
  interfaces := #[]
  cf := some (fileOf pool0 8 #[] #[{ accessFlags := 1, nameIndex := 5, descriptorIndex := 6, attributes := #[] }] 33 0 #[] #[])
  fields := #[]
  methods := #[k0m0]
  instanceTypes := #[]
  staticTypes := #[]
  resolved := Array.replicate 124 none
  statics := none }

def pool1 : Array CpInfo := pool [(2, .class_ 4), (0, .nameAndType 5 6), (0, u "java/lang/Object"), (0, u "<init>"), (0, u "()V"), (0, .integer 2147483647), (0, .class_ 9), (0, u "com/example/krel/krel/saturation/AtomSet"), (0, .methodref 8 3), (0, .methodref 8 12), (0, .nameAndType 13 14), (0, u "add"), (0, u "(I)Z"), (0, .methodref 8 16), (0, .nameAndType 17 14), (0, u "contains"), (0, .class_ 19), (0, u "com/example/krel/krel/saturation/AtomSetContainsPinLaw"), (2, u "law"), (0, u "(IIIIIJ)Z")] 3

def k1m0 : Method := { name := "<init>", desc := "()V", sig := { parameters := [], returnType := none }, accessFlags := 1, code := none }
def k1c1 : Code := { maxStack := 3, maxLocals := 17, code := code, exceptionTable := #[], attributes := #[] }
def k1m1 : Method := { name := "law", desc := "(IIIIIJ)Z", sig := { parameters := [.int, .int, .int, .int, .int, .long], returnType := some .boolean }, accessFlags := 9, code := some k1c1 }
/-- com/example/krel/krel/saturation/AtomSetContainsPinLaw -/
def k1 : Class := { plain "com/example/krel/krel/saturation/AtomSetContainsPinLaw" (some 0) with
  accessFlags := 49
  interfaces := #[]
  cf := some (fileOf pool1 18 #[] #[{ accessFlags := 1, nameIndex := 5, descriptorIndex := 6, attributes := #[] }, { accessFlags := 9, nameIndex := 22, descriptorIndex := 23, attributes := #[] }] 49 2 #[] #[])
  fields := #[]
  methods := #[k1m0, k1m1]
  instanceTypes := #[]
  staticTypes := #[]
  resolved := Array.replicate 27 none
  statics := none }

def pool2 : Array CpInfo := pool [(1, .methodref 2 3), (0, .class_ 4), (0, .nameAndType 5 6), (0, u "java/lang/Object"), (0, u "<init>"), (0, u "()V"), (0, .fieldref 8 9), (0, .class_ 10), (0, .nameAndType 11 12), (0, u "com/example/krel/krel/saturation/AtomSet"), (0, u "slots"), (0, u "[I"), (0, .fieldref 8 14), (0, .nameAndType 15 12), (0, u "atoms"), (0, .methodref 8 17), (0, .nameAndType 18 19), (0, u "slotOf"), (0, u "(I)I"), (0, .fieldref 8 21), (0, .nameAndType 22 23), (0, u "size"), (0, u "I"), (0, .methodref 25 26), (0, .class_ 27), (0, .nameAndType 28 29), (0, u "java/util/Arrays"), (0, u "copyOf"), (0, u "([II)[I"), (0, .methodref 8 31), (0, .nameAndType 32 33), (0, u "rehash"), (0, u "(I)V"), (0, .integer 2654435769), (2, u "add"), (0, u "(I)Z"), (1, u "contains")] 4

def k2c0 : Code := { maxStack := 2, maxLocals := 1, code := prog_40_method_1_code, exceptionTable := #[], attributes := #[] }
def k2m0 : Method := { name := "<init>", desc := "()V", sig := { parameters := [], returnType := none }, accessFlags := 0, code := some k2c0 }
def k2c1 : Code := { maxStack := 5, maxLocals := 3, code := prog_40_method_2_code, exceptionTable := #[], attributes := #[] }
def k2m1 : Method := { name := "add", desc := "(I)Z", sig := { parameters := [.int], returnType := some .boolean }, accessFlags := 0, code := some k2c1 }
def k2c2 : Code := { maxStack := 3, maxLocals := 2, code := prog_40_method_3_code, exceptionTable := #[], attributes := #[] }
def k2m2 : Method := { name := "contains", desc := "(I)Z", sig := { parameters := [.int], returnType := some .boolean }, accessFlags := 0, code := some k2c2 }
def k2c3 : Code := { maxStack := 3, maxLocals := 5, code := prog_40_method_6_code, exceptionTable := #[], attributes := #[] }
def k2m3 : Method := { name := "slotOf", desc := "(I)I", sig := { parameters := [.int], returnType := some .int }, accessFlags := 2, code := some k2c3 }
def k2c4 : Code := { maxStack := 4, maxLocals := 3, code := prog_40_method_7_code, exceptionTable := #[], attributes := #[] }
def k2m4 : Method := { name := "rehash", desc := "(I)V", sig := { parameters := [.int], returnType := none }, accessFlags := 2, code := some k2c4 }
/-- com/example/krel/krel/saturation/AtomSet -/
def k2 : Class := { plain "com/example/krel/krel/saturation/AtomSet" (some 0) with
  accessFlags := 32
  interfaces := #[]
  cf := some (fileOf pool2 8 #[] #[{ accessFlags := 0, nameIndex := 5, descriptorIndex := 6, attributes := #[] }, { accessFlags := 0, nameIndex := 37, descriptorIndex := 38, attributes := #[] }, { accessFlags := 0, nameIndex := 40, descriptorIndex := 38, attributes := #[] }, { accessFlags := 2, nameIndex := 18, descriptorIndex := 19, attributes := #[] }, { accessFlags := 2, nameIndex := 32, descriptorIndex := 33, attributes := #[] }] 32 2 #[] #[{ accessFlags := 2, nameIndex := 11, descriptorIndex := 12, attributes := #[] }, { accessFlags := 2, nameIndex := 15, descriptorIndex := 12, attributes := #[] }, { accessFlags := 2, nameIndex := 22, descriptorIndex := 23, attributes := #[] }])
  fields := #[{ name := "slots", type := (.array .int), accessFlags := 2, slot := 0, constantValue := 0 }, { name := "atoms", type := (.array .int), accessFlags := 2, slot := 1, constantValue := 0 }, { name := "size", type := .int, accessFlags := 2, slot := 2, constantValue := 0 }]
  methods := #[k2m0, k2m1, k2m2, k2m3, k2m4]
  instanceTypes := #[(.array .int), (.array .int), .int]
  staticTypes := #[]
  resolved := Array.replicate 45 none
  statics := none }

def pool3 : Array CpInfo := pool [(2, .class_ 4), (1, u "java/lang/Object"), (0, u "<init>"), (0, u "()V"), (7, .class_ 16), (1, u "java/util/Arrays"), (57, .class_ 76), (1, u "java/util/Arrays$NaturalOrder"), (36, .class_ 115), (1, u "java/util/Arrays$LegacyMergeSort"), (1, u "Z"), (32, .methodref 151 152), (0, .class_ 153), (0, .nameAndType 154 155), (0, u "java/lang/System"), (0, u "arraycopy"), (0, u "(Ljava/lang/Object;ILjava/lang/Object;II)V"), (146, u "copyOf"), (1, .methodref 305 306), (0, .class_ 307), (0, .nameAndType 308 309), (0, u "java/lang/Math"), (0, u "min"), (0, u "(II)I"), (65, .class_ 376), (0, u "java/util/Arrays$ArrayList"), (68, u "$assertionsDisabled"), (269, u "MIN_ARRAY_SORT_GRAN"), (0, u "I"), (2, u "INSERTIONSORT_THRESHOLD"), (151, u "([II)[I"), (103, .class_ 976), (0, u "java/util/Arrays$ArrayItr")] 52

def k3m0 : Method := { name := "<init>", desc := "()V", sig := { parameters := [], returnType := none }, accessFlags := 2, code := none }
def k3c1 : Code := { maxStack := 6, maxLocals := 3, code := jdk_65_method_123_code, exceptionTable := #[], attributes := #[] }
def k3m1 : Method := { name := "copyOf", desc := "([II)[I", sig := { parameters := [(.array .int), .int], returnType := some (.array .int) }, accessFlags := 9, code := some k3c1 }
/-- java/util/Arrays -/
def k3 : Class := { plain "java/util/Arrays" (some 0) with
  accessFlags := 49
  interfaces := #[]
  cf := some (fileOf pool3 14 #[.nestMembers #[975, 375, 113, 74]] #[{ accessFlags := 2, nameIndex := 5, descriptorIndex := 6, attributes := #[] }, { accessFlags := 9, nameIndex := 302, descriptorIndex := 871, attributes := #[] }] 49 2 #[] #[{ accessFlags := 26, nameIndex := 715, descriptorIndex := 716, attributes := #[] }, { accessFlags := 26, nameIndex := 719, descriptorIndex := 716, attributes := #[] }, { accessFlags := 4120, nameIndex := 445, descriptorIndex := 117, attributes := #[] }])
  fields := #[{ name := "MIN_ARRAY_SORT_GRAN", type := .int, accessFlags := 26, slot := 0, constantValue := 0 }, { name := "INSERTIONSORT_THRESHOLD", type := .int, accessFlags := 26, slot := 1, constantValue := 0 }, { name := "$assertionsDisabled", type := .boolean, accessFlags := 4120, slot := 2, constantValue := 0 }]
  methods := #[k3m0, k3m1]
  instanceTypes := #[]
  staticTypes := #[.int, .int, .boolean]
  resolved := Array.replicate 1029 none
  statics := none }

def pool4 : Array CpInfo := pool [(1, .class_ 2), (0, u "java/lang/Math"), (1, .class_ 6), (1, u "java/lang/Object"), (0, u "<init>"), (0, u "()V"), (89, .class_ 100), (1, u "java/lang/Math$RandomNumberGeneratorHolder"), (71, u "negativeZeroFloatBits"), (0, u "J"), (2, u "negativeZeroDoubleBits"), (24, u "min"), (43, u "$assertionsDisabled"), (0, u "Z"), (88, u "(II)I"), (2, u "twoToTheDoubleScaleDown"), (0, u "D"), (4, u "twoToTheDoubleScaleUp"), (9, u "E"), (3, u "PI"), (2, u "TAU"), (2, u "DEGREES_TO_RADIANS"), (0, u "RADIANS_TO_DEGREES")] 94

def k4m0 : Method := { name := "<init>", desc := "()V", sig := { parameters := [], returnType := none }, accessFlags := 2, code := none }
def k4c1 : Code := { maxStack := 2, maxLocals := 2, code := jdk_29_method_69_code, exceptionTable := #[], attributes := #[] }
def k4m1 : Method := { name := "min", desc := "(II)I", sig := { parameters := [.int, .int], returnType := some .int }, accessFlags := 9, code := some k4c1 }
/-- java/lang/Math -/
def k4 : Class := { plain "java/lang/Math" (some 0) with
  accessFlags := 49
  interfaces := #[]
  cf := some (fileOf pool4 1 #[.nestMembers #[98]] #[{ accessFlags := 2, nameIndex := 7, descriptorIndex := 8, attributes := #[] }, { accessFlags := 9, nameIndex := 201, descriptorIndex := 335, attributes := #[] }] 49 4 #[] #[{ accessFlags := 25, nameIndex := 354, descriptorIndex := 339, attributes := #[] }, { accessFlags := 25, nameIndex := 358, descriptorIndex := 339, attributes := #[] }, { accessFlags := 25, nameIndex := 361, descriptorIndex := 339, attributes := #[] }, { accessFlags := 26, nameIndex := 364, descriptorIndex := 339, attributes := #[] }, { accessFlags := 26, nameIndex := 365, descriptorIndex := 339, attributes := #[] }, { accessFlags := 26, nameIndex := 172, descriptorIndex := 173, attributes := #[] }, { accessFlags := 26, nameIndex := 176, descriptorIndex := 173, attributes := #[] }, { accessFlags := 8, nameIndex := 344, descriptorIndex := 339, attributes := #[] }, { accessFlags := 8, nameIndex := 338, descriptorIndex := 339, attributes := #[] }, { accessFlags := 4120, nameIndex := 245, descriptorIndex := 246, attributes := #[] }])
  fields := #[{ name := "E", type := .double, accessFlags := 25, slot := 0, constantValue := 0 }, { name := "PI", type := .double, accessFlags := 25, slot := 1, constantValue := 0 }, { name := "TAU", type := .double, accessFlags := 25, slot := 2, constantValue := 0 }, { name := "DEGREES_TO_RADIANS", type := .double, accessFlags := 26, slot := 3, constantValue := 0 }, { name := "RADIANS_TO_DEGREES", type := .double, accessFlags := 26, slot := 4, constantValue := 0 }, { name := "negativeZeroFloatBits", type := .long, accessFlags := 26, slot := 5, constantValue := 0 }, { name := "negativeZeroDoubleBits", type := .long, accessFlags := 26, slot := 6, constantValue := 0 }, { name := "twoToTheDoubleScaleUp", type := .double, accessFlags := 8, slot := 7, constantValue := 0 }, { name := "twoToTheDoubleScaleDown", type := .double, accessFlags := 8, slot := 8, constantValue := 0 }, { name := "$assertionsDisabled", type := .boolean, accessFlags := 4120, slot := 9, constantValue := 0 }]
  methods := #[k4m0, k4m1]
  instanceTypes := #[]
  staticTypes := #[.double, .double, .double, .double, .double, .long, .long, .double, .double, .boolean]
  resolved := Array.replicate 460 none
  statics := none }

def pool5 : Array CpInfo := pool [(2, .class_ 4), (1, u "java/lang/Object"), (0, u "<init>"), (0, u "()V"), (1, .class_ 10), (1, u "java/lang/System"), (0, u "allowSecurityManager"), (0, u "I"), (16, u "cons"), (0, u "Ljava/io/Console;"), (77, .class_ 110), (1, u "java/lang/System$CallersHolder"), (43, u "initialErrStream"), (0, u "Ljava/io/PrintStream;"), (19, u "security"), (0, u "Ljava/lang/SecurityManager;"), (31, .class_ 209), (0, u "java/lang/System$1"), (7, u "props"), (0, u "Ljava/util/Properties;"), (2, u "lineSeparator"), (0, u "Ljava/lang/String;"), (96, .class_ 321), (1, u "java/lang/System$LoggerFinder"), (5, .class_ 328), (0, u "java/lang/System$Logger"), (67, u "err"), (2, u "out"), (91, u "notSupportedJnuEncoding"), (15, u "in"), (17, u "initialIn"), (0, u "Ljava/io/InputStream;"), (35, u "bootLayer"), (0, u "Ljava/lang/ModuleLayer;"), (99, .class_ 664), (0, u "java/lang/System$2"), (9, u "NEVER"), (2, u "MAYBE"), (49, u "arraycopy"), (0, u "(Ljava/lang/Object;ILjava/lang/Object;II)V"), (72, .class_ 802), (0, u "java/lang/System$Logger$Level")] 31

def k5m0 : Method := { name := "<init>", desc := "()V", sig := { parameters := [], returnType := none }, accessFlags := 2, code := none }
def k5m1 : Method := { name := "arraycopy", desc := "(Ljava/lang/Object;ILjava/lang/Object;II)V", sig := { parameters := [(.object "java/lang/Object"), .int, (.object "java/lang/Object"), .int, .int], returnType := none }, accessFlags := 265, code := none }
/-- java/lang/System -/
def k5 : Class := { plain "java/lang/System" (some 0) with
  accessFlags := 49
  interfaces := #[]
  cf := some (fileOf pool5 8 #[.nestMembers #[319, 327, 801, 108, 663, 208]] #[{ accessFlags := 2, nameIndex := 5, descriptorIndex := 6, attributes := #[] }, { accessFlags := 265, nameIndex := 727, descriptorIndex := 728, attributes := #[] }] 49 2 #[] #[{ accessFlags := 25, nameIndex := 507, descriptorIndex := 526, attributes := #[] }, { accessFlags := 25, nameIndex := 399, descriptorIndex := 155, attributes := #[] }, { accessFlags := 25, nameIndex := 396, descriptorIndex := 155, attributes := #[] }, { accessFlags := 10, nameIndex := 525, descriptorIndex := 526, attributes := #[] }, { accessFlags := 26, nameIndex := 674, descriptorIndex := 12, attributes := #[] }, { accessFlags := 26, nameIndex := 677, descriptorIndex := 12, attributes := #[] }, { accessFlags := 10, nameIndex := 11, descriptorIndex := 12, attributes := #[] }, { accessFlags := 74, nameIndex := 175, descriptorIndex := 176, attributes := #[] }, { accessFlags := 10, nameIndex := 491, descriptorIndex := 222, attributes := #[] }, { accessFlags := 74, nameIndex := 29, descriptorIndex := 30, attributes := #[] }, { accessFlags := 74, nameIndex := 154, descriptorIndex := 155, attributes := #[] }, { accessFlags := 10, nameIndex := 217, descriptorIndex := 218, attributes := #[] }, { accessFlags := 10, nameIndex := 221, descriptorIndex := 222, attributes := #[] }, { accessFlags := 8, nameIndex := 562, descriptorIndex := 563, attributes := #[] }])
  fields := #[{ name := "in", type := (.object "java/io/InputStream"), accessFlags := 25, slot := 0, constantValue := 0 }, { name := "out", type := (.object "java/io/PrintStream"), accessFlags := 25, slot := 1, constantValue := 0 }, { name := "err", type := (.object "java/io/PrintStream"), accessFlags := 25, slot := 2, constantValue := 0 }, { name := "initialIn", type := (.object "java/io/InputStream"), accessFlags := 10, slot := 3, constantValue := 0 }, { name := "NEVER", type := .int, accessFlags := 26, slot := 4, constantValue := 0 }, { name := "MAYBE", type := .int, accessFlags := 26, slot := 5, constantValue := 0 }, { name := "allowSecurityManager", type := .int, accessFlags := 10, slot := 6, constantValue := 0 }, { name := "security", type := (.object "java/lang/SecurityManager"), accessFlags := 74, slot := 7, constantValue := 0 }, { name := "notSupportedJnuEncoding", type := (.object "java/lang/String"), accessFlags := 10, slot := 8, constantValue := 0 }, { name := "cons", type := (.object "java/io/Console"), accessFlags := 74, slot := 9, constantValue := 0 }, { name := "initialErrStream", type := (.object "java/io/PrintStream"), accessFlags := 74, slot := 10, constantValue := 0 }, { name := "props", type := (.object "java/util/Properties"), accessFlags := 10, slot := 11, constantValue := 0 }, { name := "lineSeparator", type := (.object "java/lang/String"), accessFlags := 10, slot := 12, constantValue := 0 }, { name := "bootLayer", type := (.object "java/lang/ModuleLayer"), accessFlags := 8, slot := 13, constantValue := 0 }]
  methods := #[k5m0, k5m1]
  instanceTypes := #[]
  staticTypes := #[(.object "java/io/InputStream"), (.object "java/io/PrintStream"), (.object "java/io/PrintStream"), (.object "java/io/InputStream"), .int, .int, .int, (.object "java/lang/SecurityManager"), (.object "java/lang/String"), (.object "java/io/Console"), (.object "java/io/PrintStream"), (.object "java/util/Properties"), (.object "java/lang/String"), (.object "java/lang/ModuleLayer")]
  resolved := Array.replicate 834 none
  statics := none }

def pool6 : Array CpInfo := pool [(1, u "java/lang/Cloneable"), (0, .class_ 1), (0, u "java/lang/Object"), (0, .class_ 3)] 3

/-- java/lang/Cloneable -/
def k6 : Class := { plain "java/lang/Cloneable" (some 0) with
  accessFlags := 1537
  interfaces := #[]
  cf := some (fileOf pool6 2 #[] #[] 1537 4 #[] #[])
  fields := #[]
  methods := #[]
  instanceTypes := #[]
  staticTypes := #[]
  resolved := Array.replicate 8 none
  statics := none }

def pool7 : Array CpInfo := pool [(1, u "java/io/Serializable"), (0, .class_ 1), (0, u "java/lang/Object"), (0, .class_ 3)] 3

/-- java/io/Serializable -/
def k7 : Class := { plain "java/io/Serializable" (some 0) with
  accessFlags := 1537
  interfaces := #[]
  cf := some (fileOf pool7 2 #[] #[] 1537 4 #[] #[])
  fields := #[]
  methods := #[]
  instanceTypes := #[]
  staticTypes := #[]
  resolved := Array.replicate 8 none
  statics := none }

/-- the primitive byte -/
def k8 : Class := { plain "byte" none with kind := .primitive 'B', accessFlags := 0x411 }
/-- [B -/
def k9 : Class := { plain "[B" (some 0) with kind := .array 8 .byte, interfaces := #[6, 7], accessFlags := 1041 }

/-- the primitive int -/
def k10 : Class := { plain "int" none with kind := .primitive 'I', accessFlags := 0x411 }
/-- [I -/
def k11 : Class := { plain "[I" (some 0) with kind := .array 10 .int, interfaces := #[6, 7], accessFlags := 1041 }

def heap : Heap := #[]
def classes : Array Class := #[k0, k1, k2, k3, k4, k5, k6, k7, k8, k9, k10, k11]
def interned : List (Array UInt16 × Addr) := []
def slotsUsed : Nat := 0
def theMethod : MethodId := ⟨1, 1⟩
def args0 : Array Value := #[.int 5, .int 6, .int 7, .int 8, .int 9, .long 3]
def aboutOver (below : List Frame) : State where
  vm := { classes := classes, interned := interned.toArray }
  heap := heap
  slotsUsed := slotsUsed
  threads := #[{ frames := .invoking theMethod args0 :: below }]
def below0 : List Frame := [.native { method := ⟨0, 0⟩, args := #[] }]
def about1 : State := aboutOver below0
def p0 : Program := .bare "" "" ""
def e0 : Env := launch0.env 0 0 0
theorem w_frames : about1.frames = Frame.invoking theMethod args0 :: below0 := rfl
set_option maxRecDepth 65536 in
theorem w_args : argsFit about1.vm theMethod args0 = true := by decide +kernel
set_option maxRecDepth 65536 in
theorem w_heap : heapFits about1 = true := by decide +kernel
set_option maxRecDepth 65536 in
theorem w_runnable : about1.curStatus? = some .runnable := by decide +kernel
set_option maxRecDepth 65536 in
theorem w_alone : about1.alone = true := by decide +kernel
set_option maxRecDepth 65536 in
theorem w_named : about1.methodNamed? x = some theMethod := by decide +kernel
set_option maxRecDepth 65536 in
theorem w_hears : about1.hears theMethod below0 = true := by decide +kernel
set_option maxRecDepth 65536 in
theorem w_ripe : about1.ripe theMethod args0 below0 = true := by decide +kernel
theorem w_running : about1.status = .running := rfl
set_option maxRecDepth 65536 in
theorem w_room : about1.hasRoom e0.platform room_1 = true :=
  launch0.hasRoom_least _ room_1 (by decide +kernel) (by decide +kernel) (by decide +kernel) (by decide +kernel) (by decide +kernel) (by decide +kernel)
theorem allAtoms_all (ts : List Jvm.Cond) (a : Array Jvm.Value) (st : Jvm.State) : (allAtoms ts).before a st = ts.all (fun c => c.before a st) := by
  induction ts with
  | nil => rfl
  | cons c t ih =>
    show (Jvm.Cond.and c (allAtoms t)).before a st = _
    rw [Jvm.Cond.before_and, ih, List.all_cons]
def words1 : List Jvm.Cond := Jvm.Cond.code x code maxLocals ret :: tables_1
/-- a 'code' word, met by the world's own term for the bytes: nothing is compared byte by byte -/
theorem code_word {y : MethodName} {bytes : ByteArray} {mx : Nat} {rt : Option FieldType} {a : Array Value} {s : State} {m : MethodId} {meth : Method} {c : Code} (h1 : s.methodNamed? y = some m) (h2 : s.vm.method? m = some meth) (h3 : meth.code = some c) (h4 : c.code = bytes)
    (h5 : (c.maxLocals == mx && c.exceptionTable.isEmpty && decide (c.maxStack ≤ mostOperands) && decide (meth.sig.returnType = rt) && !meth.locks && decide (parseMethodDescriptor y.desc = some meth.sig)) = true) : (Jvm.Cond.code y bytes mx rt).before a s = true := by
  simp only [Bool.and_eq_true, beq_iff_eq, Bool.not_eq_true', decide_eq_true_eq] at h5
  obtain ⟨⟨⟨⟨⟨g1, g2⟩, g3⟩, g4⟩, g5⟩, g6⟩ := h5
  simp [Cond.before, Cond.holds, Cond.value, h1, h2, h3, h4, g1, g2, g3, g4, g5, g6]
def isCode : Jvm.Cond → Bool
  | .code _ _ _ _ => true
  | _ => false
theorem all_split {L : List Jvm.Cond} {P : Jvm.Cond → Bool} (h1 : L.all (fun c => isCode c || P c) = true) (h2 : ∀ c ∈ L.filter isCode, P c = true) : L.all P = true := by
  refine List.all_eq_true.mpr fun c hc => ?_
  have h := List.all_eq_true.mp h1 c hc
  rcases Bool.eq_false_or_eq_true (isCode c) with hi | hi
  · exact h2 c (List.mem_filter.mpr ⟨hc, hi⟩)
  · simpa [hi] using h
set_option maxRecDepth 65536 in
theorem w_c0 : (Jvm.Cond.code x code maxLocals ret).before args0 about1 = true := code_word (m := ⟨1, 1⟩) (meth := k1m1) (c := k1c1) (by decide +kernel) rfl rfl rfl (by decide +kernel)
set_option maxRecDepth 65536 in
theorem w_c1 : (Jvm.Cond.code ({ cls := "com/example/krel/krel/saturation/AtomSet", name := "<init>", desc := "()V" } : Jvm.MethodName) prog_40_method_1_code (1 : Nat) (Option.none : Option Jvm.ClassFile.FieldType)).before args0 about1 = true := code_word (m := ⟨2, 0⟩) (meth := k2m0) (c := k2c0) (by decide +kernel) rfl rfl rfl (by decide +kernel)
set_option maxRecDepth 65536 in
theorem w_c2 : (Jvm.Cond.code ({ cls := "java/lang/Object", name := "<init>", desc := "()V" } : Jvm.MethodName) object_method_1_code (1 : Nat) (Option.none : Option Jvm.ClassFile.FieldType)).before args0 about1 = true := code_word (m := ⟨0, 0⟩) (meth := k0m0) (c := k0c0) (by decide +kernel) rfl rfl rfl (by decide +kernel)
set_option maxRecDepth 65536 in
theorem w_c3 : (Jvm.Cond.code ({ cls := "com/example/krel/krel/saturation/AtomSet", name := "contains", desc := "(I)Z" } : Jvm.MethodName) prog_40_method_3_code (2 : Nat) (Option.some Jvm.ClassFile.FieldType.boolean)).before args0 about1 = true := code_word (m := ⟨2, 2⟩) (meth := k2m2) (c := k2c2) (by decide +kernel) rfl rfl rfl (by decide +kernel)
set_option maxRecDepth 65536 in
theorem w_c4 : (Jvm.Cond.code ({ cls := "com/example/krel/krel/saturation/AtomSet", name := "slotOf", desc := "(I)I" } : Jvm.MethodName) prog_40_method_6_code (5 : Nat) (Option.some Jvm.ClassFile.FieldType.int)).before args0 about1 = true := code_word (m := ⟨2, 3⟩) (meth := k2m3) (c := k2c3) (by decide +kernel) rfl rfl rfl (by decide +kernel)
set_option maxRecDepth 65536 in
theorem w_c5 : (Jvm.Cond.code ({ cls := "com/example/krel/krel/saturation/AtomSet", name := "add", desc := "(I)Z" } : Jvm.MethodName) prog_40_method_2_code (3 : Nat) (Option.some Jvm.ClassFile.FieldType.boolean)).before args0 about1 = true := code_word (m := ⟨2, 1⟩) (meth := k2m1) (c := k2c1) (by decide +kernel) rfl rfl rfl (by decide +kernel)
set_option maxRecDepth 65536 in
theorem w_c6 : (Jvm.Cond.code ({ cls := "java/util/Arrays", name := "copyOf", desc := "([II)[I" } : Jvm.MethodName) jdk_65_method_123_code (3 : Nat) (Option.some (Jvm.ClassFile.FieldType.array Jvm.ClassFile.FieldType.int))).before args0 about1 = true := code_word (m := ⟨3, 1⟩) (meth := k3m1) (c := k3c1) (by decide +kernel) rfl rfl rfl (by decide +kernel)
set_option maxRecDepth 65536 in
theorem w_c7 : (Jvm.Cond.code ({ cls := "java/lang/Math", name := "min", desc := "(II)I" } : Jvm.MethodName) jdk_29_method_69_code (2 : Nat) (Option.some Jvm.ClassFile.FieldType.int)).before args0 about1 = true := code_word (m := ⟨4, 1⟩) (meth := k4m1) (c := k4c1) (by decide +kernel) rfl rfl rfl (by decide +kernel)
set_option maxRecDepth 65536 in
theorem w_c8 : (Jvm.Cond.code ({ cls := "com/example/krel/krel/saturation/AtomSet", name := "rehash", desc := "(I)V" } : Jvm.MethodName) prog_40_method_7_code (3 : Nat) (Option.none : Option Jvm.ClassFile.FieldType)).before args0 about1 = true := code_word (m := ⟨2, 4⟩) (meth := k2m4) (c := k2c4) (by decide +kernel) rfl rfl rfl (by decide +kernel)
def codes1 : List Jvm.Cond := [Jvm.Cond.code x code maxLocals ret, Jvm.Cond.code ({ cls := "com/example/krel/krel/saturation/AtomSet", name := "<init>", desc := "()V" } : Jvm.MethodName) prog_40_method_1_code (1 : Nat) (Option.none : Option Jvm.ClassFile.FieldType), Jvm.Cond.code ({ cls := "java/lang/Object", name := "<init>", desc := "()V" } : Jvm.MethodName) object_method_1_code (1 : Nat) (Option.none : Option Jvm.ClassFile.FieldType), Jvm.Cond.code ({ cls := "com/example/krel/krel/saturation/AtomSet", name := "contains", desc := "(I)Z" } : Jvm.MethodName) prog_40_method_3_code (2 : Nat) (Option.some Jvm.ClassFile.FieldType.boolean), Jvm.Cond.code ({ cls := "com/example/krel/krel/saturation/AtomSet", name := "slotOf", desc := "(I)I" } : Jvm.MethodName) prog_40_method_6_code (5 : Nat) (Option.some Jvm.ClassFile.FieldType.int), Jvm.Cond.code ({ cls := "com/example/krel/krel/saturation/AtomSet", name := "add", desc := "(I)Z" } : Jvm.MethodName) prog_40_method_2_code (3 : Nat) (Option.some Jvm.ClassFile.FieldType.boolean), Jvm.Cond.code ({ cls := "java/util/Arrays", name := "copyOf", desc := "([II)[I" } : Jvm.MethodName) jdk_65_method_123_code (3 : Nat) (Option.some (Jvm.ClassFile.FieldType.array Jvm.ClassFile.FieldType.int)), Jvm.Cond.code ({ cls := "java/lang/Math", name := "min", desc := "(II)I" } : Jvm.MethodName) jdk_29_method_69_code (2 : Nat) (Option.some Jvm.ClassFile.FieldType.int), Jvm.Cond.code ({ cls := "com/example/krel/krel/saturation/AtomSet", name := "rehash", desc := "(I)V" } : Jvm.MethodName) prog_40_method_7_code (3 : Nat) (Option.none : Option Jvm.ClassFile.FieldType)]
set_option maxRecDepth 65536 in
theorem codes_eq : words1.filter isCode = codes1 := rfl
theorem w_codes : ∀ c ∈ words1.filter isCode, c.before args0 about1 = true := by
  rw [codes_eq]
  intro c hc
  simp only [codes1, List.mem_cons, List.not_mem_nil, or_false] at hc
  rcases hc with rfl | rfl | rfl | rfl | rfl | rfl | rfl | rfl | rfl
  · exact w_c0
  · exact w_c1
  · exact w_c2
  · exact w_c3
  · exact w_c4
  · exact w_c5
  · exact w_c6
  · exact w_c7
  · exact w_c8
set_option maxRecDepth 65536 in
theorem w_t1 : (words1.take 24).all (fun c => isCode c || c.before args0 about1) = true := by decide +kernel
set_option maxRecDepth 65536 in
theorem w_t2 : ((words1.drop 24).take 24).all (fun c => isCode c || c.before args0 about1) = true := by decide +kernel
set_option maxRecDepth 65536 in
theorem w_t3 : ((words1.drop 24).drop 24).all (fun c => isCode c || c.before args0 about1) = true := by decide +kernel
theorem w_tables : (allAtoms (Jvm.Cond.code x code maxLocals ret :: tables_1)).before args0 about1 = true := by
  rw [allAtoms_all]
  show words1.all (fun c => c.before args0 about1) = true
  refine all_split ?_ w_codes
  rw [← List.take_append_drop 24 words1, List.all_append, w_t1, ← List.take_append_drop 24 (words1.drop 24), List.all_append, w_t2, w_t3]
  rfl
set_option maxRecDepth 65536 in
theorem w_case : (Jvm.Cond.and given_1 narrow_1).before args0 about1 = true := by decide +kernel
theorem w_applies : (headSpec (Jvm.Cond.code x code maxLocals ret :: tables_1) room_1).applies x e0.platform about1 = true :=
  (Spec.applies_iff w_frames).mpr ⟨w_running, w_runnable, w_alone, w_named, w_hears, w_ripe, w_room, w_tables⟩
theorem atStart : AtStart classFile x code maxLocals ret World_1 tables_1 room_1 Calls_1 rest_1 Pre_1 launch0 p0 e0 about1 theMethod args0 below0 :=
  ⟨lists_1, trivial, launch0.admits_env _ _ _, launch0.least_env, fairChoices_fair.cas, fairChoices_fair.clock, w_frames, w_args, w_heap, w_applies, trivial, trivial, w_case⟩
end start1
theorem witness_1 : WitnessClaimed_1 := ⟨start1.p0, start1.e0, start1.about1, start1.theMethod, start1.args0, start1.below0, start1.atStart⟩
end Jvm.Pilot.@@N@@
