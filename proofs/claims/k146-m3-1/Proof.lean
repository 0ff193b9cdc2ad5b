import JvmDerived
import JvmDerived.Pilot.@@N@@Statement
import JvmDerived.Pilot.@@N@@Code
set_option linter.unusedVariables false
set_option linter.unusedSimpArgs false
namespace Jvm.Pilot.@@N@@
open Jvm Jvm.ClassFile Sem Op Lib Jvm.Free Jvm.Stand Jvm.LawKit Jvm.RoadKit Bundle Jvm.Pilot.@@N@@.Jvm.D
/-! ## own kit, part 0: words, small numbers -/
theorem wd {a0 : Array Value} {Z : State} (hw : ∀ d ∈ tables_1, d.before a0 Z = true) (k : Nat) {d : Jvm.Cond} (h : tables_1[k]? = some d) : d.before a0 Z = true := hw d (List.mem_of_getElem? h)
theorem own_hn {fs : List (String × String × String × Value)} {nm : List String} {j : Nat} {f : String × String × String × Value} (hj : fs[j]? = some f) (h : fs.map (fun z => z.2.1) = nm) (hN : nm.Nodup) : ∀ i f', fs[i]? = some f' → i ≠ j → f'.2.1 ≠ f.2.1 := fun i f' hi q e => by
  subst h
  have a1 : (fs.map (fun z => z.2.1))[i]? = some f'.2.1 := by rw [List.getElem?_map, hi]; rfl
  have a2 : (fs.map (fun z => z.2.1))[j]? = some f.2.1 := by rw [List.getElem?_map, hj]; rfl
  obtain ⟨l1, e1⟩ := List.getElem?_eq_some_iff.mp a1
  obtain ⟨l2, e2⟩ := List.getElem?_eq_some_iff.mp a2
  exact q ((List.getElem_inj hN).mp (e1.trans (e.trans e2.symm)))
theorem own_fld {args : Array Value} {s : State} {t b : Term} {C n d : String} {v : Value} {a : Addr} (ev : t.eval args s none [] s = some (.ref a)) (hb : b.eval args s none [] s = some v) (h : (Jvm.Cond.eq (Term.field t C n d) b).value args s none s [] = some true) : Fld s s.heap a C n d v := by
  have e := fld_at (C := C) (n := n) (dd := d) ev
  cases hf : s.fieldOf? a C n d with
  | none => rw [hf] at e; simp [Cond.value, e] at h
  | some w =>
    rw [hf] at e
    have : w = v := by
      cases w <;> cases v <;> simp [Cond.value, e, hb] at h ⊢ <;> exact h
    subst this
    exact Fld.start hf
theorem own_rem (x k : Int32) (hk : 0 < k.toInt) : 0 ≤ ((x &&& 2147483647) % k).toInt ∧ ((x &&& 2147483647) % k).toInt < k.toInt := by
  have h := (c_andS x 2147483647).2.2 (by decide)
  rw [Int32.toInt_mod]
  exact ⟨Int.tmod_nonneg _ h, Int.tmod_lt_of_pos _ hk⟩
theorem own_mask (x m : Int32) (hm : 0 ≤ m.toInt) : 0 ≤ (x &&& m).toInt ∧ (x &&& m).toInt ≤ m.toInt := by
  have h1 := (c_andS x m).2.2 hm
  refine ⟨h1, ?_⟩
  have q : (x &&& m).toBitVec.toNat ≤ m.toBitVec.toNat := by rw [Int32.toBitVec_and, BitVec.toNat_and]; exact Nat.and_le_right
  change 0 ≤ m.toBitVec.toInt at hm
  change 0 ≤ (x &&& m).toBitVec.toInt at h1
  show (x &&& m).toBitVec.toInt ≤ m.toBitVec.toInt
  rw [BitVec.toInt_eq_toNat_cond] at hm h1 ⊢
  rw [BitVec.toInt_eq_toNat_cond (x := m.toBitVec)]
  split at hm <;> split at h1 <;> split <;> omega
theorem own_nz {x : Int32} (h : x = 0 ∨ x = 1) : narrow .boolean (.int x) = .int x ∧ fits .boolean (.int x) = true := by rcases h with rfl | rfl <;> exact ⟨rfl, rfl⟩
theorem own_b01 {c : Prop} [Decidable c] {b : Int32} (h : b = if c then 0 else 1) : b = 0 ∨ b = 1 := by subst h; split <;> simp
theorem own_cat {v : Value} (h : v.isRef = true) : v.category = 1 := by cases v <;> first | rfl | cases h
/-! ## own kit, part 1: objects of the law's own heap -/
abbrev OFld := String × String × String × Value
abbrev OObj := (String × List OFld) ⊕ (String × FieldType × List Value)
abbrev OHp := List (Addr × OObj)
abbrev ob (C : String) (fs : List OFld) : OObj := Sum.inl (C, fs)
abbrev ar (D : String) (ty : FieldType) (vs : List Value) : OObj := Sum.inr (D, ty, vs)
def OKo (Z : State) (a0 : Array Value) (h : Heap) (a : Addr) (C : String) (fs : List OFld) : Prop := Exa Z h a C ∧ ∀ f ∈ fs, Laid Z a0 C f.1 f.2.1 f.2.2.1 ∧ (∃ t, parseFieldDescriptor f.2.2.1 = some t) ∧ Fld Z h a f.1 f.2.1 f.2.2.1 f.2.2.2
def OKa (Z : State) (h : Heap) (a : Addr) (D : String) (ty : FieldType) (vs : List Value) : Prop := ∃ c : Cell, Arr Z h a c ty ∧ c.slots = vs.toArray ∧ vs.length < 2 ^ 31 ∧ Z.vm.findClass D = some c.cls ∧ ∀ v ∈ vs, fits ty v = true
def OK (Z : State) (a0 : Array Value) (h : Heap) (a : Addr) (o : OObj) : Prop := match o with
  | .inl (C, fs) => OKo Z a0 h a C fs
  | .inr (D, ty, vs) => OKa Z h a D ty vs
def Hp (Z : State) (a0 : Array Value) (h0 hS : Heap) (ws : List Addr) (h : Heap) (H : OHp) : Prop :=
  Ext h0 h ∧ Keep hS h ws ∧ (∀ (i : Nat) (x : Addr × OObj), H[i]? = some x → h0.size ≤ x.1 ∧ (x.1 ∈ ws ∨ hS.size ≤ x.1) ∧ OK Z a0 h x.1 x.2) ∧ ∀ (i j : Nat) (x y : Addr × OObj), H[i]? = some x → H[j]? = some y → x.1 = y.1 → i = j
section Own
variable {Z : State} {a0 : Array Value} {h0 hS h h' : Heap} {ws : List Addr} {H : OHp} {a : Addr} {o : OObj} {C D O n d : String} {fs : List OFld} {ty : FieldType} {vs : List Value} {v : Value}
theorem OKa.exa (A : OKa Z h a D ty vs) : Exa Z h a D := by
  obtain ⟨c, A, -, -, hf, -⟩ := A
  obtain ⟨-, k, hk, comp, hkind⟩ := A.2.1
  exact ⟨c, k, A.1, hf, hk, A.plain, fun q => by rw [hkind] at q; cases q⟩
theorem OK.lt (A : OK Z a0 h a o) : a < h.size := by
  rcases o with ⟨C, fs⟩ | ⟨D, ty, vs⟩
  · exact A.1.lt
  · obtain ⟨c, A, -⟩ := A; exact A.lt
theorem OK.ext (A : OK Z a0 h a o) (E : Ext h h') : OK Z a0 h' a o := by
  rcases o with ⟨C, fs⟩ | ⟨D, ty, vs⟩
  · exact ⟨A.1.ext E, fun f hf => ⟨(A.2 f hf).1, (A.2 f hf).2.1, (A.2 f hf).2.2.ext E⟩⟩
  · obtain ⟨c, A, r⟩ := A; exact ⟨c, A.ext E, r⟩
theorem OK.keep {us : List Addr} (A : OK Z a0 h a o) (K : Keep h h' us) (q : a ∉ us) : OK Z a0 h' a o := by
  rcases o with ⟨C, fs⟩ | ⟨D, ty, vs⟩
  · exact ⟨A.1.keep K, fun f hf => ⟨(A.2 f hf).1, (A.2 f hf).2.1, (A.2 f hf).2.2.keep K q⟩⟩
  · obtain ⟨c, A, r⟩ := A; exact ⟨c, ⟨K.2.1 a c A.1 q, A.2⟩, r⟩
theorem OKo.put {j : Nat} (A : OKo Z a0 h a C fs) {w : Value} (hj : fs[j]? = some (O, n, d, w)) (hn : ∀ i f, fs[i]? = some f → i ≠ j → f.2.1 ≠ n) (W : Wr h h' a (Jvm.RoadKit.slotOf Z O n d) v) : OKo Z a0 h' a C (fs.set j (O, n, d, v)) := by
  obtain ⟨E, F⟩ := A
  refine ⟨E.wr W, fun f hf => ?_⟩
  obtain ⟨i, hi⟩ := List.mem_iff_getElem?.mp hf
  obtain ⟨l1, ⟨t1, p1⟩, f1⟩ := F _ (List.mem_of_getElem? hj)
  rw [List.getElem?_set] at hi
  by_cases q : j = i
  · subst q
    have hlt : j < fs.length := (List.getElem?_eq_some_iff.mp hj).1
    simp only [if_true, hlt] at hi
    cases hi
    exact ⟨l1, ⟨t1, p1⟩, f1.same W⟩
  · rw [if_neg q] at hi
    obtain ⟨l2, ⟨t2, p2⟩, f2⟩ := F _ (List.mem_of_getElem? hi)
    exact ⟨l2, ⟨t2, p2⟩, f2.other W (Or.inr (slot_ne l2 l1 (hn i f hi (Ne.symm q)) p2 p1))⟩
theorem OKa.store {j : Nat} (A : OKa Z h a D ty vs) (W : Wr h h' a j v) (hv : fits ty v = true) : OKa Z h' a D ty (vs.set j v) := by
  obtain ⟨c, A, hs, hl, hf, hfit⟩ := A
  refine ⟨_, A.same W, ?_, by simpa using hl, hf, fun u hu => ?_⟩
  · simp [Cell.setSlot, hs]
  · rcases List.mem_or_eq_of_mem_set hu with q | q
    · exact hfit u q
    · exact q ▸ hv
theorem Hp.ne (A : Hp Z a0 h0 hS ws h H) {i j : Nat} {x y : Addr × OObj} (hi : H[i]? = some x) (hj : H[j]? = some y) (q : i ≠ j) : x.1 ≠ y.1 := fun e => q (A.2.2.2 i j x y hi hj e)
theorem Hp.at {i : Nat} (A : Hp Z a0 h0 hS ws h H) (hi : H[i]? = some (a, o)) : OK Z a0 h a o := (A.2.2.1 i _ hi).2.2
/-- one cell is written -/
theorem Hp.wr {i sl : Nat} {o' : OObj} (A : Hp Z a0 h0 hS ws h H) (hi : H[i]? = some (a, o)) (W : Wr h h' a sl v) (hO : OK Z a0 h' a o') : Hp Z a0 h0 hS ws h' (H.set i (a, o')) := by
  obtain ⟨E, K, F, I⟩ := A
  have hge := (F i _ hi)
  have hlt : i < H.length := (List.getElem?_eq_some_iff.mp hi).1
  have key : ∀ (k : Nat) (x : Addr × OObj), (H.set i (a, o'))[k]? = some x → ∃ x0 : Addr × OObj, H[k]? = some x0 ∧ x0.1 = x.1 := fun k x hk => by
    rw [List.getElem?_set] at hk
    by_cases q : i = k
    · subst q; simp only [if_true, hlt] at hk; cases hk; exact ⟨_, hi, rfl⟩
    · rw [if_neg q] at hk; exact ⟨x, hk, rfl⟩
  refine ⟨?_, K.wr W hge.2.1, fun k x hk => ?_, fun k1 k2 x y h1 h2 e => ?_⟩
  · have K2 := Keep.of_wr W
    refine ⟨Nat.le_trans E.1 K2.1, fun x c hx => K2.2.1 x c (E.2 x c hx) fun q => ?_⟩
    have := (Array.getElem?_eq_some_iff.mp hx).1
    cases List.mem_singleton.mp q
    have := hge.1
    omega
  · rw [List.getElem?_set] at hk
    by_cases q : i = k
    · subst q; simp only [if_true, hlt] at hk; cases hk; exact ⟨hge.1, hge.2.1, hO⟩
    · rw [if_neg q] at hk
      refine ⟨(F k x hk).1, (F k x hk).2.1, (F k x hk).2.2.keep (Keep.of_wr W) fun z => ?_⟩
      exact q (I i k _ _ hi hk (List.mem_singleton.mp z).symm)
  · obtain ⟨x0, e1, e2⟩ := key k1 x h1
    obtain ⟨y0, e3, e4⟩ := key k2 y h2
    exact I k1 k2 _ _ e1 e3 (by rw [e2, e4, e])
/-- a new cell -/
theorem Hp.new (A : Hp Z a0 h0 hS ws h H) (E' : Ext h h') (hO : OK Z a0 h' h.size o) : Hp Z a0 h0 hS ws h' (H ++ [(h.size, o)]) := by
  obtain ⟨E, K, F, I⟩ := A
  have key : ∀ (k : Nat) (x : Addr × OObj), (H ++ [(h.size, o)])[k]? = some x → (k < H.length ∧ H[k]? = some x) ∨ (k = H.length ∧ x = (h.size, o)) := fun k x hk => by
    rw [List.getElem?_append] at hk
    split at hk
    · rename_i q; exact Or.inl ⟨q, hk⟩
    · rename_i q
      rcases Nat.eq_or_lt_of_le (Nat.le_of_not_lt q) with e | e
      · subst e; simp at hk; exact Or.inr ⟨rfl, hk.symm⟩
      · rw [List.getElem?_eq_none (by simp; omega)] at hk; cases hk
  refine ⟨⟨Nat.le_trans E.1 E'.1, fun x c hx => E'.2 x c (E.2 x c hx)⟩, K.ext E', fun k x hk => ?_, fun k1 k2 x y h1 h2 e => ?_⟩
  · rcases key k x hk with ⟨-, q⟩ | ⟨-, rfl⟩
    · exact ⟨(F k x q).1, (F k x q).2.1, (F k x q).2.2.ext E'⟩
    · exact ⟨E.1, Or.inr K.1, hO⟩
  · rcases key k1 x h1 with ⟨q1, r1⟩ | ⟨q1, rfl⟩ <;> rcases key k2 y h2 with ⟨q2, r2⟩ | ⟨q2, rfl⟩
    · exact I _ _ _ _ r1 r2 e
    · exact absurd e (Nat.ne_of_lt (F _ _ r1).2.2.lt)
    · exact absurd e.symm (Nat.ne_of_lt (F _ _ r2).2.2.lt)
    · rw [q1, q2]
/-- fewer, or in another order -/
theorem Hp.sub {G : OHp} (ix : List Nat) (A : Hp Z a0 h0 hS ws h H) (hG : ix.map (fun i => H[i]?) = G.map some) (hN : ix.Nodup) : Hp Z a0 h0 hS ws h G := by
  have key : ∀ (k : Nat) (x : Addr × OObj), G[k]? = some x → ∃ i : Nat, ix[k]? = some i ∧ H[i]? = some x := fun k x hk => by
    have q : (G.map some)[k]? = some (some x) := by rw [List.getElem?_map, hk]; rfl
    rw [← hG, List.getElem?_map] at q
    cases hi : ix[k]? with
    | none => rw [hi] at q; cases q
    | some i => rw [hi] at q; exact ⟨i, rfl, Option.some.inj q⟩
  refine ⟨A.1, A.2.1, fun k x hk => ?_, fun k1 k2 x y h1 h2 e => ?_⟩
  · obtain ⟨i, -, hi⟩ := key k x hk; exact A.2.2.1 i x hi
  · obtain ⟨i, p1, q1⟩ := key k1 x h1
    obtain ⟨j, p2, q2⟩ := key k2 y h2
    cases A.2.2.2 i j x y q1 q2 e
    have l1 : k1 < ix.length := (List.getElem?_eq_some_iff.mp p1).1
    have l2 : k2 < ix.length := (List.getElem?_eq_some_iff.mp p2).1
    have e1 := (List.getElem?_eq_some_iff.mp p1).2
    have e2 := (List.getElem?_eq_some_iff.mp p2).2
    exact (List.getElem_inj hN).mp (e1.trans e2.symm)
/-- what a callee is handed -/
theorem Hp.enter {F : OHp} (A : Hp Z a0 h0 hS ws h F) : Hp Z a0 h0 h (F.map (·.1)) h F :=
  ⟨A.1, Keep.refl _ _, fun i x hi => ⟨(A.2.2.1 i x hi).1, Or.inl (List.mem_map_of_mem (List.mem_of_getElem? hi)), (A.2.2.1 i x hi).2.2⟩, A.2.2.2⟩
/-- behind a call: the callee's cells, and those that it was not handed -/
theorem Hp.back {F F' G : OHp} {ix rx : List Nat} (A : Hp Z a0 h0 hS ws h H) (hF : ix.map (fun i => H[i]?) = F.map some) (hG : rx.map (fun i => H[i]?) = G.map some) (hN : (ix ++ rx).Nodup) (B : Hp Z a0 h0 h (F.map (·.1)) h' F') : Hp Z a0 h0 hS ws h' (F' ++ G) := by
  have N := List.nodup_append.mp hN
  have AF := A.sub ix hF N.1
  have AG := A.sub rx hG N.2.1
  have mF : ∀ b ∈ F.map (·.1), ∃ i : Nat, i ∈ ix ∧ ∃ x : Addr × OObj, H[i]? = some x ∧ x.1 = b := fun b hb => by
    obtain ⟨x, hx, rfl⟩ := List.mem_map.mp hb
    have : some x ∈ ix.map (fun i => H[i]?) := by rw [hF]; exact List.mem_map_of_mem hx
    obtain ⟨i, hi, e⟩ := List.mem_map.mp this
    exact ⟨i, hi, x, e, rfl⟩
  have mG : ∀ (k : Nat) (x : Addr × OObj), G[k]? = some x → ∃ i : Nat, i ∈ rx ∧ H[i]? = some x := fun k x hk => by
    have : some x ∈ rx.map (fun i => H[i]?) := by rw [hG]; exact List.mem_map_of_mem (List.mem_of_getElem? hk)
    obtain ⟨i, hi, e⟩ := List.mem_map.mp this
    exact ⟨i, hi, e⟩
  have nin : ∀ (k : Nat) (x : Addr × OObj), G[k]? = some x → x.1 ∉ F.map (·.1) := fun k x hk q => by
    obtain ⟨i, hi, y, e1, e2⟩ := mF _ q
    obtain ⟨j, hj, e3⟩ := mG k x hk
    cases A.2.2.2 i j y x e1 e3 e2
    exact N.2.2 i hi i hj rfl
  have key : ∀ (k : Nat) (x : Addr × OObj), (F' ++ G)[k]? = some x → (k < F'.length ∧ F'[k]? = some x) ∨ (F'.length ≤ k ∧ G[k - F'.length]? = some x) := fun k x hk => by
    rw [List.getElem?_append] at hk
    split at hk
    · rename_i q; exact Or.inl ⟨q, hk⟩
    · rename_i q; exact Or.inr ⟨Nat.le_of_not_lt q, hk⟩
  have range : ∀ b, b ∈ F.map (·.1) → b ∈ ws ∨ hS.size ≤ b := fun b hb => by
    obtain ⟨i, -, x, e1, rfl⟩ := mF b hb
    exact (A.2.2.1 i x e1).2.1
  refine ⟨B.1, A.2.1.trans B.2.1 range, fun k x hk => ?_, fun k1 k2 x y h1 h2 e => ?_⟩
  · rcases key k x hk with ⟨-, q⟩ | ⟨-, q⟩
    · obtain ⟨r1, r2, r3⟩ := B.2.2.1 k x q
      exact ⟨r1, r2.elim (range _) fun z => Or.inr (Nat.le_trans A.2.1.1 z), r3⟩
    · obtain ⟨r1, r2, r3⟩ := AG.2.2.1 _ x q
      exact ⟨r1, r2, r3.keep B.2.1 (nin _ x q)⟩
  · have cross : ∀ (k1 k2 : Nat) (x y : Addr × OObj), F'[k1]? = some x → G[k2]? = some y → x.1 = y.1 → False := fun k1 k2 x y g1 g2 e => by
      rcases (B.2.2.1 k1 x g1).2.1 with z | z
      · exact nin k2 y g2 (e ▸ z)
      · have := (AG.2.2.1 k2 y g2).2.2.lt
        rw [e] at z; exact Nat.not_lt.mpr z this
    rcases key k1 x h1 with ⟨l1, q1⟩ | ⟨l1, q1⟩ <;> rcases key k2 y h2 with ⟨l2, q2⟩ | ⟨l2, q2⟩
    · exact B.2.2.2 _ _ _ _ q1 q2 e
    · exact absurd e (fun z => cross _ _ _ _ q1 q2 z)
    · exact absurd e.symm (fun z => cross _ _ _ _ q2 q1 z)
    · have := AG.2.2.2 _ _ _ _ q1 q2 e; omega
end Own
theorem Hp.start (s : State) (a0 : Array Value) : Hp s a0 s.heap s.heap (([] : OHp).map (·.1)) s.heap [] :=
  ⟨⟨Nat.le_refl _, fun _ _ q => q⟩, Keep.refl _ _, fun i x q => by simp at q, fun i j x y q => by simp at q⟩
/-! ## own kit, part 2: blocks of plain instructions -/
abbrev OSt := Option (Array Slot × List Value)
def oLen (n k : Nat) (x : OSt) : OSt := if n = k then x else none
def oLdA (Ls : Array Slot) (k : Nat) (st : List Value) : OSt := match Ls[k]? with
  | some (.val (.ref a)) => some (Ls, .ref a :: st)
  | some (.val .null) => some (Ls, .null :: st)
  | _ => none
def oLdI (Ls : Array Slot) (k : Nat) (st : List Value) : OSt := match Ls[k]? with
  | some (.val (.int v)) => some (Ls, .int v :: st)
  | _ => none
def oLdJ (Ls : Array Slot) (k : Nat) (st : List Value) : OSt := match Ls[k]? with
  | some (.val (.long v)) => some (Ls, .long v :: st)
  | _ => none
def oStI (Ls : Array Slot) (k : Nat) (st : List Value) : OSt := match st with
  | .int x :: r => match storeLocals Ls k (.int x) with
    | some l => some (l, r)
    | none => none
  | _ => none
def oStJ (Ls : Array Slot) (k : Nat) (st : List Value) : OSt := match st with
  | .long x :: r => match storeLocals Ls k (.long x) with
    | some l => some (l, r)
    | none => none
  | _ => none
def oStA (Ls : Array Slot) (k : Nat) (st : List Value) : OSt := match st with
  | .ref x :: r => match storeLocals Ls k (.ref x) with
    | some l => some (l, r)
    | none => none
  | .null :: r => match storeLocals Ls k .null with
    | some l => some (l, r)
    | none => none
  | _ => none
def oInc (Ls : Array Slot) (k : Nat) (c : Int) (st : List Value) : OSt := match Ls[k]? with
  | some (.val (.int x)) => match storeLocals Ls k (.int (x + Int32.ofInt c)) with
    | some l => some (l, st)
    | none => none
  | _ => none
def oII (Ls : Array Slot) (st : List Value) (f : Int32 → Int32 → Int32) : OSt := match st with
  | .int y :: .int x :: r => some (Ls, .int (f x y) :: r)
  | _ => none
def oIIz (Ls : Array Slot) (st : List Value) (f : Int32 → Int32 → Int32) : OSt := match st with
  | .int y :: .int x :: r => if y ≠ 0 then some (Ls, .int (f x y) :: r) else none
  | _ => none
def oJJ (Ls : Array Slot) (st : List Value) (f : Int64 → Int64 → Value) : OSt := match st with
  | .long y :: .long x :: r => some (Ls, f x y :: r)
  | _ => none
def oJI (Ls : Array Slot) (st : List Value) (f : Int64 → Int32 → Int64) : OSt := match st with
  | .int y :: .long x :: r => some (Ls, .long (f x y) :: r)
  | _ => none
def oI (Ls : Array Slot) (st : List Value) (f : Int32 → Value) : OSt := match st with
  | .int x :: r => some (Ls, f x :: r)
  | _ => none
def oJ (Ls : Array Slot) (st : List Value) (f : Int64 → Value) : OSt := match st with
  | .long x :: r => some (Ls, f x :: r)
  | _ => none
def oOne : Value → Bool
  | .int _ => true
  | .ref _ => true
  | .null => true
  | _ => false
def oDup (Ls : Array Slot) (st : List Value) : OSt := match st with
  | x :: r => if oOne x = true then some (Ls, x :: x :: r) else none
  | _ => none
def oPop (Ls : Array Slot) (st : List Value) : OSt := match st with
  | x :: r => if oOne x = true then some (Ls, r) else none
  | _ => none
def oDupX (Ls : Array Slot) (st : List Value) : OSt := match st with
  | x :: y :: r => if oOne x = true then (if oOne y = true then some (Ls, x :: y :: x :: r) else none) else none
  | _ => none
abbrev oUshr (x y : Int32) : Int32 := (x.toUInt32 >>> (y &&& 31).toUInt32).toInt32
abbrev oLushr (x : Int64) (y : Int32) : Int64 := (x.toUInt64 >>> (y &&& 0x3f).toInt64.toUInt64).toInt64
abbrev oI2c (x : Int32) : Int32 := x.toUInt32.toUInt16.toUInt32.toInt32
abbrev oI2b (x : Int32) : Int32 := x.toInt8.toInt32
abbrev oLcmp (x y : Int64) : Int32 := if x > y then 1 else if x = y then 0 else -1
def oEx (i : Instr) (n : Nat) (Ls : Array Slot) (st : List Value) : OSt := match i with
  | .aload_n k => oLen n 1 (oLdA Ls k.val st)
  | .aload k => oLen n 2 (oLdA Ls k st)
  | .iload_n k => oLen n 1 (oLdI Ls k.val st)
  | .iload k => oLen n 2 (oLdI Ls k st)
  | .lload_n k => oLen n 1 (oLdJ Ls k.val st)
  | .lload k => oLen n 2 (oLdJ Ls k st)
  | .istore_n k => oLen n 1 (oStI Ls k.val st)
  | .istore k => oLen n 2 (oStI Ls k st)
  | .lstore_n k => oLen n 1 (oStJ Ls k.val st)
  | .lstore k => oLen n 2 (oStJ Ls k st)
  | .astore_n k => oLen n 1 (oStA Ls k.val st)
  | .astore k => oLen n 2 (oStA Ls k st)
  | .iinc k c => oLen n 3 (oInc Ls k c st)
  | .iconst v => oLen n 1 (some (Ls, .int (Int32.ofInt v) :: st))
  | .lconst v => oLen n 1 (some (Ls, .long (Int64.ofNat v) :: st))
  | .bipush v => oLen n 2 (some (Ls, .int (Int8.ofInt v).toInt32 :: st))
  | .sipush v => oLen n 3 (some (Ls, .int (Int16.ofInt v).toInt32 :: st))
  | .aconst_null => oLen n 1 (some (Ls, .null :: st))
  | .iadd => oLen n 1 (oII Ls st (fun x y => x + y))
  | .isub => oLen n 1 (oII Ls st (fun x y => x - y))
  | .imul => oLen n 1 (oII Ls st (fun x y => x * y))
  | .iand => oLen n 1 (oII Ls st (fun x y => x &&& y))
  | .ior => oLen n 1 (oII Ls st (fun x y => x ||| y))
  | .ixor => oLen n 1 (oII Ls st (fun x y => x ^^^ y))
  | .ishl => oLen n 1 (oII Ls st (fun x y => x <<< (y &&& 31)))
  | .ishr => oLen n 1 (oII Ls st (fun x y => x >>> (y &&& 31)))
  | .iushr => oLen n 1 (oII Ls st (fun x y => oUshr x y))
  | .irem => oLen n 1 (oIIz Ls st (fun x y => x % y))
  | .idiv => oLen n 1 (oIIz Ls st (fun x y => x / y))
  | .ineg => oLen n 1 (oI Ls st (fun x => .int (-x)))
  | .ladd => oLen n 1 (oJJ Ls st (fun x y => .long (x + y)))
  | .lsub => oLen n 1 (oJJ Ls st (fun x y => .long (x - y)))
  | .lmul => oLen n 1 (oJJ Ls st (fun x y => .long (x * y)))
  | .land => oLen n 1 (oJJ Ls st (fun x y => .long (x &&& y)))
  | .lcmp => oLen n 1 (oJJ Ls st (fun x y => .int (oLcmp x y)))
  | .lushr => oLen n 1 (oJI Ls st (fun x y => oLushr x y))
  | .l2i => oLen n 1 (oJ Ls st (fun x => .int x.toInt32))
  | .i2l => oLen n 1 (oI Ls st (fun x => .long x.toInt64))
  | .i2b => oLen n 1 (oI Ls st (fun x => .int (oI2b x)))
  | .i2c => oLen n 1 (oI Ls st (fun x => .int (oI2c x)))
  | .dup => oLen n 1 (oDup Ls st)
  | .pop => oLen n 1 (oPop Ls st)
  | .dup_x1 => oLen n 1 (oDupX Ls st)
  | _ => none
def oRun : List (Instr × Nat) → Array Slot → List Value → OSt
  | [], Ls, st => some (Ls, st)
  | i :: r, Ls, st => match oEx i.1 i.2 Ls st with
    | some x => oRun r x.1 x.2
    | none => none
def oEnd (pc : Nat) : List (Instr × Nat) → Nat
  | [] => pc
  | i :: r => oEnd (pc + i.2) r
def oAt (code : ByteArray) (pc : Nat) (i : Instr × Nat) : Bool := match decode code pc with
  | .ok j => decide (j = i)
  | .error _ => false
def oBlk (code : ByteArray) (pc : Nat) : List (Instr × Nat) → Bool
  | [] => true
  | i :: r => oAt code pc i && oBlk code (pc + i.2) r
theorem oAt.dec {code : ByteArray} {pc : Nat} {i : Instr × Nat} (h : oAt code pc i = true) : decode code pc = .ok i := by
  unfold oAt at h
  split at h
  · rename_i j e; rw [e, of_decide_eq_true h]
  · cases h
theorem oLen.e {n k : Nat} {x : OSt} {y : Array Slot × List Value} (h : oLen n k x = some y) : n = k ∧ x = some y := by
  unfold oLen at h; split at h
  · exact ⟨by assumption, h⟩
  · cases h
theorem oOne.cat {x : Value} (h : oOne x = true) : x.category = 1 := by cases x <;> simp [oOne, Value.category] at h ⊢
section Sound
variable {tb : Tables} [Ours tb] {e : Env} {below : List Frame} {T target : State} {m : MethodId} {c : Code} {pc : Nat} {Ls L' : Array Slot} {st S' : List Value}
set_option maxHeartbeats 4000000 in
theorem oEx.sound {i : Instr} {n : Nat} (h : At T m c below) (hx : tb.exec = Jvm.exec) (hd : decode c.code pc = .ok (i, n)) (he : oEx i n Ls st = some (L', S'))
    (hr : Steps tb e below (T.setTop (mkF m (pc + n) L' S')) target) : Steps tb e below (T.setTop (mkF m pc Ls st)) target := by
  unfold oEx at he
  split at he <;> first | (cases he; done) | skip
  all_goals (obtain ⟨rfl, he⟩ := oLen.e he)
  · unfold oLdA at he; split at he <;> first | (cases he; done) | skip
    · rename_i q; cases he; exact XS.aloadN h hx rfl hd q rfl hr
    · rename_i q; cases he; exact XS.aloadN h hx rfl hd q rfl hr
  · unfold oLdA at he; split at he <;> first | (cases he; done) | skip
    · rename_i q; cases he; exact XS.aload h hx rfl hd q rfl hr
    · rename_i q; cases he; exact XS.aload h hx rfl hd q rfl hr
  · unfold oLdI at he; split at he <;> first | (cases he; done) | skip
    rename_i q; cases he; exact XS.iloadN h hx rfl hd q hr
  · unfold oLdI at he; split at he <;> first | (cases he; done) | skip
    rename_i q; cases he; exact XS.iload h hx rfl hd q hr
  · unfold oLdJ at he; split at he <;> first | (cases he; done) | skip
    rename_i q; cases he; exact XS.lloadN h hx rfl hd q hr
  · unfold oLdJ at he; split at he <;> first | (cases he; done) | skip
    rename_i q; cases he; exact XS.lload h hx rfl hd q hr
  · unfold oStI at he; split at he <;> first | (cases he; done) | skip
    split at he <;> first | (cases he; done) | skip
    rename_i q; cases he; exact XS.istoreN h hx rfl hd rfl q hr
  · unfold oStI at he; split at he <;> first | (cases he; done) | skip
    split at he <;> first | (cases he; done) | skip
    rename_i q; cases he; exact XS.istore h hx rfl hd rfl q hr
  · unfold oStJ at he; split at he <;> first | (cases he; done) | skip
    split at he <;> first | (cases he; done) | skip
    rename_i q; cases he; exact XS.lstoreN h hx rfl hd rfl q hr
  · unfold oStJ at he; split at he <;> first | (cases he; done) | skip
    split at he <;> first | (cases he; done) | skip
    rename_i q; cases he; exact XS.lstore h hx rfl hd rfl q hr
  · unfold oStA at he; split at he <;> first | (cases he; done) | skip
    all_goals (split at he <;> first | (cases he; done) | skip)
    all_goals (rename_i q; cases he; exact XS.astoreN h hx rfl hd rfl rfl q hr)
  · unfold oStA at he; split at he <;> first | (cases he; done) | skip
    all_goals (split at he <;> first | (cases he; done) | skip)
    all_goals (rename_i q; cases he; exact XS.astore h hx rfl hd rfl rfl q hr)
  · unfold oInc at he; split at he <;> first | (cases he; done) | skip
    rename_i q0
    split at he <;> first | (cases he; done) | skip
    rename_i q; cases he; exact XS.iinc h hx rfl hd q0 q hr
  · cases he; exact XS.iconst h hx rfl hd hr
  · cases he; exact XS.lconst h hx rfl hd hr
  · cases he; exact XS.bipush h hx rfl hd hr
  · cases he; exact XS.sipush h hx rfl hd hr
  · cases he; exact XS.aconstNull h hx rfl hd hr
  · unfold oII at he; split at he <;> first | (cases he; done) | skip
    cases he; exact XS.iadd h hx rfl hd rfl hr
  · unfold oII at he; split at he <;> first | (cases he; done) | skip
    cases he; exact XS.isub h hx rfl hd rfl hr
  · unfold oII at he; split at he <;> first | (cases he; done) | skip
    cases he; exact XS.imul h hx rfl hd rfl hr
  · unfold oII at he; split at he <;> first | (cases he; done) | skip
    cases he; exact XS.iand h hx rfl hd rfl hr
  · unfold oII at he; split at he <;> first | (cases he; done) | skip
    cases he; exact XS.ior h hx rfl hd rfl hr
  · unfold oII at he; split at he <;> first | (cases he; done) | skip
    cases he; exact XS.ixor h hx rfl hd rfl hr
  · unfold oII at he; split at he <;> first | (cases he; done) | skip
    cases he; exact XS.ishl h hx rfl hd rfl hr
  · unfold oII at he; split at he <;> first | (cases he; done) | skip
    cases he; exact XS.ishr h hx rfl hd rfl hr
  · unfold oII at he; split at he <;> first | (cases he; done) | skip
    cases he; exact XS.iushr h hx rfl hd rfl hr
  · unfold oIIz at he; split at he <;> first | (cases he; done) | skip
    split at he <;> first | (cases he; done) | skip
    rename_i hy
    cases he
    refine XS.irem h hx rfl hd rfl hy ?_
    rw [irem_eq_mod]; exact hr
  · unfold oIIz at he; split at he <;> first | (cases he; done) | skip
    split at he <;> first | (cases he; done) | skip
    rename_i hy
    cases he; exact XS.idiv h hx rfl hd rfl hy hr
  · unfold oI at he; split at he <;> first | (cases he; done) | skip
    cases he; exact XS.ineg h hx rfl hd rfl hr
  · unfold oJJ at he; split at he <;> first | (cases he; done) | skip
    cases he; exact XS.ladd h hx rfl hd rfl hr
  · unfold oJJ at he; split at he <;> first | (cases he; done) | skip
    cases he; exact XS.lsub h hx rfl hd rfl hr
  · unfold oJJ at he; split at he <;> first | (cases he; done) | skip
    cases he; exact XS.lmul h hx rfl hd rfl hr
  · unfold oJJ at he; split at he <;> first | (cases he; done) | skip
    cases he; exact XS.land h hx rfl hd rfl hr
  · unfold oJJ at he; split at he <;> first | (cases he; done) | skip
    cases he; exact XS.lcmp h hx rfl hd rfl hr
  · unfold oJI at he; split at he <;> first | (cases he; done) | skip
    cases he; exact XS.lushr h hx rfl hd rfl hr
  · unfold oJ at he; split at he <;> first | (cases he; done) | skip
    cases he; exact XS.l2i h hx rfl hd rfl hr
  · unfold oI at he; split at he <;> first | (cases he; done) | skip
    cases he; exact XS.i2l h hx rfl hd rfl hr
  · unfold oI at he; split at he <;> first | (cases he; done) | skip
    cases he; exact XS.i2b h hx rfl hd rfl hr
  · unfold oI at he; split at he <;> first | (cases he; done) | skip
    cases he; exact XS.i2c h hx rfl hd rfl hr
  · unfold oDup at he; split at he <;> first | (cases he; done) | skip
    split at he <;> first | (cases he; done) | skip
    rename_i q; cases he; exact XS.dup h hx rfl hd rfl (oOne.cat q) hr
  · unfold oPop at he; split at he <;> first | (cases he; done) | skip
    split at he <;> first | (cases he; done) | skip
    rename_i q; cases he; exact XS.pop h hx rfl hd rfl (oOne.cat q) hr
  · unfold oDupX at he; split at he <;> first | (cases he; done) | skip
    split at he <;> first | (cases he; done) | skip
    rename_i q1
    split at he <;> first | (cases he; done) | skip
    rename_i q2; cases he; exact XS.dupX1 h hx rfl hd rfl (oOne.cat q1) (oOne.cat q2) hr
theorem oRun.sound (is : List (Instr × Nat)) : ∀ {pc : Nat} {Ls : Array Slot} {st : List Value}, At T m c below → tb.exec = Jvm.exec → oBlk c.code pc is = true → oRun is Ls st = some (L', S') →
    Steps tb e below (T.setTop (mkF m (oEnd pc is) L' S')) target → Steps tb e below (T.setTop (mkF m pc Ls st)) target := by
  induction is with
  | nil => intro pc Ls st h hx hb he hr; cases he; exact hr
  | cons i r ih =>
    intro pc Ls st h hx hb he hr
    simp only [oBlk, Bool.and_eq_true] at hb
    simp only [oRun] at he
    split at he
    · rename_i x q
      exact oEx.sound h hx (oAt.dec hb.1) q (ih h hx hb.2 he hr)
    · cases he
end Sound
/-! ## own kit, part 3: from a frame the run goes to its return -/
def Cx (p : Program) (s : State) (m : MethodId) (meth : Method) (c : Code) (Z : State) (y : MethodName) (code : ByteArray) (maxL : Nat) (ret : Option FieldType) : Prop :=
  p.tables.exec = Jvm.exec ∧ c.code = code ∧ c.maxLocals = maxL ∧ s.vm.findClass y.cls = some m.cls ∧ meth.name = y.name ∧ meth.sig.returnType = ret ∧ meth.locks = false ∧ Z.Warmed39 s.vm
def Ends (p : Program) (e : Env) (s : State) (below : List Frame) (Z : State) (a0 : Array Value) (h0 hS : Heap) (ws : List Addr) (rc rs : Nat) (Q : Option Value → OHp → Prop) (T : State) (g : JFrame) : Prop :=
  ∃ t o, Steps p.tables e below (T.setTop g) t ∧ t.status = .running ∧ Ended t below o ∧ ∃ v L, o = .returned v ∧ (Fr h0.size L ∧ ∃ F', Q v F' ∧ Hp Z a0 h0 hS ws t.heap F') ∧ FrameEnd s o t L rc rs
def Goes (p : Program) (l : Launch) (e : Env) (R : Room) (s : State) (m : MethodId) (args : Array Value) (below : List Frame) (meth : Method) (c : Code) (Z : State) (a0 : Array Value) (h0 hS : Heap) (ws : List Addr) (rc rs : Nat) (Q : Option Value → OHp → Prop) (H : OHp) (cells slots : Nat) (g : JFrame) : Prop :=
  ∀ (T : State) (locs : List Loc), Stand p l e R s m args below meth c T locs cells slots → Fr h0.size locs → Hp Z a0 h0 hS ws T.heap H → Ends p e s below Z a0 h0 hS ws rc rs Q T g
def Does (l : Launch) (Z : State) (a0 : Array Value) (h0 : Heap) (y : MethodName) (code : ByteArray) (maxL : Nat) (ret : Option FieldType) (rm : Room) (as' : Array Value) (F : OHp) (Q : Option Value → OHp → Prop) : Prop :=
  ∀ (ws : List Jvm.Cond) (h : Heap), Hp Z a0 h0 h (F.map (·.1)) h F → MetFree l y (head1 (Jvm.Cond.code y code maxL ret :: ws) rm) (fun a U => a = as' ∧ Z.Warmed39 U.vm ∧ U.heap = h) (fun _ _ _ _ _ => True)
    (fun _ U o U' => ∃ v L, o = .returned v ∧ (Fr h0.size L ∧ ∃ F', Q v F' ∧ Hp Z a0 h0 h (F.map (·.1)) U'.heap F') ∧ FrameEnd U o U' L rm.cells rm.slots)
theorem Does.mk {l : Launch} {Z : State} {a0 : Array Value} {h0 : Heap} {y : MethodName} {code : ByteArray} {maxL : Nat} {ret : Option FieldType} {rm : Room} {as' : Array Value} {F : OHp} {Q : Option Value → OHp → Prop} (Ls : Array Slot)
    (hp : plainFor y = true) (hent : ∀ m, entryFrame m as' maxL = mkF m 0 Ls [])
    (K : ∀ (p : Program) (e : Env) (s : State) (m : MethodId) (args : Array Value) (below : List Frame) (meth : Method) (c : Code) (h : Heap), Cx p s m meth c Z y code maxL ret → Goes p l e rm s m args below meth c Z a0 h0 h (F.map (·.1)) rm.cells rm.slots Q F 0 0 (mkF m 0 Ls [])) :
    Does l Z a0 h0 y code maxL ret rm as' F Q := by
  intro ws h hH
  refine MetFree.of_bodySF (code := code) (maxLocals := maxL) (ret := ret) hp hisR ?_
  intro p e s m args below meth c s₁ Bd hml hP hK
  obtain ⟨rfl, hZ, hh⟩ := hP
  have X0 : Stand p l e rm s m args below meth c s₁ [] 0 0 := Stand.of_body Bd
  have e0 : s₁.heap = h := by rw [← hh, Bd.state]; rfl
  have G := K p e s m args below meth c h ⟨Bd.exec, Bd.bytes, hml, findClass_of_methodNamed Bd.named, (name_of_methodNamed Bd.named Bd.method).1, Bd.returns, Bd.notSynchronized, hZ⟩ s₁ [] X0 (Fr.nil _) (by rw [e0]; exact hH)
  obtain ⟨t, o, h1, h2, h3, h4⟩ := G
  exact ⟨t, o, castTop (hent m) h1, h2, h3, h4⟩
section Goes
variable {p : Program} {l : Launch} {e : Env} {R : Room} {s : State} {m : MethodId} {args : Array Value} {below : List Frame} {meth : Method} {c : Code} {Z : State} {a0 : Array Value} {h0 hS : Heap} {ws : List Addr} {rc rs : Nat} {Q : Option Value → OHp → Prop} {H : OHp} {cells slots : Nat} {y : MethodName} {code : ByteArray} {maxL : Nat} {ret : Option FieldType} {pc : Nat} {Ls : Array Slot} {st : List Value}
theorem Ends.via {T T' : State} {g g' : JFrame} (k : Ends p e s below Z a0 h0 hS ws rc rs Q T' g') (st : ∀ t, Steps p.tables e below (T'.setTop g') t → Steps p.tables e below (T.setTop g) t) : Ends p e s below Z a0 h0 hS ws rc rs Q T g := by
  obtain ⟨t, o, h1, r⟩ := k
  exact ⟨t, o, st _ h1, r⟩
theorem Goes.run (X : Cx p s m meth c Z y code maxL ret) (is : List (Instr × Nat)) {L' : Array Slot} {S' : List Value} {pc' : Nat} (he : oRun is Ls st = some (L', S')) (k : Goes p l e R s m args below meth c Z a0 h0 hS ws rc rs Q H cells slots (mkF m pc' L' S')) (hb : oBlk code pc is = true := by decide +kernel) (hp : oEnd pc is = pc' := by rfl) : Goes p l e R s m args below meth c Z a0 h0 hS ws rc rs Q H cells slots (mkF m pc Ls st) := fun T locs Y N A => by
  subst hp
  exact (k T locs Y N A).via fun t q => oRun.sound is Y.here X.1 (by rw [X.2.1]; exact hb) he q
theorem Goes.runS (X : Cx p s m meth c Z y code maxL ret) (is : List (Instr × Nat)) {S' : List Value} {pc' : Nat} (he : oRun is Ls st = some (Ls, S')) (k : Goes p l e R s m args below meth c Z a0 h0 hS ws rc rs Q H cells slots (mkF m pc' Ls S')) (hb : oBlk code pc is = true := by decide +kernel) (hp : oEnd pc is = pc' := by rfl) : Goes p l e R s m args below meth c Z a0 h0 hS ws rc rs Q H cells slots (mkF m pc Ls st) := Goes.run X is he k hb hp
theorem Goes.goto (X : Cx p s m meth c Z y code maxL ret) {o : Int} {pc' : Nat} (k : Goes p l e R s m args below meth c Z a0 h0 hS ws rc rs Q H cells slots (mkF m pc' Ls st)) (hd : oAt code pc (.goto o, 3) = true := by decide +kernel) (ho : 0 ≤ (pc : Int) + o := by decide) (hp : ((pc : Int) + o).toNat = pc' := by decide) : Goes p l e R s m args below meth c Z a0 h0 hS ws rc rs Q H cells slots (mkF m pc Ls st) := fun T locs Y N A =>
  (k T locs Y N A).via fun t q => XS.goto Y.here X.1 rfl (pc0 := pc) rfl (hb X.2.1 (oAt.dec hd)) ho hp q
theorem Goes.if1 (X : Cx p s m meth c Z y code maxL ret) {cd : ClassFile.Cond} {o : Int} {pc' : Nat} {x : Int32} (k1 : ifCond.holds cd x = true → Goes p l e R s m args below meth c Z a0 h0 hS ws rc rs Q H cells slots (mkF m pc' Ls st)) (k2 : ifCond.holds cd x = false → Goes p l e R s m args below meth c Z a0 h0 hS ws rc rs Q H cells slots (mkF m (pc + 3) Ls st)) (hd : oAt code pc (.ifCond cd o, 3) = true := by decide +kernel) (ho : 0 ≤ (pc : Int) + o := by decide) (hp : ((pc : Int) + o).toNat = pc' := by decide) : Goes p l e R s m args below meth c Z a0 h0 hS ws rc rs Q H cells slots (mkF m pc Ls (.int x :: st)) := fun T locs Y N A => by
  cases q : ifCond.holds cd x with
  | true => exact (k1 q T locs Y N A).via fun t r => XS.ifYes Y.here X.1 rfl (pc0 := pc) rfl (hb X.2.1 (oAt.dec hd)) rfl q ho hp r
  | false => exact (k2 q T locs Y N A).via fun t r => XS.ifNo Y.here X.1 rfl (hb X.2.1 (oAt.dec hd)) rfl q r
theorem Goes.if2 (X : Cx p s m meth c Z y code maxL ret) {cd : ClassFile.Cond} {o : Int} {pc' : Nat} {x z : Int32} (k1 : if_icmp.holds cd x z = true → Goes p l e R s m args below meth c Z a0 h0 hS ws rc rs Q H cells slots (mkF m pc' Ls st)) (k2 : if_icmp.holds cd x z = false → Goes p l e R s m args below meth c Z a0 h0 hS ws rc rs Q H cells slots (mkF m (pc + 3) Ls st)) (hd : oAt code pc (.if_icmp cd o, 3) = true := by decide +kernel) (ho : 0 ≤ (pc : Int) + o := by decide) (hp : ((pc : Int) + o).toNat = pc' := by decide) : Goes p l e R s m args below meth c Z a0 h0 hS ws rc rs Q H cells slots (mkF m pc Ls (.int z :: .int x :: st)) := fun T locs Y N A => by
  cases q : if_icmp.holds cd x z with
  | true => exact (k1 q T locs Y N A).via fun t r => XS.icmpYes Y.here X.1 rfl (pc0 := pc) rfl (hb X.2.1 (oAt.dec hd)) rfl q ho hp r
  | false => exact (k2 q T locs Y N A).via fun t r => XS.icmpNo Y.here X.1 rfl (hb X.2.1 (oAt.dec hd)) rfl q r
theorem Goes.ifA (X : Cx p s m meth c Z y code maxL ret) {cd : ClassFile.ACond} {o : Int} {pc' : Nat} {x z : Value} (h1 : x.isRef = true) (h2 : z.isRef = true) (k1 : acV cd (decide (x = z)) = true → Goes p l e R s m args below meth c Z a0 h0 hS ws rc rs Q H cells slots (mkF m pc' Ls st)) (k2 : acV cd (decide (x = z)) = false → Goes p l e R s m args below meth c Z a0 h0 hS ws rc rs Q H cells slots (mkF m (pc + 3) Ls st)) (hd : oAt code pc (.if_acmp cd o, 3) = true := by decide +kernel) (ho : 0 ≤ (pc : Int) + o := by decide) (hp : ((pc : Int) + o).toNat = pc' := by decide) : Goes p l e R s m args below meth c Z a0 h0 hS ws rc rs Q H cells slots (mkF m pc Ls (z :: x :: st)) := fun T locs Y N A => by
  cases q : acV cd (decide (x = z)) with
  | true => exact (k1 q T locs Y N A).via fun t r => acmp Y X.1 rfl h1 h2 (pc0 := pc) (pc' := pc') rfl (hb X.2.1 (oAt.dec hd)) rfl rfl ho (by rw [if_pos q]; exact hp.symm) r
  | false => exact (k2 q T locs Y N A).via fun t r => acmp Y X.1 rfl h1 h2 (pc0 := pc) (pc' := pc + 3) rfl (hb X.2.1 (oAt.dec hd)) rfl rfl ho (by rw [if_neg (by rw [q]; simp)]) r
theorem Goes.nullY (X : Cx p s m meth c Z y code maxL ret) {o : Int} {pc' : Nat} (k : Goes p l e R s m args below meth c Z a0 h0 hS ws rc rs Q H cells slots (mkF m pc' Ls st)) (hd : oAt code pc (.ifnull o, 3) = true := by decide +kernel) (ho : 0 ≤ (pc : Int) + o := by decide) (hp : ((pc : Int) + o).toNat = pc' := by decide) : Goes p l e R s m args below meth c Z a0 h0 hS ws rc rs Q H cells slots (mkF m pc Ls (.null :: st)) := fun T locs Y N A =>
  (k T locs Y N A).via fun t r => XS.ifnullYes Y.here X.1 rfl (pc0 := pc) rfl (hb X.2.1 (oAt.dec hd)) rfl ho hp r
theorem Goes.nullN (X : Cx p s m meth c Z y code maxL ret) {o : Int} {b : Addr} (k : Goes p l e R s m args below meth c Z a0 h0 hS ws rc rs Q H cells slots (mkF m (pc + 3) Ls st)) (hd : oAt code pc (.ifnull o, 3) = true := by decide +kernel) : Goes p l e R s m args below meth c Z a0 h0 hS ws rc rs Q H cells slots (mkF m pc Ls (.ref b :: st)) := fun T locs Y N A =>
  (k T locs Y N A).via fun t r => XS.ifnullNo Y.here X.1 rfl (hb X.2.1 (oAt.dec hd)) rfl r
theorem Goes.nonY (X : Cx p s m meth c Z y code maxL ret) {o : Int} {pc' : Nat} {b : Addr} (k : Goes p l e R s m args below meth c Z a0 h0 hS ws rc rs Q H cells slots (mkF m pc' Ls st)) (hd : oAt code pc (.ifnonnull o, 3) = true := by decide +kernel) (ho : 0 ≤ (pc : Int) + o := by decide) (hp : ((pc : Int) + o).toNat = pc' := by decide) : Goes p l e R s m args below meth c Z a0 h0 hS ws rc rs Q H cells slots (mkF m pc Ls (.ref b :: st)) := fun T locs Y N A =>
  (k T locs Y N A).via fun t r => XS.ifnonnullYes Y.here X.1 rfl (pc0 := pc) rfl (hb X.2.1 (oAt.dec hd)) rfl ho hp r
theorem Goes.nonN (X : Cx p s m meth c Z y code maxL ret) {o : Int} (k : Goes p l e R s m args below meth c Z a0 h0 hS ws rc rs Q H cells slots (mkF m (pc + 3) Ls st)) (hd : oAt code pc (.ifnonnull o, 3) = true := by decide +kernel) : Goes p l e R s m args below meth c Z a0 h0 hS ws rc rs Q H cells slots (mkF m pc Ls (.null :: st)) := fun T locs Y N A =>
  (k T locs Y N A).via fun t r => XS.ifnonnullNo Y.here X.1 rfl (hb X.2.1 (oAt.dec hd)) rfl r
theorem Goes.ldcI (X : Cx p s m meth c Z y code maxL ret) {index : Nat} {v : Int32} (w : (Jvm.Cond.constant y.cls index v).before a0 Z = true) (k : Goes p l e R s m args below meth c Z a0 h0 hS ws rc rs Q H cells slots (mkF m (pc + 2) Ls (.int v :: st))) (hd : oAt code pc (.ldc index, 2) = true := by decide +kernel) : Goes p l e R s m args below meth c Z a0 h0 hS ws rc rs Q H cells slots (mkF m pc Ls st) := fun T locs Y N A =>
  (k T locs Y N A).via fun t r => Y.ldcI X.1 X.2.2.2.1 (mvT X.2.2.2.2.2.2.2 w) rfl (hb X.2.1 (oAt.dec hd)) r
/-- fewer objects, or in another order -/
theorem Goes.sub {G : OHp} (ix : List Nat) (hG : ix.map (fun i => H[i]?) = G.map some) {g : JFrame} (k : Goes p l e R s m args below meth c Z a0 h0 hS ws rc rs Q G cells slots g) (hN : ix.Nodup := by decide) : Goes p l e R s m args below meth c Z a0 h0 hS ws rc rs Q H cells slots g := fun T locs Y N A =>
  k T locs Y N (A.sub ix hG hN)
theorem Goes.more {cells' slots' : Nat} (h1 : cells ≤ cells') (h2 : slots ≤ slots') {g : JFrame} (k : Goes p l e R s m args below meth c Z a0 h0 hS ws rc rs Q H cells' slots' g) : Goes p l e R s m args below meth c Z a0 h0 hS ws rc rs Q H cells slots g := fun T locs Y N A =>
  k T locs (Y.more h1 h2) N A
/-- two objects at two places of the list lie at two addresses -/
theorem Goes.ne {g : JFrame} (i j : Nat) {x z : Addr × OObj} (hi : H[i]? = some x) (hj : H[j]? = some z) (q : i ≠ j) (k : x.1 ≠ z.1 → Goes p l e R s m args below meth c Z a0 h0 hS ws rc rs Q H cells slots g) : Goes p l e R s m args below meth c Z a0 h0 hS ws rc rs Q H cells slots g := fun T locs Y N A =>
  k (A.ne hi hj q) T locs Y N A
theorem Goes.new (X : Cx p s m meth c Z y code maxL ret) {C : String} {index n : Nat} (fs : List OFld) (w : (Jvm.Cond.classLink y.cls index C).before a0 Z = true) (wi : (Jvm.Cond.instantiable C n).before a0 Z = true) (wz : (Jvm.Cond.initialized C).before a0 Z = true) (hfs : ∀ f ∈ fs, Laid Z a0 C f.1 f.2.1 f.2.2.1 ∧ ∃ t, parseFieldDescriptor f.2.2.1 = some t ∧ f.2.2.2 = defaultValue t) (k : ∀ a, Goes p l e R s m args below meth c Z a0 h0 hS ws rc rs Q (H ++ [(a, ob C fs)]) (cells + 1) (slots + n) (mkF m (pc + 3) Ls (.ref a :: st))) (hd : oAt code pc (.new index, 3) = true := by decide +kernel) (hc : cells + 1 ≤ R.cells := by decide) (hl : slots + n ≤ R.slots := by decide) : Goes p l e R s m args below meth c Z a0 h0 hS ws rc rs Q H cells slots (mkF m pc Ls st) := fun T locs Y N A => by
  obtain ⟨T', h', Y', e', E', X', D', -, st'⟩ := newO Y X.1 X.2.2.2.2.2.2.2 X.2.2.2.1 w wi wz rfl (g := mkF m pc Ls st) rfl (hb X.2.1 (oAt.dec hd)) hc hl
  refine (k T.heap.size T' locs Y' N ?_).via st'
  rw [e']
  refine A.new E' ⟨X', fun f hf => ?_⟩
  obtain ⟨h1, t, h2, h3⟩ := hfs f hf
  exact ⟨h1, ⟨t, h2⟩, by rw [h3]; exact D' h1 h2⟩
theorem Goes.getF (X : Cx p s m meth c Z y code maxL ret) {R0 : String} {index : Nat} (i j : Nat) {a : Addr} {C : String} {fs : List OFld} {f : OFld} (hi : H[i]? = some (a, ob C fs)) (hj : fs[j]? = some f) (w : (Jvm.Cond.fieldLink y.cls index R0 f.2.1 f.2.2.1).before a0 Z = true) (via : Via Z R0 f.1 f.2.1 f.2.2.1) (k : Goes p l e R s m args below meth c Z a0 h0 hS ws rc rs Q H cells slots (mkF m (pc + 3) Ls (f.2.2.2 :: st))) (hd : oAt code pc (.getfield index, 3) = true := by decide +kernel) : Goes p l e R s m args below meth c Z a0 h0 hS ws rc rs Q H cells slots (mkF m pc Ls (.ref a :: st)) := fun T locs Y N A => by
  have F := ((A.at hi).2 f (List.mem_of_getElem? hj)).2.2
  obtain ⟨T', Y', e', st'⟩ := RoadKit.getF Y X.1 X.2.2.2.2.2.2.2 (host := "") X.2.2.2.1 (Or.inl w) via rfl F (g := mkF m pc Ls (.ref a :: st)) rfl rfl (hb X.2.1 (oAt.dec hd))
  exact (k T' locs Y' N (by rw [e']; exact A)).via st'
theorem Goes.getFN (X : Cx p s m meth c Z y code maxL ret) {R0 host : String} {index : Nat} (i j : Nat) {a : Addr} {C : String} {fs : List OFld} {f : OFld} (hi : H[i]? = some (a, ob C fs)) (hj : fs[j]? = some f) (w : (Jvm.Cond.fieldLinkNest y.cls index R0 f.2.1 f.2.2.1 host).before a0 Z = true) (via : Via Z R0 f.1 f.2.1 f.2.2.1) (k : Goes p l e R s m args below meth c Z a0 h0 hS ws rc rs Q H cells slots (mkF m (pc + 3) Ls (f.2.2.2 :: st))) (hd : oAt code pc (.getfield index, 3) = true := by decide +kernel) : Goes p l e R s m args below meth c Z a0 h0 hS ws rc rs Q H cells slots (mkF m pc Ls (.ref a :: st)) := fun T locs Y N A => by
  have F := ((A.at hi).2 f (List.mem_of_getElem? hj)).2.2
  obtain ⟨T', Y', e', st'⟩ := RoadKit.getF Y X.1 X.2.2.2.2.2.2.2 (host := host) X.2.2.2.1 (Or.inr w) via rfl F (g := mkF m pc Ls (.ref a :: st)) rfl rfl (hb X.2.1 (oAt.dec hd))
  exact (k T' locs Y' N (by rw [e']; exact A)).via st'
theorem Goes.putF (X : Cx p s m meth c Z y code maxL ret) {R0 : String} {index kk : Nat} (i j : Nat) {a : Addr} {C : String} {fs : List OFld} {f : OFld} {v : Value} {ty : FieldType} (hi : H[i]? = some (a, ob C fs)) (hj : fs[j]? = some f) (w : (Jvm.Cond.fieldLink y.cls index R0 f.2.1 f.2.2.1).before a0 Z = true) (via : Via Z R0 f.1 f.2.1 f.2.2.1) (L : (Jvm.Cond.lays C f.1 f.2.1 f.2.2.1).before a0 Z = true ∨ ((Jvm.Cond.laysFinal C f.1 f.2.1 f.2.2.1).before a0 Z = true ∧ y.cls = f.1 ∧ y.name = "<init>")) (wi : (Jvm.Cond.instantiable C kk).before a0 Z = true) (hn : ∀ i f', fs[i]? = some f' → i ≠ j → f'.2.1 ≠ f.2.1) (hty : parseFieldDescriptor f.2.2.1 = some ty) (hnv : narrow ty v = v) (hf : fits ty v = true) (k : Goes p l e R s m args below meth c Z a0 h0 hS ws rc rs Q (H.set i (a, ob C (fs.set j (f.1, f.2.1, f.2.2.1, v)))) cells slots (mkF m (pc + 3) Ls st)) (hd : oAt code pc (.putfield index, 3) = true := by decide +kernel) : Goes p l e R s m args below meth c Z a0 h0 hS ws rc rs Q H cells slots (mkF m pc Ls (v :: .ref a :: st)) := fun T locs Y N A => by
  have O := A.at hi
  have F := (O.2 f (List.mem_of_getElem? hj)).2.2
  obtain ⟨T', h', Y', e', W, st'⟩ := RoadKit.putF Y X.1 X.2.2.2.2.2.2.2 (host := "") X.2.2.2.1 (Or.inl w) via rfl F O.1 (L.imp id fun q => ⟨q.1, q.2.1, X.2.2.2.2.1.trans q.2.2⟩) wi hty hnv hf (g := mkF m pc Ls (v :: .ref a :: st)) rfl rfl (hb X.2.1 (oAt.dec hd))
  refine (k T' _ Y' (Fr.snoc Y' N (A.2.2.1 i _ hi).1) ?_).via st'
  rw [e']
  exact A.wr hi W (OKo.put O hj hn W)
theorem Goes.getS (X : Cx p s m meth c Z y code maxL ret) {R0 O n d : String} {index : Nat} {v : Value} (w : (Jvm.Cond.fieldLink y.cls index R0 n d).before a0 Z = true) (via : Via Z R0 O n d) (F : Sta Z h0 O n d v) (k : Goes p l e R s m args below meth c Z a0 h0 hS ws rc rs Q H cells slots (mkF m (pc + 3) Ls (v :: st))) (hd : oAt code pc (.getstatic index, 3) = true := by decide +kernel) : Goes p l e R s m args below meth c Z a0 h0 hS ws rc rs Q H cells slots (mkF m pc Ls st) := fun T locs Y N A => by
  obtain ⟨T', Y', e', st'⟩ := RoadKit.getS Y X.1 X.2.2.2.2.2.2.2 (host := "") X.2.2.2.1 w via rfl (F.ext A.1) (g := mkF m pc Ls st) rfl (hb X.2.1 (oAt.dec hd))
  exact (k T' locs Y' N (by rw [e']; exact A)).via st'
theorem Goes.initO (X : Cx p s m meth c Z y code maxL ret) {index : Nat} {a : Addr} (W : Nat) (w1 : (Jvm.Cond.methodLink y.cls index Lib.objectInit).before a0 Z = true) (w2 : (Jvm.Cond.instanceMethod Lib.objectInit).before a0 Z = true) (w3 : (Jvm.Cond.code Lib.objectInit ⟨#[0xb1]⟩ 1 none).before a0 Z = true) (hsize : Ls.size = maxL) (k : Goes p l e R s m args below meth c Z a0 h0 hS ws rc rs Q H cells slots (mkF m (pc + 3) Ls st)) (hd : oAt code pc (.invokespecial index, 3) = true := by decide +kernel) (hf : 1 ≤ R.frames := by decide) (hW : (st.map fun v => v.category).sum = W := by rfl) (hl : W + 12 ≤ R.locals := by decide) : Goes p l e R s m args below meth c Z a0 h0 hS ws rc rs Q H cells slots (mkF m pc Ls (.ref a :: st)) := fun T locs Y N A => by
  subst hW
  obtain ⟨T', Y', e', st'⟩ := RoadKit.initO Y X.1 X.2.2.2.2.2.2.2 X.2.2.2.1 w1 w2 w3 rfl (g := mkF m pc Ls (.ref a :: st)) rfl (hsize.trans X.2.2.1.symm) rfl (hb X.2.1 (oAt.dec hd)) hf (W := (st.map fun v => v.category).sum) (by show 2 * 0 + _ ≤ _; omega) hl
  exact (k T' locs Y' N (by rw [e']; exact A)).via st'
/-- the return -/
theorem Goes.fin {v : Option Value} {g : JFrame} (X : Cx p s m meth c Z y code maxL ret) (hv : ret = none → v = none) (hQ : Q v H) (hc : cells ≤ rc) (hs : slots ≤ rs) (hst : ∀ (T : State) (locs : List Loc) (fs : List Frame), Stand p l e R s m args below meth c T locs cells slots → (∀ (f : JFrame) (acts : List Action), f.method = m → f.locked = none → f.entered = [] → (doReturn e (T.setTop f) acts v).1 = T.setFrames fs) → Steps p.tables e below (T.setTop g) (T.setFrames fs)) :
    Goes p l e R s m args below meth c Z a0 h0 hS ws rc rs Q H cells slots g := fun T locs Y N A => by
  obtain ⟨fs, hr, hrun, hended, hW, hsame⟩ := Y.leave (v := v) (fun q => hv (X.2.2.2.2.2.1.symm.trans q)) X.2.2.2.2.2.2.1
  exact ⟨_, _, hst T locs fs Y hr, hrun, hended, v, locs, rfl, ⟨N, H, hQ, A⟩, ⟨_, rfl⟩, hW, hsame.mono hc hs⟩
theorem Goes.retV (X : Cx p s m meth c Z y code maxL none) (hQ : Q none H) (hd : oAt code pc (.return_, 1) = true := by decide +kernel) (hc : cells ≤ rc := by decide) (hs : slots ≤ rs := by decide) : Goes p l e R s m args below meth c Z a0 h0 hS ws rc rs Q H cells slots (mkF m pc Ls []) :=
  Goes.fin X (fun _ => rfl) hQ hc hs fun T locs fs Y hr => Y.returnOut X.1 X.2.2.2.2.2.1 (hb X.2.1 (oAt.dec hd)) hr
theorem Goes.retI {z : Int32} {t : FieldType} (X : Cx p s m meth c Z y code maxL (some t)) (ht : t = .int ∨ t = .boolean ∨ t = .byte ∨ t = .char ∨ t = .short) (hn : narrow t (.int z) = .int z) (hQ : Q (some (.int z)) H) (hd : oAt code pc (.ireturn, 1) = true := by decide +kernel) (hc : cells ≤ rc := by decide) (hs : slots ≤ rs := by decide) : Goes p l e R s m args below meth c Z a0 h0 hS ws rc rs Q H cells slots (mkF m pc Ls (.int z :: st)) :=
  Goes.fin X (fun q => by cases q) hQ hc hs fun T locs fs Y hr => retOut Y X.1 X.2.2.2.2.2.1 hn (Or.inl ⟨rfl, ht, z, rfl⟩) (hb X.2.1 (oAt.dec hd)) hr
theorem Goes.retJ {z : Int64} (X : Cx p s m meth c Z y code maxL (some .long)) (hQ : Q (some (.long z)) H) (hd : oAt code pc (.lreturn, 1) = true := by decide +kernel) (hc : cells ≤ rc := by decide) (hs : slots ≤ rs := by decide) : Goes p l e R s m args below meth c Z a0 h0 hS ws rc rs Q H cells slots (mkF m pc Ls (.long z :: st)) :=
  Goes.fin X (fun q => by cases q) hQ hc hs fun T locs fs Y hr => retOut Y X.1 X.2.2.2.2.2.1 rfl (Or.inr (Or.inl ⟨rfl, rfl, z, rfl⟩)) (hb X.2.1 (oAt.dec hd)) hr
theorem Goes.retA {v : Value} {t : FieldType} (X : Cx p s m meth c Z y code maxL (some t)) (ht : t.isReference = true) (hv : v.isRef = true) (hn : narrow t v = v) (hQ : Q (some v) H) (hd : oAt code pc (.areturn, 1) = true := by decide +kernel) (hc : cells ≤ rc := by decide) (hs : slots ≤ rs := by decide) : Goes p l e R s m args below meth c Z a0 h0 hS ws rc rs Q H cells slots (mkF m pc Ls (v :: st)) :=
  Goes.fin X (fun q => by cases q) hQ hc hs fun T locs fs Y hr => retOut Y X.1 X.2.2.2.2.2.1 hn (Or.inr (Or.inr (Or.inr (Or.inr ⟨rfl, ht, hv⟩)))) (hb X.2.1 (oAt.dec hd)) hr
/-- a static call -/
theorem Goes.callS (X : Cx p s m meth c Z y code maxL ret) {index : Nat} {y' : MethodName} {code' : ByteArray} {maxL' : Nat} {ret' : Option FieldType} {rm : Room} {argsL : List Value} {F G : OHp} {Q' : Option Value → OHp → Prop} (W : Nat) (ix rx : List Nat) (D : Does l Z a0 h0 y' code' maxL' ret' rm argsL.toArray F Q') (w1 : (Jvm.Cond.methodLink y.cls index y').before a0 Z = true) (w2 : (Jvm.Cond.static y').before a0 Z = true) (w3 : (Jvm.Cond.initialized y'.cls).before a0 Z = true) (w4 : (Jvm.Cond.code y' code' maxL' ret').before a0 Z = true) {ps : List FieldType} {r : Option FieldType} (hpd : parseMethodDescriptor y'.desc = some ⟨ps, r⟩) (hlen : argsL.length = ps.length) {stk : List Value} (hstk : stk = argsL.reverse ++ st) (hsize : Ls.size = maxL) (hF : ix.map (fun i => H[i]?) = F.map some) (hG : rx.map (fun i => H[i]?) = G.map some) (k : ∀ v F', Q' v F' → Goes p l e R s m args below meth c Z a0 h0 hS ws rc rs Q (F' ++ G) (cells + rm.cells) (slots + rm.slots) (mkF m (pc + 3) Ls (v.toList ++ st))) (hy : y'.cls ≠ "java/lang/invoke/MethodHandle" ∧ y'.cls ≠ "java/lang/invoke/VarHandle" := by decide) (hN : (ix ++ rx).Nodup := by decide) (hd : oAt code pc (.invokestatic index, 3) = true := by decide +kernel) (hfr : rm.frames + 1 ≤ R.frames := by decide) (hW : (st.map fun v => v.category).sum = W := by rfl) (hlo : W + (maxL' + 11) + rm.locals ≤ R.locals := by decide) (hce : cells + rm.cells ≤ R.cells := by decide) (hsl : slots + rm.slots ≤ R.slots := by decide) : Goes p l e R s m args below meth c Z a0 h0 hS ws rc rs Q H cells slots (mkF m pc Ls stk) := fun T locs Y N A => by
  subst hstk hW
  have NN := List.nodup_append.mp hN
  obtain ⟨v, vm1, ⟨T', L', k', n'⟩, -, Y', ⟨Lc, ⟨N', F', hQ', B⟩, l', k'', n''⟩, st'⟩ := Jvm.LawKit.callS Y X.1 (y := y') X.2.2.2.1 (mvT X.2.2.2.2.2.2.2 w1) (mvT X.2.2.2.2.2.2.2 w2) (mvT X.2.2.2.2.2.2.2 w3) (mvT X.2.2.2.2.2.2.2 w4) hy
    (backOf (W := (st.map fun v => v.category).sum) (Q := fun v h' L => Fr h0.size L ∧ ∃ F', Q' v F' ∧ Hp Z a0 h0 T.heap (F.map (·.1)) h' F') (D [] T.heap ((A.sub ix hF NN.1).enter)) X.2.2.2.2.2.2.2 w4 w3 hfr hlo) (g := mkF m pc Ls (argsL.reverse ++ st)) rfl (hsize.trans X.2.2.1.symm) (argsL := argsL) (rest := st) (lenOf hpd hlen) rfl (by show 2 * 0 + _ ≤ _; omega) (hb X.2.1 (oAt.dec hd)) (fun _ _ => ⟨rfl, rfl, hce, hsl⟩)
  dsimp only [Pt.U, Pt.locs, Pt.cells, Pt.slots] at Y' l' k'' n'' st' B
  subst l' k'' n''
  exact (k v F' hQ' T' _ Y' (N.app N') (A.back hF hG hN B)).via st'
/-- a constructor's call -/
theorem Goes.callN (X : Cx p s m meth c Z y code maxL ret) {index : Nat} {y' : MethodName} {code' : ByteArray} {maxL' : Nat} {rm : Room} {argsL : List Value} {a : Addr} {F G : OHp} {Q' : Option Value → OHp → Prop} (W : Nat) (ix rx : List Nat) (D : Does l Z a0 h0 y' code' maxL' none rm (.ref a :: argsL).toArray F Q') (hy1 : y'.name = "<init>") (w1 : (Jvm.Cond.methodLink y.cls index y').before a0 Z = true) (w2 : (Jvm.Cond.instanceMethod y').before a0 Z = true) (w3 : (Jvm.Cond.initialized y'.cls).before a0 Z = true) (w4 : (Jvm.Cond.code y' code' maxL' none).before a0 Z = true) {ps : List FieldType} {r : Option FieldType} (hpd : parseMethodDescriptor y'.desc = some ⟨ps, r⟩) (hlen : argsL.length = ps.length) {stk : List Value} (hstk : stk = argsL.reverse ++ .ref a :: st) (hsize : Ls.size = maxL) (hF : ix.map (fun i => H[i]?) = F.map some) (hG : rx.map (fun i => H[i]?) = G.map some) (k : ∀ v F', Q' v F' → Goes p l e R s m args below meth c Z a0 h0 hS ws rc rs Q (F' ++ G) (cells + rm.cells) (slots + rm.slots) (mkF m (pc + 3) Ls (v.toList ++ st))) (hy : y'.cls ≠ "java/lang/invoke/MethodHandle" ∧ y'.cls ≠ "java/lang/invoke/VarHandle" := by decide) (hN : (ix ++ rx).Nodup := by decide) (hd : oAt code pc (.invokespecial index, 3) = true := by decide +kernel) (hfr : rm.frames + 1 ≤ R.frames := by decide) (hW : (st.map fun v => v.category).sum = W := by rfl) (hlo : W + (maxL' + 11) + rm.locals ≤ R.locals := by decide) (hce : cells + rm.cells ≤ R.cells := by decide) (hsl : slots + rm.slots ≤ R.slots := by decide) : Goes p l e R s m args below meth c Z a0 h0 hS ws rc rs Q H cells slots (mkF m pc Ls stk) := fun T locs Y N A => by
  subst hstk hW
  have NN := List.nodup_append.mp hN
  obtain ⟨v, vm1, ⟨T', L', k', n'⟩, -, Y', ⟨Lc, ⟨N', F', hQ', B⟩, l', k'', n''⟩, st'⟩ := Y.specialBack X.1 (y := y') hy1 X.2.2.2.1 (mvT X.2.2.2.2.2.2.2 w1) (mvT X.2.2.2.2.2.2.2 w2) (mvT X.2.2.2.2.2.2.2 w4) hy
    (backOf (W := (st.map fun v => v.category).sum) (Q := fun v h' L => Fr h0.size L ∧ ∃ F', Q' v F' ∧ Hp Z a0 h0 T.heap (F.map (·.1)) h' F') (D [] T.heap ((A.sub ix hF NN.1).enter)) X.2.2.2.2.2.2.2 w4 w3 hfr hlo) (g := mkF m pc Ls (argsL.reverse ++ .ref a :: st)) rfl (hsize.trans X.2.2.1.symm) (Steps.refl _) (a := a) (argsL := argsL) (rest := st) (lenOf hpd hlen) rfl (by show 2 * 0 + _ ≤ _; omega) (hb X.2.1 (oAt.dec hd)) (fun _ _ => ⟨rfl, rfl, hce, hsl⟩)
  dsimp only [Pt.U, Pt.locs, Pt.cells, Pt.slots] at Y' l' k'' n'' st' B
  subst l' k'' n''
  exact (k v F' hQ' T' _ Y' (N.app N') (A.back hF hG hN B)).via fun t q => st'.trans q
/-- a virtual call on an object of the list -/
theorem Goes.callV (X : Cx p s m meth c Z y code maxL ret) {index : Nat} {y' z' : MethodName} {code' : ByteArray} {maxL' : Nat} {ret' : Option FieldType} {rm : Room} {argsL : List Value} {a : Addr} {C : String} {F G : OHp} {Q' : Option Value → OHp → Prop} (W : Nat) (i : Nat) (ix rx : List Nat) {fs : List OFld} (hi : H[i]? = some (a, ob C fs)) (D : Does l Z a0 h0 z' code' maxL' ret' rm (.ref a :: argsL).toArray F Q') (w1 : (Jvm.Cond.methodLink y.cls index y').before a0 Z = true) (w2 : (Jvm.Cond.declares y').before a0 Z = true) (w5 : (Jvm.Cond.selects C y' z').before a0 Z = true) (w6 : (Jvm.Cond.instanceMethod z').before a0 Z = true) (nf : NotFace s y') (w3 : (Jvm.Cond.initialized z'.cls).before a0 Z = true) (w4 : (Jvm.Cond.code z' code' maxL' ret').before a0 Z = true) {ps : List FieldType} {r : Option FieldType} (hpd : parseMethodDescriptor y'.desc = some ⟨ps, r⟩) (hlen : argsL.length = ps.length) {stk : List Value} (hstk : stk = argsL.reverse ++ .ref a :: st) (hsize : Ls.size = maxL) (hF : ix.map (fun i => H[i]?) = F.map some) (hG : rx.map (fun i => H[i]?) = G.map some) (k : ∀ v F', Q' v F' → Goes p l e R s m args below meth c Z a0 h0 hS ws rc rs Q (F' ++ G) (cells + rm.cells) (slots + rm.slots) (mkF m (pc + 3) Ls (v.toList ++ st))) (hy : y'.cls ≠ "java/lang/invoke/MethodHandle" ∧ y'.cls ≠ "java/lang/invoke/VarHandle" := by decide) (hN : (ix ++ rx).Nodup := by decide) (hd : oAt code pc (.invokevirtual index, 3) = true := by decide +kernel) (hfr : rm.frames + 1 ≤ R.frames := by decide) (hW : (st.map fun v => v.category).sum = W := by rfl) (hlo : W + (maxL' + 11) + rm.locals ≤ R.locals := by decide) (hce : cells + rm.cells ≤ R.cells := by decide) (hsl : slots + rm.slots ≤ R.slots := by decide) : Goes p l e R s m args below meth c Z a0 h0 hS ws rc rs Q H cells slots (mkF m pc Ls stk) := fun T locs Y N A => by
  subst hstk hW
  have NN := List.nodup_append.mp hN
  obtain ⟨cq, kq, qa, qb, qc⟩ := isOf (T := T) X.2.2.2.2.2.2.2 rfl (A.at hi).1
  obtain ⟨v, vm1, ⟨T', L', k', n'⟩, -, Y', ⟨Lc, ⟨N', F', hQ', B⟩, l', k'', n''⟩, st'⟩ := Y.virtualBack X.1 (y := y') (z := z') X.2.2.2.1 (mvT X.2.2.2.2.2.2.2 w1) (mvT X.2.2.2.2.2.2.2 w2) nf (mvT X.2.2.2.2.2.2.2 w5) (mvT X.2.2.2.2.2.2.2 w6) hy
    (backOf (W := (st.map fun v => v.category).sum) (Q := fun v h' L => Fr h0.size L ∧ ∃ F', Q' v F' ∧ Hp Z a0 h0 T.heap (F.map (·.1)) h' F') (D [] T.heap ((A.sub ix hF NN.1).enter)) X.2.2.2.2.2.2.2 w4 w3 hfr hlo) qa qc (g := mkF m pc Ls (argsL.reverse ++ .ref a :: st)) rfl (hsize.trans X.2.2.1.symm) (Steps.refl _) (argsL := argsL) (rest := st) (lenOf hpd hlen) rfl (by show 2 * 0 + _ ≤ _; omega) (hb X.2.1 (oAt.dec hd)) (fun _ _ => ⟨rfl, rfl, hce, hsl⟩)
  dsimp only [Pt.U, Pt.locs, Pt.cells, Pt.slots] at Y' l' k'' n'' st' B
  subst l' k'' n''
  exact (k v F' hQ' T' _ Y' (N.app N') (A.back hF hG hN B)).via fun t q => st'.trans q
theorem own_nf (X : Cx p s m meth c Z y code maxL ret) {C : String} {y' : MethodName} (w5 : (Jvm.Cond.selects C y' y').before a0 Z = true) : NotFace s y' := notFace_of_selects (args := #[]) (mvT X.2.2.2.2.2.2.2 w5)
end Goes
/-! ## own kit, part 4: arrays; objects that stood at the start -/
section Arrs
variable {p : Program} {l : Launch} {e : Env} {R : Room} {s : State} {m : MethodId} {args : Array Value} {below : List Frame} {meth : Method} {c : Code} {Z : State} {a0 : Array Value} {h0 hS : Heap} {ws : List Addr} {rc rs : Nat} {Q : Option Value → OHp → Prop} {H : OHp} {cells slots : Nat} {y : MethodName} {code : ByteArray} {maxL : Nat} {ret : Option FieldType} {pc : Nat} {Ls : Array Slot} {st : List Value}
theorem Goes.newarr (X : Cx p s m meth c Z y code maxL ret) {aty : ArrayType} {n : Int32} (D : String) (nn cap : Nat) (w : (Jvm.Cond.arrayClass (newarray.typeOf aty)).before a0 Z = true) (hD : "[" ++ (newarray.typeOf aty).toString = D) (hn : ¬ n < 0) (hnn : n.toNatClampNeg = nn) (k : ∀ a, Goes p l e R s m args below meth c Z a0 h0 hS ws rc rs Q (H ++ [(a, ar D (newarray.typeOf aty) (List.replicate nn (defaultValue (newarray.typeOf aty))))]) (cells + 1) (slots + cap) (mkF m (pc + 2) Ls (.ref a :: st))) (hd : oAt code pc (.newarray aty, 2) = true := by decide +kernel) (hcap : nn ≤ cap := by decide) (hb8 : cap * 8 ≤ 536870912 := by decide) (hc : cells + 1 ≤ R.cells := by decide) (hl : slots + cap ≤ R.slots := by decide) : Goes p l e R s m args below meth c Z a0 h0 hS ws rc rs Q H cells slots (mkF m pc Ls (.int n :: st)) := fun T locs Y N A => by
  have hZ := X.2.2.2.2.2.2.2
  have hcb : componentBytes (newarray.typeOf aty) ≤ 8 := by cases aty <;> decide
  subst hnn hD
  obtain ⟨cA, kA, comp, h1, h2, h3, Y', st'⟩ := Y.newarrayPrim X.1 (mvA hZ w) (g := mkF m pc Ls (.int n :: st)) rfl (hb X.2.1 (oAt.dec hd)) rfl hn (Nat.le_trans (Nat.mul_le_mul hcap hcb) hb8) hc (by omega)
  rw [hZ.alike.findClass] at h1
  obtain ⟨kZ, z1, -⟩ := Vm.findClass_spec h1
  obtain ⟨k', z2, z3⟩ := hZ.alike.2.2 _ _ z1
  cases h2.symm.trans z2
  refine (k T.heap.size _ locs (Y'.more (Nat.le_refl _) (by omega)) N ?_).via st'
  refine A.new (ext_of fun a q => Array.getElem?_push_lt q |>.trans (Array.getElem?_eq_getElem q).symm) ?_
  refine ⟨newA cA (newarray.typeOf aty) n, ⟨?_, ⟨by simp [newA], kZ, z1, comp, by rw [← h3, z3]⟩, by simp [newA]⟩, ?_, ?_, h1, ?_⟩
  · show (T.heap.push _)[T.heap.size]? = _; simp [newA]
  · simp [newA]
  · rw [List.length_replicate]; exact (back32 hn).2
  · intro v hv
    rw [List.eq_of_mem_replicate hv]
    cases aty <;> rfl
theorem Goes.anewarr (X : Cx p s m meth c Z y code maxL ret) {C : String} {index : Nat} {n : Int32} (D : String) (nn cap : Nat) (w : (Jvm.Cond.classLink y.cls index C).before a0 Z = true) (w2 : (Jvm.Cond.arrayOver (.object C)).before a0 Z = true) (hD : "[" ++ (FieldType.object C).toString = D) (hn : ¬ n < 0) (hnn : n.toNatClampNeg = nn) (k : ∀ a, Goes p l e R s m args below meth c Z a0 h0 hS ws rc rs Q (H ++ [(a, ar D (.object C) (List.replicate nn .null))]) (cells + 1) (slots + cap) (mkF m (pc + 3) Ls (.ref a :: st))) (hd : oAt code pc (.anewarray index, 3) = true := by decide +kernel) (hcap : nn ≤ cap := by decide) (hb8 : cap * 8 ≤ 536870912 := by decide) (hc : cells + 1 ≤ R.cells := by decide) (hl : slots + cap ≤ R.slots := by decide) : Goes p l e R s m args below meth c Z a0 h0 hS ws rc rs Q H cells slots (mkF m pc Ls (.int n :: st)) := fun T locs Y N A => by
  have hZ := X.2.2.2.2.2.2.2
  subst hnn hD
  have w2' : (Jvm.Cond.arrayOver (.object C)).before args s = true := Cond.arrayOver_alike hZ.alike w2
  obtain ⟨vm₁, cA, kA, comp, -, h1, h2, h3, h4, Y', st'⟩ := Y.anewarrayRefK X.1 X.2.2.2.1 (mv hZ w) w2' (g := mkF m pc Ls (.int n :: st)) rfl (hb X.2.1 (oAt.dec hd)) rfl hn (by omega) hc (by omega)
  rw [hZ.alike.findClass] at h1
  obtain ⟨kZ, z1, -⟩ := Vm.findClass_spec h1
  obtain ⟨k', z2, z3⟩ := hZ.alike.2.2 _ _ z1
  cases h2.symm.trans z2
  refine (k T.heap.size _ locs (Y'.more (Nat.le_refl _) (by omega)) N ?_).via st'
  refine A.new (ext_of fun a q => Array.getElem?_push_lt q |>.trans (Array.getElem?_eq_getElem q).symm) ?_
  refine ⟨newA cA (.object C) n, ⟨?_, ⟨by simp [newA], kZ, z1, comp, by rw [← h3, z3]⟩, by simp [newA]⟩, ?_, ?_, h1, ?_⟩
  · show (T.heap.push _)[T.heap.size]? = _; simp [newA, defaultValue]
  · simp [newA, defaultValue]
  · rw [List.length_replicate]; exact (back32 hn).2
  · intro v hv
    rw [List.eq_of_mem_replicate hv]; rfl
theorem own_inb {cl : Cell} {vs : List Value} {j : Int32} {jn : Nat} (hs : cl.slots = vs.toArray) (hj : j.toNatClampNeg = jn) (h0 : ¬ j < 0) (hlt : jn < vs.length) : ¬ (j < 0 ∨ cl.slots.size ≤ j.toNatClampNeg) := by
  subst hj; rw [hs]; simp only [List.size_toArray]; rintro (q | q)
  · exact h0 q
  · omega
theorem own_get {cl : Cell} {vs : List Value} {j : Int32} {jn : Nat} {v : Value} (hs : cl.slots = vs.toArray) (hj : j.toNatClampNeg = jn) (hv : vs[jn]? = some v) : cl.slots[j.toNatClampNeg]? = some v := by
  rw [hs, hj]; simpa using hv
theorem Goes.alen (X : Cx p s m meth c Z y code maxL ret) (i : Nat) {a : Addr} {D : String} {ty : FieldType} {vs : List Value} {n : Int32} (hi : H[i]? = some (a, ar D ty vs)) (hn : vs.length.toInt32 = n) (k : Goes p l e R s m args below meth c Z a0 h0 hS ws rc rs Q H cells slots (mkF m (pc + 1) Ls (.int n :: st))) (hd : oAt code pc (.arraylength, 1) = true := by decide +kernel) : Goes p l e R s m args below meth c Z a0 h0 hS ws rc rs Q H cells slots (mkF m pc Ls (.ref a :: st)) := fun T locs Y N A => by
  obtain ⟨cl, O, hs, -⟩ := A.at hi
  refine (k T locs Y N A).via fun t q => Y.arraylength X.1 O.1 (State.isArrayOf_alike X.2.2.2.2.2.2.2.alike O.2.1) (g := mkF m pc Ls (.ref a :: st)) rfl rfl (hb X.2.1 (oAt.dec hd)) t ?_
  rw [hs, List.size_toArray, hn]; exact q
theorem Goes.caload (X : Cx p s m meth c Z y code maxL ret) (i jn : Nat) {a : Addr} {D : String} {vs : List Value} {j : Int32} {v : Value} (hi : H[i]? = some (a, ar D .char vs)) (hj : j.toNatClampNeg = jn) (hj0 : ¬ j < 0) (hv : vs[jn]? = some v) (k : Goes p l e R s m args below meth c Z a0 h0 hS ws rc rs Q H cells slots (mkF m (pc + 1) Ls (v :: st))) (hd : oAt code pc (.caload, 1) = true := by decide +kernel) : Goes p l e R s m args below meth c Z a0 h0 hS ws rc rs Q H cells slots (mkF m pc Ls (.int j :: .ref a :: st)) := fun T locs Y N A => by
  obtain ⟨cl, O, hs, -⟩ := A.at hi
  exact (k T locs Y N A).via fun t q => Y.caload X.1 O.1 (State.isArrayOf_alike X.2.2.2.2.2.2.2.alike O.2.1) O.2.2 (own_inb hs hj hj0 (List.getElem?_eq_some_iff.mp hv).1) (own_get hs hj hv) (g := mkF m pc Ls (.int j :: .ref a :: st)) rfl rfl (hb X.2.1 (oAt.dec hd)) t q
theorem Goes.baload (X : Cx p s m meth c Z y code maxL ret) (i jn : Nat) {a : Addr} {D : String} {vs : List Value} {j : Int32} {v : Value} (hi : H[i]? = some (a, ar D .byte vs)) (hj : j.toNatClampNeg = jn) (hj0 : ¬ j < 0) (hv : vs[jn]? = some v) (k : Goes p l e R s m args below meth c Z a0 h0 hS ws rc rs Q H cells slots (mkF m (pc + 1) Ls (v :: st))) (hd : oAt code pc (.baload, 1) = true := by decide +kernel) : Goes p l e R s m args below meth c Z a0 h0 hS ws rc rs Q H cells slots (mkF m pc Ls (.int j :: .ref a :: st)) := fun T locs Y N A => by
  obtain ⟨cl, O, hs, -⟩ := A.at hi
  exact (k T locs Y N A).via fun t q => Y.baloadBytes X.1 O.1 (State.isArrayOf_alike X.2.2.2.2.2.2.2.alike O.2.1) O.2.2 (own_inb hs hj hj0 (List.getElem?_eq_some_iff.mp hv).1) (own_get hs hj hv) (g := mkF m pc Ls (.int j :: .ref a :: st)) rfl rfl (hb X.2.1 (oAt.dec hd)) t q
theorem Goes.aaload (X : Cx p s m meth c Z y code maxL ret) (i jn : Nat) {a : Addr} {D : String} {ty : FieldType} {vs : List Value} {j : Int32} {v : Value} (hi : H[i]? = some (a, ar D ty vs)) (hty : ty.isReference = true) (hj : j.toNatClampNeg = jn) (hj0 : ¬ j < 0) (hv : vs[jn]? = some v) (k : Goes p l e R s m args below meth c Z a0 h0 hS ws rc rs Q H cells slots (mkF m (pc + 1) Ls (v :: st))) (hd : oAt code pc (.aaload, 1) = true := by decide +kernel) : Goes p l e R s m args below meth c Z a0 h0 hS ws rc rs Q H cells slots (mkF m pc Ls (.int j :: .ref a :: st)) := fun T locs Y N A => by
  obtain ⟨cl, O, hs, -⟩ := A.at hi
  exact (k T locs Y N A).via fun t q => Y.aaload X.1 O.1 (State.isArrayOf_alike X.2.2.2.2.2.2.2.alike O.2.1) hty O.2.2 (own_inb hs hj hj0 (List.getElem?_eq_some_iff.mp hv).1) (own_get hs hj hv) (g := mkF m pc Ls (.int j :: .ref a :: st)) rfl rfl (hb X.2.1 (oAt.dec hd)) t q
theorem Goes.castore (X : Cx p s m meth c Z y code maxL ret) (i jn : Nat) {a : Addr} {D : String} {vs : List Value} {j x : Int32} (hi : H[i]? = some (a, ar D .char vs)) (hj : j.toNatClampNeg = jn) (hj0 : ¬ j < 0) (hlt : jn < vs.length) (k : Goes p l e R s m args below meth c Z a0 h0 hS ws rc rs Q (H.set i (a, ar D .char (vs.set jn (.int (nar .char x))))) cells slots (mkF m (pc + 1) Ls st)) (hd : oAt code pc (.castore, 1) = true := by decide +kernel) : Goes p l e R s m args below meth c Z a0 h0 hS ws rc rs Q H cells slots (mkF m pc Ls (.int x :: .int j :: .ref a :: st)) := fun T locs Y N A => by
  have O := A.at hi
  obtain ⟨cl, O1, hs, -⟩ := A.at hi
  subst hj
  obtain ⟨T', h', Y', e', W, st'⟩ := stC Y X.1 X.2.2.2.2.2.2.2 rfl O1 (own_inb hs rfl hj0 hlt) (g := mkF m pc Ls (.int x :: .int j :: .ref a :: st)) rfl rfl (hb X.2.1 (oAt.dec hd))
  refine (k T' _ Y' (Fr.snoc Y' N (A.2.2.1 i _ hi).1) ?_).via st'
  rw [e']
  exact A.wr hi W (OKa.store O W (fits_nar_char x))
theorem Goes.bastore (X : Cx p s m meth c Z y code maxL ret) (i jn : Nat) {a : Addr} {D : String} {vs : List Value} {j x : Int32} (hi : H[i]? = some (a, ar D .byte vs)) (hj : j.toNatClampNeg = jn) (hj0 : ¬ j < 0) (hlt : jn < vs.length) (k : Goes p l e R s m args below meth c Z a0 h0 hS ws rc rs Q (H.set i (a, ar D .byte (vs.set jn (.int (nar .byte x))))) cells slots (mkF m (pc + 1) Ls st)) (hd : oAt code pc (.bastore, 1) = true := by decide +kernel) : Goes p l e R s m args below meth c Z a0 h0 hS ws rc rs Q H cells slots (mkF m pc Ls (.int x :: .int j :: .ref a :: st)) := fun T locs Y N A => by
  have O := A.at hi
  obtain ⟨cl, O1, hs, -⟩ := A.at hi
  subst hj
  obtain ⟨T', h', Y', e', W, st'⟩ := stB Y X.1 X.2.2.2.2.2.2.2 rfl O1 (own_inb hs rfl hj0 hlt) (g := mkF m pc Ls (.int x :: .int j :: .ref a :: st)) rfl rfl (hb X.2.1 (oAt.dec hd))
  refine (k T' _ Y' (Fr.snoc Y' N (A.2.2.1 i _ hi).1) ?_).via st'
  rw [e']
  exact A.wr hi W (OKa.store O W (fits_nar_byte x))
theorem own_fitC {h : Heap} {a : Addr} {cl : Cell} {ty : FieldType} {vs : List Value} (O : Arr Z h a cl ty) (hs : cl.slots = vs.toArray) (hv : ∀ v ∈ vs, fits ty v = true) : FitC Z cl := fun i v q => by
  obtain ⟨-, k, hk, comp, hkind⟩ := O.2.1
  rw [hs] at q
  have q2 : v ∈ vs := List.mem_of_getElem? (by simpa using q)
  simp [State.fitsSlot, State.slotType?, hk, hkind, hv v q2]
theorem Goes.clone (X : Cx p s m meth c Z y code maxL ret) {index : Nat} (W : Nat) (i : Nat) (cap : Nat) {a : Addr} {D : String} {ty : FieldType} {vs : List Value} (w1 : (Jvm.Cond.methodLink y.cls index ⟨D, "clone", "()Ljava/lang/Object;"⟩).before a0 Z = true) (w2 : (Jvm.Cond.sameMethod D "java/lang/Object" "clone" "()Ljava/lang/Object;").before a0 Z = true) (w3 : (Jvm.Cond.native ⟨"java/lang/Object", "clone", "()Ljava/lang/Object;"⟩).before a0 Z = true) (w4 : (Jvm.Cond.instanceMethod ⟨"java/lang/Object", "clone", "()Ljava/lang/Object;"⟩).before a0 Z = true) (w5 : (Jvm.Cond.selects D ⟨D, "clone", "()Ljava/lang/Object;"⟩ ⟨"java/lang/Object", "clone", "()Ljava/lang/Object;"⟩).before a0 Z = true) (w6 : (Jvm.Cond.castable D "java/lang/Cloneable").before a0 Z = true) (hi : H[i]? = some (a, ar D ty vs)) (hsize : Ls.size = maxL) (k : ∀ b, Goes p l e R s m args below meth c Z a0 h0 hS ws rc rs Q (H ++ [(b, ar D ty vs)]) (cells + 1) (slots + cap) (mkF m (pc + 3) Ls (.ref b :: st))) (hd : oAt code pc (.invokevirtual index, 3) = true := by decide +kernel) (hf : 1 ≤ R.frames := by decide) (hW : (st.map fun v => v.category).sum = W := by rfl) (hl : W + 14 ≤ R.locals := by decide) (hcap : vs.length ≤ cap := by decide) (hc : cells + 1 ≤ R.cells := by decide) (hsl : slots + cap ≤ R.slots := by decide) : Goes p l e R s m args below meth c Z a0 h0 hS ws rc rs Q H cells slots (mkF m pc Ls (.ref a :: st)) := fun T locs Y N A => by
  have E := (A.at hi : OKa Z T.heap a D ty vs).exa
  obtain ⟨cl, O1, hs, hlen, hfc, hv⟩ := A.at hi
  subst hW
  obtain ⟨T', h', Y', e', E', A', X', st'⟩ := cloneA Y X.1 X.2.2.2.2.2.2.2 X.2.2.2.1 w1 w2 w3 w4 w5 w6 rfl O1 E (own_fitC O1 hs hv) (g := mkF m pc Ls (.ref a :: st)) rfl (hsize.trans X.2.2.1.symm) rfl (hb X.2.1 (oAt.dec hd)) hf (W := (st.map fun v => v.category).sum) (cap := cap) (by show 2 * 0 + _ ≤ _; omega) hl (by rw [hs, List.size_toArray]; exact hcap) hc hsl
  refine (k T.heap.size T' locs Y' N ?_).via st'
  rw [e']
  exact A.new E' ⟨_, A', hs, hlen, hfc, hv⟩
theorem Goes.castA (X : Cx p s m meth c Z y code maxL ret) {K : String} {index : Nat} (i : Nat) {a : Addr} {D : String} {ty : FieldType} {vs : List Value} (w : (Jvm.Cond.classLink y.cls index K).before a0 Z = true) (wc : (Jvm.Cond.castable D K).before a0 Z = true) (hi : H[i]? = some (a, ar D ty vs)) (k : Goes p l e R s m args below meth c Z a0 h0 hS ws rc rs Q H cells slots (mkF m (pc + 3) Ls (.ref a :: st))) (hd : oAt code pc (.checkcast index, 3) = true := by decide +kernel) : Goes p l e R s m args below meth c Z a0 h0 hS ws rc rs Q H cells slots (mkF m pc Ls (.ref a :: st)) := fun T locs Y N A => by
  have E := (A.at hi : OKa Z T.heap a D ty vs).exa
  obtain ⟨T', Y', e', st'⟩ := castY Y X.1 X.2.2.2.2.2.2.2 X.2.2.2.1 w rfl (Ins.of_exa E wc) (g := mkF m pc Ls (.ref a :: st)) rfl rfl (hb X.2.1 (oAt.dec hd))
  exact (k T' locs Y' N (by rw [e']; exact A)).via st'
theorem Goes.castO (X : Cx p s m meth c Z y code maxL ret) {K : String} {index : Nat} (i : Nat) {a : Addr} {C : String} {fs : List OFld} (w : (Jvm.Cond.classLink y.cls index K).before a0 Z = true) (wc : (Jvm.Cond.castable C K).before a0 Z = true) (hi : H[i]? = some (a, ob C fs)) (k : Goes p l e R s m args below meth c Z a0 h0 hS ws rc rs Q H cells slots (mkF m (pc + 3) Ls (.ref a :: st))) (hd : oAt code pc (.checkcast index, 3) = true := by decide +kernel) : Goes p l e R s m args below meth c Z a0 h0 hS ws rc rs Q H cells slots (mkF m pc Ls (.ref a :: st)) := fun T locs Y N A => by
  obtain ⟨T', Y', e', st'⟩ := castY Y X.1 X.2.2.2.2.2.2.2 X.2.2.2.1 w rfl (Ins.of_exa (A.at hi).1 wc) (g := mkF m pc Ls (.ref a :: st)) rfl rfl (hb X.2.1 (oAt.dec hd))
  exact (k T' locs Y' N (by rw [e']; exact A)).via st'
/-- a field of an object that stood at the start -/
theorem Goes.getFo (X : Cx p s m meth c Z y code maxL ret) {R0 O n d : String} {index : Nat} {a : Addr} {v : Value} (w : (Jvm.Cond.fieldLink y.cls index R0 n d).before a0 Z = true) (via : Via Z R0 O n d) (F : Fld Z h0 a O n d v) (k : Goes p l e R s m args below meth c Z a0 h0 hS ws rc rs Q H cells slots (mkF m (pc + 3) Ls (v :: st))) (hd : oAt code pc (.getfield index, 3) = true := by decide +kernel) : Goes p l e R s m args below meth c Z a0 h0 hS ws rc rs Q H cells slots (mkF m pc Ls (.ref a :: st)) := fun T locs Y N A => by
  obtain ⟨T', Y', e', st'⟩ := RoadKit.getF Y X.1 X.2.2.2.2.2.2.2 (host := "") X.2.2.2.1 (Or.inl w) via rfl (F.ext A.1) (g := mkF m pc Ls (.ref a :: st)) rfl rfl (hb X.2.1 (oAt.dec hd))
  exact (k T' locs Y' N (by rw [e']; exact A)).via st'
/-- a virtual call on an object that stood at the start -/
theorem Goes.callVo (X : Cx p s m meth c Z y code maxL ret) {index : Nat} {y' z' : MethodName} {code' : ByteArray} {maxL' : Nat} {ret' : Option FieldType} {rm : Room} {argsL : List Value} {a : Addr} {C : String} {F G : OHp} {Q' : Option Value → OHp → Prop} (W : Nat) (ix rx : List Nat) (E : Exa Z h0 a C) (D : Does l Z a0 h0 z' code' maxL' ret' rm (.ref a :: argsL).toArray F Q') (w1 : (Jvm.Cond.methodLink y.cls index y').before a0 Z = true) (w2 : (Jvm.Cond.declares y').before a0 Z = true) (w5 : (Jvm.Cond.selects C y' z').before a0 Z = true) (w6 : (Jvm.Cond.instanceMethod z').before a0 Z = true) (nf : NotFace s y') (w3 : (Jvm.Cond.initialized z'.cls).before a0 Z = true) (w4 : (Jvm.Cond.code z' code' maxL' ret').before a0 Z = true) {ps : List FieldType} {r : Option FieldType} (hpd : parseMethodDescriptor y'.desc = some ⟨ps, r⟩) (hlen : argsL.length = ps.length) {stk : List Value} (hstk : stk = argsL.reverse ++ .ref a :: st) (hsize : Ls.size = maxL) (hF : ix.map (fun i => H[i]?) = F.map some) (hG : rx.map (fun i => H[i]?) = G.map some) (k : ∀ v F', Q' v F' → Goes p l e R s m args below meth c Z a0 h0 hS ws rc rs Q (F' ++ G) (cells + rm.cells) (slots + rm.slots) (mkF m (pc + 3) Ls (v.toList ++ st))) (hy : y'.cls ≠ "java/lang/invoke/MethodHandle" ∧ y'.cls ≠ "java/lang/invoke/VarHandle" := by decide) (hN : (ix ++ rx).Nodup := by decide) (hd : oAt code pc (.invokevirtual index, 3) = true := by decide +kernel) (hfr : rm.frames + 1 ≤ R.frames := by decide) (hW : (st.map fun v => v.category).sum = W := by rfl) (hlo : W + (maxL' + 11) + rm.locals ≤ R.locals := by decide) (hce : cells + rm.cells ≤ R.cells := by decide) (hsl : slots + rm.slots ≤ R.slots := by decide) : Goes p l e R s m args below meth c Z a0 h0 hS ws rc rs Q H cells slots (mkF m pc Ls stk) := fun T locs Y N A => by
  subst hstk hW
  have NN := List.nodup_append.mp hN
  obtain ⟨cq, kq, qa, qb, qc⟩ := isOf (T := T) X.2.2.2.2.2.2.2 rfl (E.ext A.1)
  obtain ⟨v, vm1, ⟨T', L', k', n'⟩, -, Y', ⟨Lc, ⟨N', F', hQ', B⟩, l', k'', n''⟩, st'⟩ := Y.virtualBack X.1 (y := y') (z := z') X.2.2.2.1 (mvT X.2.2.2.2.2.2.2 w1) (mvT X.2.2.2.2.2.2.2 w2) nf (mvT X.2.2.2.2.2.2.2 w5) (mvT X.2.2.2.2.2.2.2 w6) hy
    (backOf (W := (st.map fun v => v.category).sum) (Q := fun v h' L => Fr h0.size L ∧ ∃ F', Q' v F' ∧ Hp Z a0 h0 T.heap (F.map (·.1)) h' F') (D [] T.heap ((A.sub ix hF NN.1).enter)) X.2.2.2.2.2.2.2 w4 w3 hfr hlo) qa qc (g := mkF m pc Ls (argsL.reverse ++ .ref a :: st)) rfl (hsize.trans X.2.2.1.symm) (Steps.refl _) (argsL := argsL) (rest := st) (lenOf hpd hlen) rfl (by show 2 * 0 + _ ≤ _; omega) (hb X.2.1 (oAt.dec hd)) (fun _ _ => ⟨rfl, rfl, hce, hsl⟩)
  dsimp only [Pt.U, Pt.locs, Pt.cells, Pt.slots] at Y' l' k'' n'' st' B
  subst l' k'' n''
  exact (k v F' hQ' T' _ Y' (N.app N') (A.back hF hG hN B)).via fun t q => st'.trans q
end Arrs
abbrev CT : String := "com/example/gapkeeper/gapkeeper/sql/ColumnType"
abbrev DT : String := "Lcom/example/gapkeeper/gapkeeper/sql/ColumnType;"
def own_nm : Nat → String
  | 0 => "TINYINT"
  | 1 => "SMALLINT"
  | 2 => "MEDIUMINT"
  | 3 => "INT"
  | 4 => "BIGINT"
  | 5 => "DECIMAL"
  | 6 => "CHAR"
  | 7 => "VARCHAR"
  | 8 => "TINYTEXT"
  | 9 => "TEXT"
  | 10 => "MEDIUMTEXT"
  | 11 => "LONGTEXT"
  | 12 => "TINYBLOB"
  | 13 => "BLOB"
  | 14 => "MEDIUMBLOB"
  | 15 => "LONGBLOB"
  | 16 => "DATE"
  | 17 => "DATETIME"
  | 18 => "TIMESTAMP"
  | _ => ""
def own_pick (k : Int32) : Nat := if k = 0 then 0 else if k = 1 then 1 else if k = 2 then 2 else if k = 3 then 3 else if k = 4 then 4 else if k = 5 then 5 else if k = 6 then 6 else if k = 7 then 7 else if k = 8 then 8 else if k = 9 then 9 else if k = 10 then 10 else if k = 11 then 11 else if k = 12 then 12 else if k = 13 then 13 else if k = 14 then 14 else if k = 15 then 15 else if k = 16 then 16 else if k = 17 then 17 else 18
abbrev y_0 : MethodName := ⟨"com/example/gapkeeper/gapkeeper/sql/ColumnTypeIsBinaryPinLaw", "pick", "(I)Lcom/example/gapkeeper/gapkeeper/sql/ColumnType;"⟩
theorem pd_y_0 : parseMethodDescriptor y_0.desc = some ⟨[.int], some (.object "com/example/gapkeeper/gapkeeper/sql/ColumnType")⟩ := by decide +kernel
abbrev y_1 : MethodName := ⟨"com/example/gapkeeper/gapkeeper/sql/ColumnType", "isBinary", "()Z"⟩
theorem pd_y_1 : parseMethodDescriptor y_1.desc = some ⟨[], some .boolean⟩ := by decide +kernel
abbrev y_2 : MethodName := ⟨"com/example/gapkeeper/gapkeeper/sql/ColumnType", "family", "()Lcom/example/gapkeeper/gapkeeper/sql/ColumnType$Family;"⟩
theorem pd_y_2 : parseMethodDescriptor y_2.desc = some ⟨[], some (.object "com/example/gapkeeper/gapkeeper/sql/ColumnType$Family")⟩ := by decide +kernel
set_option maxRecDepth 65536 in
set_option maxHeartbeats 40000000 in
theorem D_pick (l : Launch) (Z : State) (a0 : Array Value) (h0 : Heap) (hw : ∀ d ∈ tables_1, d.before a0 Z = true) (A : Nat → Addr) (hS : ∀ i, i < 19 → Sta Z h0 CT (own_nm i) DT (.ref (A i))) (k : Int32) : Does l Z a0 h0 y_0 method_2_code 1 (some (.object "com/example/gapkeeper/gapkeeper/sql/ColumnType")) ({ frames := 0, cells := 0, slots := 0, locals := 0 } : Room) #[.int k] [] (fun v F => v = some (.ref (A (own_pick k))) ∧ F = []) := by
  refine Does.mk #[.val (.int k)] (plainFor_of_name (by decide +kernel)) (fun m => by first | (simp [entryFrame, mkF, argsToLocals, Value.category]; done) | rfl) ?_
  intro p e s m args below meth c h X
  refine Goes.runS X [(.iload_n 0, 1)] (S' := [.int k]) (pc' := 1) rfl ?_
  refine Goes.if1 X (pc' := 8) (o := 7) (cd := .ne) (fun q1 => ?_) (fun q1 => ?_)
  · have n0 : ¬ k = 0 := by simpa [ifCond.holds] using q1
    refine Goes.runS X [(.iload_n 0, 1), (.iconst 1, 1)] (S' := [.int (1 : Int32), .int k]) (pc' := 10) rfl ?_
    refine Goes.if2 X (pc' := 17) (o := 7) (cd := .ne) (fun q2 => ?_) (fun q2 => ?_)
    · have n1 : ¬ k = 1 := by simpa [if_icmp.holds] using q2
      refine Goes.runS X [(.iload_n 0, 1), (.iconst 2, 1)] (S' := [.int (2 : Int32), .int k]) (pc' := 19) rfl ?_
      refine Goes.if2 X (pc' := 26) (o := 7) (cd := .ne) (fun q3 => ?_) (fun q3 => ?_)
      · have n2 : ¬ k = 2 := by simpa [if_icmp.holds] using q3
        refine Goes.runS X [(.iload_n 0, 1), (.iconst 3, 1)] (S' := [.int (3 : Int32), .int k]) (pc' := 28) rfl ?_
        refine Goes.if2 X (pc' := 35) (o := 7) (cd := .ne) (fun q4 => ?_) (fun q4 => ?_)
        · have n3 : ¬ k = 3 := by simpa [if_icmp.holds] using q4
          refine Goes.runS X [(.iload_n 0, 1), (.iconst 4, 1)] (S' := [.int (4 : Int32), .int k]) (pc' := 37) rfl ?_
          refine Goes.if2 X (pc' := 44) (o := 7) (cd := .ne) (fun q5 => ?_) (fun q5 => ?_)
          · have n4 : ¬ k = 4 := by simpa [if_icmp.holds] using q5
            refine Goes.runS X [(.iload_n 0, 1), (.iconst 5, 1)] (S' := [.int (5 : Int32), .int k]) (pc' := 46) rfl ?_
            refine Goes.if2 X (pc' := 53) (o := 7) (cd := .ne) (fun q6 => ?_) (fun q6 => ?_)
            · have n5 : ¬ k = 5 := by simpa [if_icmp.holds] using q6
              refine Goes.runS X [(.iload_n 0, 1), (.bipush 6, 2)] (S' := [.int (6 : Int32), .int k]) (pc' := 56) rfl ?_
              refine Goes.if2 X (pc' := 63) (o := 7) (cd := .ne) (fun q7 => ?_) (fun q7 => ?_)
              · have n6 : ¬ k = 6 := by simpa [if_icmp.holds] using q7
                refine Goes.runS X [(.iload_n 0, 1), (.bipush 7, 2)] (S' := [.int (7 : Int32), .int k]) (pc' := 66) rfl ?_
                refine Goes.if2 X (pc' := 73) (o := 7) (cd := .ne) (fun q8 => ?_) (fun q8 => ?_)
                · have n7 : ¬ k = 7 := by simpa [if_icmp.holds] using q8
                  refine Goes.runS X [(.iload_n 0, 1), (.bipush 8, 2)] (S' := [.int (8 : Int32), .int k]) (pc' := 76) rfl ?_
                  refine Goes.if2 X (pc' := 83) (o := 7) (cd := .ne) (fun q9 => ?_) (fun q9 => ?_)
                  · have n8 : ¬ k = 8 := by simpa [if_icmp.holds] using q9
                    refine Goes.runS X [(.iload_n 0, 1), (.bipush 9, 2)] (S' := [.int (9 : Int32), .int k]) (pc' := 86) rfl ?_
                    refine Goes.if2 X (pc' := 93) (o := 7) (cd := .ne) (fun q10 => ?_) (fun q10 => ?_)
                    · have n9 : ¬ k = 9 := by simpa [if_icmp.holds] using q10
                      refine Goes.runS X [(.iload_n 0, 1), (.bipush 10, 2)] (S' := [.int (10 : Int32), .int k]) (pc' := 96) rfl ?_
                      refine Goes.if2 X (pc' := 103) (o := 7) (cd := .ne) (fun q11 => ?_) (fun q11 => ?_)
                      · have n10 : ¬ k = 10 := by simpa [if_icmp.holds] using q11
                        refine Goes.runS X [(.iload_n 0, 1), (.bipush 11, 2)] (S' := [.int (11 : Int32), .int k]) (pc' := 106) rfl ?_
                        refine Goes.if2 X (pc' := 113) (o := 7) (cd := .ne) (fun q12 => ?_) (fun q12 => ?_)
                        · have n11 : ¬ k = 11 := by simpa [if_icmp.holds] using q12
                          refine Goes.runS X [(.iload_n 0, 1), (.bipush 12, 2)] (S' := [.int (12 : Int32), .int k]) (pc' := 116) rfl ?_
                          refine Goes.if2 X (pc' := 123) (o := 7) (cd := .ne) (fun q13 => ?_) (fun q13 => ?_)
                          · have n12 : ¬ k = 12 := by simpa [if_icmp.holds] using q13
                            refine Goes.runS X [(.iload_n 0, 1), (.bipush 13, 2)] (S' := [.int (13 : Int32), .int k]) (pc' := 126) rfl ?_
                            refine Goes.if2 X (pc' := 133) (o := 7) (cd := .ne) (fun q14 => ?_) (fun q14 => ?_)
                            · have n13 : ¬ k = 13 := by simpa [if_icmp.holds] using q14
                              refine Goes.runS X [(.iload_n 0, 1), (.bipush 14, 2)] (S' := [.int (14 : Int32), .int k]) (pc' := 136) rfl ?_
                              refine Goes.if2 X (pc' := 143) (o := 7) (cd := .ne) (fun q15 => ?_) (fun q15 => ?_)
                              · have n14 : ¬ k = 14 := by simpa [if_icmp.holds] using q15
                                refine Goes.runS X [(.iload_n 0, 1), (.bipush 15, 2)] (S' := [.int (15 : Int32), .int k]) (pc' := 146) rfl ?_
                                refine Goes.if2 X (pc' := 153) (o := 7) (cd := .ne) (fun q16 => ?_) (fun q16 => ?_)
                                · have n15 : ¬ k = 15 := by simpa [if_icmp.holds] using q16
                                  refine Goes.runS X [(.iload_n 0, 1), (.bipush 16, 2)] (S' := [.int (16 : Int32), .int k]) (pc' := 156) rfl ?_
                                  refine Goes.if2 X (pc' := 163) (o := 7) (cd := .ne) (fun q17 => ?_) (fun q17 => ?_)
                                  · have n16 : ¬ k = 16 := by simpa [if_icmp.holds] using q17
                                    refine Goes.runS X [(.iload_n 0, 1), (.bipush 17, 2)] (S' := [.int (17 : Int32), .int k]) (pc' := 166) rfl ?_
                                    refine Goes.if2 X (pc' := 173) (o := 7) (cd := .ne) (fun q18 => ?_) (fun q18 => ?_)
                                    · have n17 : ¬ k = 17 := by simpa [if_icmp.holds] using q18
                                      refine Goes.getS X (wd hw 51 rfl) Via.refl (hS 18 (by decide)) ?_
                                      refine Goes.retA X rfl rfl rfl ?_
                                      exact ⟨by simp [own_pick, n0, n1, n2, n3, n4, n5, n6, n7, n8, n9, n10, n11, n12, n13, n14, n15, n16, n17], rfl⟩
                                    · have y17 : k = 17 := by simpa [if_icmp.holds] using q18
                                      refine Goes.getS X (wd hw 36 rfl) Via.refl (hS 17 (by decide)) ?_
                                      refine Goes.retA X rfl rfl rfl ?_
                                      exact ⟨by simp [own_pick, n0, n1, n2, n3, n4, n5, n6, n7, n8, n9, n10, n11, n12, n13, n14, n15, n16, y17], rfl⟩
                                  · have y16 : k = 16 := by simpa [if_icmp.holds] using q17
                                    refine Goes.getS X (wd hw 55 rfl) Via.refl (hS 16 (by decide)) ?_
                                    refine Goes.retA X rfl rfl rfl ?_
                                    exact ⟨by simp [own_pick, n0, n1, n2, n3, n4, n5, n6, n7, n8, n9, n10, n11, n12, n13, n14, n15, y16], rfl⟩
                                · have y15 : k = 15 := by simpa [if_icmp.holds] using q16
                                  refine Goes.getS X (wd hw 23 rfl) Via.refl (hS 15 (by decide)) ?_
                                  refine Goes.retA X rfl rfl rfl ?_
                                  exact ⟨by simp [own_pick, n0, n1, n2, n3, n4, n5, n6, n7, n8, n9, n10, n11, n12, n13, n14, y15], rfl⟩
                              · have y14 : k = 14 := by simpa [if_icmp.holds] using q15
                                refine Goes.getS X (wd hw 50 rfl) Via.refl (hS 14 (by decide)) ?_
                                refine Goes.retA X rfl rfl rfl ?_
                                exact ⟨by simp [own_pick, n0, n1, n2, n3, n4, n5, n6, n7, n8, n9, n10, n11, n12, n13, y14], rfl⟩
                            · have y13 : k = 13 := by simpa [if_icmp.holds] using q14
                              refine Goes.getS X (wd hw 62 rfl) Via.refl (hS 13 (by decide)) ?_
                              refine Goes.retA X rfl rfl rfl ?_
                              exact ⟨by simp [own_pick, n0, n1, n2, n3, n4, n5, n6, n7, n8, n9, n10, n11, n12, y13], rfl⟩
                          · have y12 : k = 12 := by simpa [if_icmp.holds] using q13
                            refine Goes.getS X (wd hw 61 rfl) Via.refl (hS 12 (by decide)) ?_
                            refine Goes.retA X rfl rfl rfl ?_
                            exact ⟨by simp [own_pick, n0, n1, n2, n3, n4, n5, n6, n7, n8, n9, n10, n11, y12], rfl⟩
                        · have y11 : k = 11 := by simpa [if_icmp.holds] using q12
                          refine Goes.getS X (wd hw 42 rfl) Via.refl (hS 11 (by decide)) ?_
                          refine Goes.retA X rfl rfl rfl ?_
                          exact ⟨by simp [own_pick, n0, n1, n2, n3, n4, n5, n6, n7, n8, n9, n10, y11], rfl⟩
                      · have y10 : k = 10 := by simpa [if_icmp.holds] using q11
                        refine Goes.getS X (wd hw 44 rfl) Via.refl (hS 10 (by decide)) ?_
                        refine Goes.retA X rfl rfl rfl ?_
                        exact ⟨by simp [own_pick, n0, n1, n2, n3, n4, n5, n6, n7, n8, n9, y10], rfl⟩
                    · have y9 : k = 9 := by simpa [if_icmp.holds] using q10
                      refine Goes.getS X (wd hw 59 rfl) Via.refl (hS 9 (by decide)) ?_
                      refine Goes.retA X rfl rfl rfl ?_
                      exact ⟨by simp [own_pick, n0, n1, n2, n3, n4, n5, n6, n7, n8, y9], rfl⟩
                  · have y8 : k = 8 := by simpa [if_icmp.holds] using q9
                    refine Goes.getS X (wd hw 46 rfl) Via.refl (hS 8 (by decide)) ?_
                    refine Goes.retA X rfl rfl rfl ?_
                    exact ⟨by simp [own_pick, n0, n1, n2, n3, n4, n5, n6, n7, y8], rfl⟩
                · have y7 : k = 7 := by simpa [if_icmp.holds] using q8
                  refine Goes.getS X (wd hw 38 rfl) Via.refl (hS 7 (by decide)) ?_
                  refine Goes.retA X rfl rfl rfl ?_
                  exact ⟨by simp [own_pick, n0, n1, n2, n3, n4, n5, n6, y7], rfl⟩
              · have y6 : k = 6 := by simpa [if_icmp.holds] using q7
                refine Goes.getS X (wd hw 53 rfl) Via.refl (hS 6 (by decide)) ?_
                refine Goes.retA X rfl rfl rfl ?_
                exact ⟨by simp [own_pick, n0, n1, n2, n3, n4, n5, y6], rfl⟩
            · have y5 : k = 5 := by simpa [if_icmp.holds] using q6
              refine Goes.getS X (wd hw 34 rfl) Via.refl (hS 5 (by decide)) ?_
              refine Goes.retA X rfl rfl rfl ?_
              exact ⟨by simp [own_pick, n0, n1, n2, n3, n4, y5], rfl⟩
          · have y4 : k = 4 := by simpa [if_icmp.holds] using q5
            refine Goes.getS X (wd hw 57 rfl) Via.refl (hS 4 (by decide)) ?_
            refine Goes.retA X rfl rfl rfl ?_
            exact ⟨by simp [own_pick, n0, n1, n2, n3, y4], rfl⟩
        · have y3 : k = 3 := by simpa [if_icmp.holds] using q4
          refine Goes.getS X (wd hw 21 rfl) Via.refl (hS 3 (by decide)) ?_
          refine Goes.retA X rfl rfl rfl ?_
          exact ⟨by simp [own_pick, n0, n1, n2, y3], rfl⟩
      · have y2 : k = 2 := by simpa [if_icmp.holds] using q3
        refine Goes.getS X (wd hw 40 rfl) Via.refl (hS 2 (by decide)) ?_
        refine Goes.retA X rfl rfl rfl ?_
        exact ⟨by simp [own_pick, n0, n1, y2], rfl⟩
    · have y1 : k = 1 := by simpa [if_icmp.holds] using q2
      refine Goes.getS X (wd hw 48 rfl) Via.refl (hS 1 (by decide)) ?_
      refine Goes.retA X rfl rfl rfl ?_
      exact ⟨by simp [own_pick, n0, y1], rfl⟩
  · have y0 : k = 0 := by simpa [ifCond.holds] using q1
    refine Goes.getS X (wd hw 5 rfl) Via.refl (hS 0 (by decide)) ?_
    refine Goes.retA X rfl rfl rfl ?_
    exact ⟨by simp [own_pick, y0], rfl⟩
set_option maxRecDepth 65536 in
set_option maxHeartbeats 40000000 in
theorem D_isb (l : Launch) (Z : State) (a0 : Array Value) (h0 : Heap) (hw : ∀ d ∈ tables_1, d.before a0 Z = true) (a b12 b13 b14 b15 : Addr) (S12 : Sta Z h0 CT "TINYBLOB" DT (.ref b12)) (S13 : Sta Z h0 CT "BLOB" DT (.ref b13)) (S14 : Sta Z h0 CT "MEDIUMBLOB" DT (.ref b14)) (S15 : Sta Z h0 CT "LONGBLOB" DT (.ref b15)) : Does l Z a0 h0 y_1 prog_128_method_8_code 1 (some .boolean) ({ frames := 0, cells := 0, slots := 0, locals := 0 } : Room) #[.ref a] [] (fun v F => v = some (.int (if a = b12 ∨ a = b13 ∨ a = b14 ∨ a = b15 then 1 else 0)) ∧ F = []) := by
  refine Does.mk #[.val (.ref a)] (plainFor_of_name (by decide +kernel)) (fun m => by first | (simp [entryFrame, mkF, argsToLocals, Value.category]; done) | rfl) ?_
  intro p e s m args below meth c h X
  refine Goes.runS X [(.aload_n 0, 1)] (S' := [.ref a]) (pc' := 1) rfl ?_
  refine Goes.getS X (wd hw 13 rfl) Via.refl S12 ?_
  refine Goes.ifA X rfl rfl (pc' := 28) (o := 24) (cd := .eq) (fun q19 => ?_) (fun q19 => ?_)
  · have e12 : a = b12 := by simpa [acV] using q19
    refine Goes.runS X [(.iconst 1, 1)] (S' := [.int (1 : Int32)]) (pc' := 29) rfl ?_
    refine Goes.goto X (o := 4) (pc' := 33) ?_
    refine Goes.retI X (by simp) rfl ?_
    exact ⟨by simp [e12], rfl⟩
  · have e12 : ¬ a = b12 := by simpa [acV] using q19
    refine Goes.runS X [(.aload_n 0, 1)] (S' := [.ref a]) (pc' := 8) rfl ?_
    refine Goes.getS X (wd hw 15 rfl) Via.refl S13 ?_
    refine Goes.ifA X rfl rfl (pc' := 28) (o := 17) (cd := .eq) (fun q20 => ?_) (fun q20 => ?_)
    · have e13 : a = b13 := by simpa [acV] using q20
      refine Goes.runS X [(.iconst 1, 1)] (S' := [.int (1 : Int32)]) (pc' := 29) rfl ?_
      refine Goes.goto X (o := 4) (pc' := 33) ?_
      refine Goes.retI X (by simp) rfl ?_
      exact ⟨by simp [e13], rfl⟩
    · have e13 : ¬ a = b13 := by simpa [acV] using q20
      refine Goes.runS X [(.aload_n 0, 1)] (S' := [.ref a]) (pc' := 15) rfl ?_
      refine Goes.getS X (wd hw 17 rfl) Via.refl S14 ?_
      refine Goes.ifA X rfl rfl (pc' := 28) (o := 10) (cd := .eq) (fun q21 => ?_) (fun q21 => ?_)
      · have e14 : a = b14 := by simpa [acV] using q21
        refine Goes.runS X [(.iconst 1, 1)] (S' := [.int (1 : Int32)]) (pc' := 29) rfl ?_
        refine Goes.goto X (o := 4) (pc' := 33) ?_
        refine Goes.retI X (by simp) rfl ?_
        exact ⟨by simp [e14], rfl⟩
      · have e14 : ¬ a = b14 := by simpa [acV] using q21
        refine Goes.runS X [(.aload_n 0, 1)] (S' := [.ref a]) (pc' := 22) rfl ?_
        refine Goes.getS X (wd hw 19 rfl) Via.refl S15 ?_
        refine Goes.ifA X rfl rfl (pc' := 32) (o := 7) (cd := .ne) (fun q22 => ?_) (fun q22 => ?_)
        · have e15 : ¬ a = b15 := by simpa [acV] using q22
          refine Goes.runS X [(.iconst 0, 1)] (S' := [.int (0 : Int32)]) (pc' := 33) rfl ?_
          refine Goes.retI X (by simp) rfl ?_
          exact ⟨by simp [e12, e13, e14, e15], rfl⟩
        · have e15 : a = b15 := by simpa [acV] using q22
          refine Goes.runS X [(.iconst 1, 1)] (S' := [.int (1 : Int32)]) (pc' := 29) rfl ?_
          refine Goes.goto X (o := 4) (pc' := 33) ?_
          refine Goes.retI X (by simp) rfl ?_
          exact ⟨by simp [e15], rfl⟩
set_option maxRecDepth 65536 in
set_option maxHeartbeats 40000000 in
theorem D_fam (l : Launch) (Z : State) (a0 : Array Value) (h0 : Heap) (hw : ∀ d ∈ tables_1, d.before a0 Z = true) (a b : Addr) (F0 : Fld Z h0 a CT "family" "Lcom/example/gapkeeper/gapkeeper/sql/ColumnType$Family;" (.ref b)) : Does l Z a0 h0 y_2 prog_128_method_5_code 1 (some (.object "com/example/gapkeeper/gapkeeper/sql/ColumnType$Family")) ({ frames := 0, cells := 0, slots := 0, locals := 0 } : Room) #[.ref a] [] (fun v F => v = some (.ref b) ∧ F = []) := by
  refine Does.mk #[.val (.ref a)] (plainFor_of_name (by decide +kernel)) (fun m => by first | (simp [entryFrame, mkF, argsToLocals, Value.category]; done) | rfl) ?_
  intro p e s m args below meth c h X
  refine Goes.runS X [(.aload_n 0, 1)] (S' := [.ref a]) (pc' := 1) rfl ?_
  refine Goes.getFo X (wd hw 29 rfl) Via.refl F0 ?_
  show Goes _ _ _ _ _ _ _ _ _ _ _ _ _ _ _ _ _ _ [] 0 0 (mkF m 4 #[.val (.ref a)] [.ref b])
  refine Goes.retA X rfl rfl rfl ?_
  exact ⟨rfl, rfl⟩
theorem own_case19 (r : Int32) (h0 : 0 ≤ r.toInt) (h1 : r.toInt < (19 : Int32).toInt) : r = 0 ∨ r = 1 ∨ r = 2 ∨ r = 3 ∨ r = 4 ∨ r = 5 ∨ r = 6 ∨ r = 7 ∨ r = 8 ∨ r = 9 ∨ r = 10 ∨ r = 11 ∨ r = 12 ∨ r = 13 ∨ r = 14 ∨ r = 15 ∨ r = 16 ∨ r = 17 ∨ r = 18 := by
  have h1' : r.toInt < 19 := h1
  have : r.toInt = 0 ∨ r.toInt = 1 ∨ r.toInt = 2 ∨ r.toInt = 3 ∨ r.toInt = 4 ∨ r.toInt = 5 ∨ r.toInt = 6 ∨ r.toInt = 7 ∨ r.toInt = 8 ∨ r.toInt = 9 ∨ r.toInt = 10 ∨ r.toInt = 11 ∨ r.toInt = 12 ∨ r.toInt = 13 ∨ r.toInt = 14 ∨ r.toInt = 15 ∨ r.toInt = 16 ∨ r.toInt = 17 ∨ r.toInt = 18 := by omega
  rcases this with h | h | h | h | h | h | h | h | h | h | h | h | h | h | h | h | h | h | h <;> simp [← Int32.toInt_inj, h]
set_option maxRecDepth 65536 in
set_option maxHeartbeats 40000000 in
theorem D_law (l : Launch) (Z : State) (a0 : Array Value) (h0 : Heap) (hw : ∀ d ∈ tables_1, d.before a0 Z = true) (A : Nat → Addr) (B : Addr) (hS : ∀ i, i < 19 → Sta Z h0 CT (own_nm i) DT (.ref (A i))) (hE : ∀ i, i < 19 → Exa Z h0 (A i) CT) (hI : ∀ i j, i < 19 → j < 19 → i ≠ j → A i ≠ A j) (hF : ∀ i, 12 ≤ i → i < 16 → Fld Z h0 (A i) CT "family" "Lcom/example/gapkeeper/gapkeeper/sql/ColumnType$Family;" (.ref B)) (hB : Sta Z h0 "com/example/gapkeeper/gapkeeper/sql/ColumnType$Family" "LOB" "Lcom/example/gapkeeper/gapkeeper/sql/ColumnType$Family;" (.ref B)) (n : Int32) : Does l Z a0 h0 x code maxLocals ret room_1 #[.int n] [] (fun v F => v = some (.int 1) ∧ F = []) := by
  refine Does.mk #[.val (.int n), .unset, .unset, .unset, .unset] (plainFor_of_name (by decide +kernel)) (fun m => by first | (simp [entryFrame, mkF, argsToLocals, Value.category, maxLocals]; done) | rfl) ?_
  intro p e s m args below meth c h X
  rcases own_case19 _ (own_rem n 19 (by decide)).1 (own_rem n 19 (by decide)).2 with e0 | e1 | e2 | e3 | e4 | e5 | e6 | e7 | e8 | e9 | e10 | e11 | e12 | e13 | e14 | e15 | e16 | e17 | e18
  · refine Goes.runS X [(.iload_n 0, 1)] (S' := [.int n]) (pc' := 1) rfl ?_
    refine Goes.ldcI X (wd hw 0 rfl) ?_
    refine Goes.run X [(.iand, 1), (.bipush 19, 2), (.irem, 1), (.istore_n 1, 1)] (L' := #[.val (.int n), .val (.int ((n &&& (2147483647 : Int32)) % (19 : Int32))), .unset, .unset, .unset]) (S' := []) (pc' := 8) rfl ?_
    rw [e0]
    show Goes _ _ _ _ _ _ _ _ _ _ _ _ _ _ _ _ _ _ [] 0 0 (mkF m 8 #[.val (.int n), .val (.int (0 : Int32)), .unset, .unset, .unset] [])
    refine Goes.runS X [(.iload_n 1, 1)] (S' := [.int (0 : Int32)]) (pc' := 9) rfl ?_
    refine Goes.callS X 0 [] [] (D_pick l Z a0 h0 hw A hS 0) (wd hw 1 rfl) (wd hw 2 rfl) (wd hw 3 rfl) (wd hw 4 rfl) pd_y_0 rfl (st := []) rfl rfl (G := []) rfl rfl ?_
    rintro _ _ ⟨rfl, rfl⟩
    show Goes _ _ _ _ _ _ _ _ _ _ _ _ _ _ _ _ _ _ [] 0 0 (mkF m 12 #[.val (.int n), .val (.int (0 : Int32)), .unset, .unset, .unset] [.ref (A 0)])
    refine Goes.run X [(.astore_n 2, 1), (.iload_n 1, 1), (.bipush 12, 2)] (L' := #[.val (.int n), .val (.int (0 : Int32)), .val (.ref (A 0)), .unset, .unset]) (S' := [.int (12 : Int32), .int (0 : Int32)]) (pc' := 16) rfl ?_
    refine Goes.if2 X (pc' := 29) (o := 13) (cd := .lt) (fun _ => ?_) (fun q => absurd q (by decide))
    refine Goes.run X [(.iconst 0, 1), (.istore_n 3, 1), (.aload_n 2, 1)] (L' := #[.val (.int n), .val (.int (0 : Int32)), .val (.ref (A 0)), .val (.int (0 : Int32)), .unset]) (S' := [.ref (A 0)]) (pc' := 32) rfl ?_
    refine Goes.callVo X 0 [] [] (hE 0 (by decide)) (D_isb l Z a0 h0 hw (A 0) (A 12) (A 13) (A 14) (A 15) (hS 12 (by decide)) (hS 13 (by decide)) (hS 14 (by decide)) (hS 15 (by decide))) (wd hw 8 rfl) (wd hw 9 rfl) (wd hw 11 rfl) (wd hw 10 rfl) (own_nf X (wd hw 11 rfl)) (wd hw 6 rfl) (wd hw 12 rfl) pd_y_1 rfl (st := []) rfl rfl (G := []) rfl rfl ?_
    rintro _ _ ⟨rfl, rfl⟩
    rw [if_neg (by simp [hI 0 12 (by decide) (by decide) (by decide), hI 0 13 (by decide) (by decide) (by decide), hI 0 14 (by decide) (by decide) (by decide), hI 0 15 (by decide) (by decide) (by decide)])]
    show Goes _ _ _ _ _ _ _ _ _ _ _ _ _ _ _ _ _ _ [] 0 0 (mkF m 35 #[.val (.int n), .val (.int (0 : Int32)), .val (.ref (A 0)), .val (.int (0 : Int32)), .unset] [.int (0 : Int32)])
    refine Goes.run X [(.istore 4, 2), (.iload 4, 2), (.iload_n 3, 1)] (L' := #[.val (.int n), .val (.int (0 : Int32)), .val (.ref (A 0)), .val (.int (0 : Int32)), .val (.int (0 : Int32))]) (S' := [.int (0 : Int32), .int (0 : Int32)]) (pc' := 40) rfl ?_
    refine Goes.if2 X (pc' := 45) (o := 5) (cd := .eq) (fun _ => ?_) (fun q => absurd q (by decide))
    refine Goes.runS X [(.iload_n 3, 1)] (S' := [.int (0 : Int32)]) (pc' := 46) rfl ?_
    refine Goes.if1 X (pc' := 61) (o := 15) (cd := .eq) (fun _ => ?_) (fun q => absurd q (by decide))
    refine Goes.runS X [(.iconst 1, 1)] (S' := [.int (1 : Int32)]) (pc' := 62) rfl ?_
    refine Goes.retI X (by simp) rfl ?_
    exact ⟨rfl, rfl⟩
  · refine Goes.runS X [(.iload_n 0, 1)] (S' := [.int n]) (pc' := 1) rfl ?_
    refine Goes.ldcI X (wd hw 0 rfl) ?_
    refine Goes.run X [(.iand, 1), (.bipush 19, 2), (.irem, 1), (.istore_n 1, 1)] (L' := #[.val (.int n), .val (.int ((n &&& (2147483647 : Int32)) % (19 : Int32))), .unset, .unset, .unset]) (S' := []) (pc' := 8) rfl ?_
    rw [e1]
    show Goes _ _ _ _ _ _ _ _ _ _ _ _ _ _ _ _ _ _ [] 0 0 (mkF m 8 #[.val (.int n), .val (.int (1 : Int32)), .unset, .unset, .unset] [])
    refine Goes.runS X [(.iload_n 1, 1)] (S' := [.int (1 : Int32)]) (pc' := 9) rfl ?_
    refine Goes.callS X 0 [] [] (D_pick l Z a0 h0 hw A hS 1) (wd hw 1 rfl) (wd hw 2 rfl) (wd hw 3 rfl) (wd hw 4 rfl) pd_y_0 rfl (st := []) rfl rfl (G := []) rfl rfl ?_
    rintro _ _ ⟨rfl, rfl⟩
    show Goes _ _ _ _ _ _ _ _ _ _ _ _ _ _ _ _ _ _ [] 0 0 (mkF m 12 #[.val (.int n), .val (.int (1 : Int32)), .unset, .unset, .unset] [.ref (A 1)])
    refine Goes.run X [(.astore_n 2, 1), (.iload_n 1, 1), (.bipush 12, 2)] (L' := #[.val (.int n), .val (.int (1 : Int32)), .val (.ref (A 1)), .unset, .unset]) (S' := [.int (12 : Int32), .int (1 : Int32)]) (pc' := 16) rfl ?_
    refine Goes.if2 X (pc' := 29) (o := 13) (cd := .lt) (fun _ => ?_) (fun q => absurd q (by decide))
    refine Goes.run X [(.iconst 0, 1), (.istore_n 3, 1), (.aload_n 2, 1)] (L' := #[.val (.int n), .val (.int (1 : Int32)), .val (.ref (A 1)), .val (.int (0 : Int32)), .unset]) (S' := [.ref (A 1)]) (pc' := 32) rfl ?_
    refine Goes.callVo X 0 [] [] (hE 1 (by decide)) (D_isb l Z a0 h0 hw (A 1) (A 12) (A 13) (A 14) (A 15) (hS 12 (by decide)) (hS 13 (by decide)) (hS 14 (by decide)) (hS 15 (by decide))) (wd hw 8 rfl) (wd hw 9 rfl) (wd hw 11 rfl) (wd hw 10 rfl) (own_nf X (wd hw 11 rfl)) (wd hw 6 rfl) (wd hw 12 rfl) pd_y_1 rfl (st := []) rfl rfl (G := []) rfl rfl ?_
    rintro _ _ ⟨rfl, rfl⟩
    rw [if_neg (by simp [hI 1 12 (by decide) (by decide) (by decide), hI 1 13 (by decide) (by decide) (by decide), hI 1 14 (by decide) (by decide) (by decide), hI 1 15 (by decide) (by decide) (by decide)])]
    show Goes _ _ _ _ _ _ _ _ _ _ _ _ _ _ _ _ _ _ [] 0 0 (mkF m 35 #[.val (.int n), .val (.int (1 : Int32)), .val (.ref (A 1)), .val (.int (0 : Int32)), .unset] [.int (0 : Int32)])
    refine Goes.run X [(.istore 4, 2), (.iload 4, 2), (.iload_n 3, 1)] (L' := #[.val (.int n), .val (.int (1 : Int32)), .val (.ref (A 1)), .val (.int (0 : Int32)), .val (.int (0 : Int32))]) (S' := [.int (0 : Int32), .int (0 : Int32)]) (pc' := 40) rfl ?_
    refine Goes.if2 X (pc' := 45) (o := 5) (cd := .eq) (fun _ => ?_) (fun q => absurd q (by decide))
    refine Goes.runS X [(.iload_n 3, 1)] (S' := [.int (0 : Int32)]) (pc' := 46) rfl ?_
    refine Goes.if1 X (pc' := 61) (o := 15) (cd := .eq) (fun _ => ?_) (fun q => absurd q (by decide))
    refine Goes.runS X [(.iconst 1, 1)] (S' := [.int (1 : Int32)]) (pc' := 62) rfl ?_
    refine Goes.retI X (by simp) rfl ?_
    exact ⟨rfl, rfl⟩
  · refine Goes.runS X [(.iload_n 0, 1)] (S' := [.int n]) (pc' := 1) rfl ?_
    refine Goes.ldcI X (wd hw 0 rfl) ?_
    refine Goes.run X [(.iand, 1), (.bipush 19, 2), (.irem, 1), (.istore_n 1, 1)] (L' := #[.val (.int n), .val (.int ((n &&& (2147483647 : Int32)) % (19 : Int32))), .unset, .unset, .unset]) (S' := []) (pc' := 8) rfl ?_
    rw [e2]
    show Goes _ _ _ _ _ _ _ _ _ _ _ _ _ _ _ _ _ _ [] 0 0 (mkF m 8 #[.val (.int n), .val (.int (2 : Int32)), .unset, .unset, .unset] [])
    refine Goes.runS X [(.iload_n 1, 1)] (S' := [.int (2 : Int32)]) (pc' := 9) rfl ?_
    refine Goes.callS X 0 [] [] (D_pick l Z a0 h0 hw A hS 2) (wd hw 1 rfl) (wd hw 2 rfl) (wd hw 3 rfl) (wd hw 4 rfl) pd_y_0 rfl (st := []) rfl rfl (G := []) rfl rfl ?_
    rintro _ _ ⟨rfl, rfl⟩
    show Goes _ _ _ _ _ _ _ _ _ _ _ _ _ _ _ _ _ _ [] 0 0 (mkF m 12 #[.val (.int n), .val (.int (2 : Int32)), .unset, .unset, .unset] [.ref (A 2)])
    refine Goes.run X [(.astore_n 2, 1), (.iload_n 1, 1), (.bipush 12, 2)] (L' := #[.val (.int n), .val (.int (2 : Int32)), .val (.ref (A 2)), .unset, .unset]) (S' := [.int (12 : Int32), .int (2 : Int32)]) (pc' := 16) rfl ?_
    refine Goes.if2 X (pc' := 29) (o := 13) (cd := .lt) (fun _ => ?_) (fun q => absurd q (by decide))
    refine Goes.run X [(.iconst 0, 1), (.istore_n 3, 1), (.aload_n 2, 1)] (L' := #[.val (.int n), .val (.int (2 : Int32)), .val (.ref (A 2)), .val (.int (0 : Int32)), .unset]) (S' := [.ref (A 2)]) (pc' := 32) rfl ?_
    refine Goes.callVo X 0 [] [] (hE 2 (by decide)) (D_isb l Z a0 h0 hw (A 2) (A 12) (A 13) (A 14) (A 15) (hS 12 (by decide)) (hS 13 (by decide)) (hS 14 (by decide)) (hS 15 (by decide))) (wd hw 8 rfl) (wd hw 9 rfl) (wd hw 11 rfl) (wd hw 10 rfl) (own_nf X (wd hw 11 rfl)) (wd hw 6 rfl) (wd hw 12 rfl) pd_y_1 rfl (st := []) rfl rfl (G := []) rfl rfl ?_
    rintro _ _ ⟨rfl, rfl⟩
    rw [if_neg (by simp [hI 2 12 (by decide) (by decide) (by decide), hI 2 13 (by decide) (by decide) (by decide), hI 2 14 (by decide) (by decide) (by decide), hI 2 15 (by decide) (by decide) (by decide)])]
    show Goes _ _ _ _ _ _ _ _ _ _ _ _ _ _ _ _ _ _ [] 0 0 (mkF m 35 #[.val (.int n), .val (.int (2 : Int32)), .val (.ref (A 2)), .val (.int (0 : Int32)), .unset] [.int (0 : Int32)])
    refine Goes.run X [(.istore 4, 2), (.iload 4, 2), (.iload_n 3, 1)] (L' := #[.val (.int n), .val (.int (2 : Int32)), .val (.ref (A 2)), .val (.int (0 : Int32)), .val (.int (0 : Int32))]) (S' := [.int (0 : Int32), .int (0 : Int32)]) (pc' := 40) rfl ?_
    refine Goes.if2 X (pc' := 45) (o := 5) (cd := .eq) (fun _ => ?_) (fun q => absurd q (by decide))
    refine Goes.runS X [(.iload_n 3, 1)] (S' := [.int (0 : Int32)]) (pc' := 46) rfl ?_
    refine Goes.if1 X (pc' := 61) (o := 15) (cd := .eq) (fun _ => ?_) (fun q => absurd q (by decide))
    refine Goes.runS X [(.iconst 1, 1)] (S' := [.int (1 : Int32)]) (pc' := 62) rfl ?_
    refine Goes.retI X (by simp) rfl ?_
    exact ⟨rfl, rfl⟩
  · refine Goes.runS X [(.iload_n 0, 1)] (S' := [.int n]) (pc' := 1) rfl ?_
    refine Goes.ldcI X (wd hw 0 rfl) ?_
    refine Goes.run X [(.iand, 1), (.bipush 19, 2), (.irem, 1), (.istore_n 1, 1)] (L' := #[.val (.int n), .val (.int ((n &&& (2147483647 : Int32)) % (19 : Int32))), .unset, .unset, .unset]) (S' := []) (pc' := 8) rfl ?_
    rw [e3]
    show Goes _ _ _ _ _ _ _ _ _ _ _ _ _ _ _ _ _ _ [] 0 0 (mkF m 8 #[.val (.int n), .val (.int (3 : Int32)), .unset, .unset, .unset] [])
    refine Goes.runS X [(.iload_n 1, 1)] (S' := [.int (3 : Int32)]) (pc' := 9) rfl ?_
    refine Goes.callS X 0 [] [] (D_pick l Z a0 h0 hw A hS 3) (wd hw 1 rfl) (wd hw 2 rfl) (wd hw 3 rfl) (wd hw 4 rfl) pd_y_0 rfl (st := []) rfl rfl (G := []) rfl rfl ?_
    rintro _ _ ⟨rfl, rfl⟩
    show Goes _ _ _ _ _ _ _ _ _ _ _ _ _ _ _ _ _ _ [] 0 0 (mkF m 12 #[.val (.int n), .val (.int (3 : Int32)), .unset, .unset, .unset] [.ref (A 3)])
    refine Goes.run X [(.astore_n 2, 1), (.iload_n 1, 1), (.bipush 12, 2)] (L' := #[.val (.int n), .val (.int (3 : Int32)), .val (.ref (A 3)), .unset, .unset]) (S' := [.int (12 : Int32), .int (3 : Int32)]) (pc' := 16) rfl ?_
    refine Goes.if2 X (pc' := 29) (o := 13) (cd := .lt) (fun _ => ?_) (fun q => absurd q (by decide))
    refine Goes.run X [(.iconst 0, 1), (.istore_n 3, 1), (.aload_n 2, 1)] (L' := #[.val (.int n), .val (.int (3 : Int32)), .val (.ref (A 3)), .val (.int (0 : Int32)), .unset]) (S' := [.ref (A 3)]) (pc' := 32) rfl ?_
    refine Goes.callVo X 0 [] [] (hE 3 (by decide)) (D_isb l Z a0 h0 hw (A 3) (A 12) (A 13) (A 14) (A 15) (hS 12 (by decide)) (hS 13 (by decide)) (hS 14 (by decide)) (hS 15 (by decide))) (wd hw 8 rfl) (wd hw 9 rfl) (wd hw 11 rfl) (wd hw 10 rfl) (own_nf X (wd hw 11 rfl)) (wd hw 6 rfl) (wd hw 12 rfl) pd_y_1 rfl (st := []) rfl rfl (G := []) rfl rfl ?_
    rintro _ _ ⟨rfl, rfl⟩
    rw [if_neg (by simp [hI 3 12 (by decide) (by decide) (by decide), hI 3 13 (by decide) (by decide) (by decide), hI 3 14 (by decide) (by decide) (by decide), hI 3 15 (by decide) (by decide) (by decide)])]
    show Goes _ _ _ _ _ _ _ _ _ _ _ _ _ _ _ _ _ _ [] 0 0 (mkF m 35 #[.val (.int n), .val (.int (3 : Int32)), .val (.ref (A 3)), .val (.int (0 : Int32)), .unset] [.int (0 : Int32)])
    refine Goes.run X [(.istore 4, 2), (.iload 4, 2), (.iload_n 3, 1)] (L' := #[.val (.int n), .val (.int (3 : Int32)), .val (.ref (A 3)), .val (.int (0 : Int32)), .val (.int (0 : Int32))]) (S' := [.int (0 : Int32), .int (0 : Int32)]) (pc' := 40) rfl ?_
    refine Goes.if2 X (pc' := 45) (o := 5) (cd := .eq) (fun _ => ?_) (fun q => absurd q (by decide))
    refine Goes.runS X [(.iload_n 3, 1)] (S' := [.int (0 : Int32)]) (pc' := 46) rfl ?_
    refine Goes.if1 X (pc' := 61) (o := 15) (cd := .eq) (fun _ => ?_) (fun q => absurd q (by decide))
    refine Goes.runS X [(.iconst 1, 1)] (S' := [.int (1 : Int32)]) (pc' := 62) rfl ?_
    refine Goes.retI X (by simp) rfl ?_
    exact ⟨rfl, rfl⟩
  · refine Goes.runS X [(.iload_n 0, 1)] (S' := [.int n]) (pc' := 1) rfl ?_
    refine Goes.ldcI X (wd hw 0 rfl) ?_
    refine Goes.run X [(.iand, 1), (.bipush 19, 2), (.irem, 1), (.istore_n 1, 1)] (L' := #[.val (.int n), .val (.int ((n &&& (2147483647 : Int32)) % (19 : Int32))), .unset, .unset, .unset]) (S' := []) (pc' := 8) rfl ?_
    rw [e4]
    show Goes _ _ _ _ _ _ _ _ _ _ _ _ _ _ _ _ _ _ [] 0 0 (mkF m 8 #[.val (.int n), .val (.int (4 : Int32)), .unset, .unset, .unset] [])
    refine Goes.runS X [(.iload_n 1, 1)] (S' := [.int (4 : Int32)]) (pc' := 9) rfl ?_
    refine Goes.callS X 0 [] [] (D_pick l Z a0 h0 hw A hS 4) (wd hw 1 rfl) (wd hw 2 rfl) (wd hw 3 rfl) (wd hw 4 rfl) pd_y_0 rfl (st := []) rfl rfl (G := []) rfl rfl ?_
    rintro _ _ ⟨rfl, rfl⟩
    show Goes _ _ _ _ _ _ _ _ _ _ _ _ _ _ _ _ _ _ [] 0 0 (mkF m 12 #[.val (.int n), .val (.int (4 : Int32)), .unset, .unset, .unset] [.ref (A 4)])
    refine Goes.run X [(.astore_n 2, 1), (.iload_n 1, 1), (.bipush 12, 2)] (L' := #[.val (.int n), .val (.int (4 : Int32)), .val (.ref (A 4)), .unset, .unset]) (S' := [.int (12 : Int32), .int (4 : Int32)]) (pc' := 16) rfl ?_
    refine Goes.if2 X (pc' := 29) (o := 13) (cd := .lt) (fun _ => ?_) (fun q => absurd q (by decide))
    refine Goes.run X [(.iconst 0, 1), (.istore_n 3, 1), (.aload_n 2, 1)] (L' := #[.val (.int n), .val (.int (4 : Int32)), .val (.ref (A 4)), .val (.int (0 : Int32)), .unset]) (S' := [.ref (A 4)]) (pc' := 32) rfl ?_
    refine Goes.callVo X 0 [] [] (hE 4 (by decide)) (D_isb l Z a0 h0 hw (A 4) (A 12) (A 13) (A 14) (A 15) (hS 12 (by decide)) (hS 13 (by decide)) (hS 14 (by decide)) (hS 15 (by decide))) (wd hw 8 rfl) (wd hw 9 rfl) (wd hw 11 rfl) (wd hw 10 rfl) (own_nf X (wd hw 11 rfl)) (wd hw 6 rfl) (wd hw 12 rfl) pd_y_1 rfl (st := []) rfl rfl (G := []) rfl rfl ?_
    rintro _ _ ⟨rfl, rfl⟩
    rw [if_neg (by simp [hI 4 12 (by decide) (by decide) (by decide), hI 4 13 (by decide) (by decide) (by decide), hI 4 14 (by decide) (by decide) (by decide), hI 4 15 (by decide) (by decide) (by decide)])]
    show Goes _ _ _ _ _ _ _ _ _ _ _ _ _ _ _ _ _ _ [] 0 0 (mkF m 35 #[.val (.int n), .val (.int (4 : Int32)), .val (.ref (A 4)), .val (.int (0 : Int32)), .unset] [.int (0 : Int32)])
    refine Goes.run X [(.istore 4, 2), (.iload 4, 2), (.iload_n 3, 1)] (L' := #[.val (.int n), .val (.int (4 : Int32)), .val (.ref (A 4)), .val (.int (0 : Int32)), .val (.int (0 : Int32))]) (S' := [.int (0 : Int32), .int (0 : Int32)]) (pc' := 40) rfl ?_
    refine Goes.if2 X (pc' := 45) (o := 5) (cd := .eq) (fun _ => ?_) (fun q => absurd q (by decide))
    refine Goes.runS X [(.iload_n 3, 1)] (S' := [.int (0 : Int32)]) (pc' := 46) rfl ?_
    refine Goes.if1 X (pc' := 61) (o := 15) (cd := .eq) (fun _ => ?_) (fun q => absurd q (by decide))
    refine Goes.runS X [(.iconst 1, 1)] (S' := [.int (1 : Int32)]) (pc' := 62) rfl ?_
    refine Goes.retI X (by simp) rfl ?_
    exact ⟨rfl, rfl⟩
  · refine Goes.runS X [(.iload_n 0, 1)] (S' := [.int n]) (pc' := 1) rfl ?_
    refine Goes.ldcI X (wd hw 0 rfl) ?_
    refine Goes.run X [(.iand, 1), (.bipush 19, 2), (.irem, 1), (.istore_n 1, 1)] (L' := #[.val (.int n), .val (.int ((n &&& (2147483647 : Int32)) % (19 : Int32))), .unset, .unset, .unset]) (S' := []) (pc' := 8) rfl ?_
    rw [e5]
    show Goes _ _ _ _ _ _ _ _ _ _ _ _ _ _ _ _ _ _ [] 0 0 (mkF m 8 #[.val (.int n), .val (.int (5 : Int32)), .unset, .unset, .unset] [])
    refine Goes.runS X [(.iload_n 1, 1)] (S' := [.int (5 : Int32)]) (pc' := 9) rfl ?_
    refine Goes.callS X 0 [] [] (D_pick l Z a0 h0 hw A hS 5) (wd hw 1 rfl) (wd hw 2 rfl) (wd hw 3 rfl) (wd hw 4 rfl) pd_y_0 rfl (st := []) rfl rfl (G := []) rfl rfl ?_
    rintro _ _ ⟨rfl, rfl⟩
    show Goes _ _ _ _ _ _ _ _ _ _ _ _ _ _ _ _ _ _ [] 0 0 (mkF m 12 #[.val (.int n), .val (.int (5 : Int32)), .unset, .unset, .unset] [.ref (A 5)])
    refine Goes.run X [(.astore_n 2, 1), (.iload_n 1, 1), (.bipush 12, 2)] (L' := #[.val (.int n), .val (.int (5 : Int32)), .val (.ref (A 5)), .unset, .unset]) (S' := [.int (12 : Int32), .int (5 : Int32)]) (pc' := 16) rfl ?_
    refine Goes.if2 X (pc' := 29) (o := 13) (cd := .lt) (fun _ => ?_) (fun q => absurd q (by decide))
    refine Goes.run X [(.iconst 0, 1), (.istore_n 3, 1), (.aload_n 2, 1)] (L' := #[.val (.int n), .val (.int (5 : Int32)), .val (.ref (A 5)), .val (.int (0 : Int32)), .unset]) (S' := [.ref (A 5)]) (pc' := 32) rfl ?_
    refine Goes.callVo X 0 [] [] (hE 5 (by decide)) (D_isb l Z a0 h0 hw (A 5) (A 12) (A 13) (A 14) (A 15) (hS 12 (by decide)) (hS 13 (by decide)) (hS 14 (by decide)) (hS 15 (by decide))) (wd hw 8 rfl) (wd hw 9 rfl) (wd hw 11 rfl) (wd hw 10 rfl) (own_nf X (wd hw 11 rfl)) (wd hw 6 rfl) (wd hw 12 rfl) pd_y_1 rfl (st := []) rfl rfl (G := []) rfl rfl ?_
    rintro _ _ ⟨rfl, rfl⟩
    rw [if_neg (by simp [hI 5 12 (by decide) (by decide) (by decide), hI 5 13 (by decide) (by decide) (by decide), hI 5 14 (by decide) (by decide) (by decide), hI 5 15 (by decide) (by decide) (by decide)])]
    show Goes _ _ _ _ _ _ _ _ _ _ _ _ _ _ _ _ _ _ [] 0 0 (mkF m 35 #[.val (.int n), .val (.int (5 : Int32)), .val (.ref (A 5)), .val (.int (0 : Int32)), .unset] [.int (0 : Int32)])
    refine Goes.run X [(.istore 4, 2), (.iload 4, 2), (.iload_n 3, 1)] (L' := #[.val (.int n), .val (.int (5 : Int32)), .val (.ref (A 5)), .val (.int (0 : Int32)), .val (.int (0 : Int32))]) (S' := [.int (0 : Int32), .int (0 : Int32)]) (pc' := 40) rfl ?_
    refine Goes.if2 X (pc' := 45) (o := 5) (cd := .eq) (fun _ => ?_) (fun q => absurd q (by decide))
    refine Goes.runS X [(.iload_n 3, 1)] (S' := [.int (0 : Int32)]) (pc' := 46) rfl ?_
    refine Goes.if1 X (pc' := 61) (o := 15) (cd := .eq) (fun _ => ?_) (fun q => absurd q (by decide))
    refine Goes.runS X [(.iconst 1, 1)] (S' := [.int (1 : Int32)]) (pc' := 62) rfl ?_
    refine Goes.retI X (by simp) rfl ?_
    exact ⟨rfl, rfl⟩
  · refine Goes.runS X [(.iload_n 0, 1)] (S' := [.int n]) (pc' := 1) rfl ?_
    refine Goes.ldcI X (wd hw 0 rfl) ?_
    refine Goes.run X [(.iand, 1), (.bipush 19, 2), (.irem, 1), (.istore_n 1, 1)] (L' := #[.val (.int n), .val (.int ((n &&& (2147483647 : Int32)) % (19 : Int32))), .unset, .unset, .unset]) (S' := []) (pc' := 8) rfl ?_
    rw [e6]
    show Goes _ _ _ _ _ _ _ _ _ _ _ _ _ _ _ _ _ _ [] 0 0 (mkF m 8 #[.val (.int n), .val (.int (6 : Int32)), .unset, .unset, .unset] [])
    refine Goes.runS X [(.iload_n 1, 1)] (S' := [.int (6 : Int32)]) (pc' := 9) rfl ?_
    refine Goes.callS X 0 [] [] (D_pick l Z a0 h0 hw A hS 6) (wd hw 1 rfl) (wd hw 2 rfl) (wd hw 3 rfl) (wd hw 4 rfl) pd_y_0 rfl (st := []) rfl rfl (G := []) rfl rfl ?_
    rintro _ _ ⟨rfl, rfl⟩
    show Goes _ _ _ _ _ _ _ _ _ _ _ _ _ _ _ _ _ _ [] 0 0 (mkF m 12 #[.val (.int n), .val (.int (6 : Int32)), .unset, .unset, .unset] [.ref (A 6)])
    refine Goes.run X [(.astore_n 2, 1), (.iload_n 1, 1), (.bipush 12, 2)] (L' := #[.val (.int n), .val (.int (6 : Int32)), .val (.ref (A 6)), .unset, .unset]) (S' := [.int (12 : Int32), .int (6 : Int32)]) (pc' := 16) rfl ?_
    refine Goes.if2 X (pc' := 29) (o := 13) (cd := .lt) (fun _ => ?_) (fun q => absurd q (by decide))
    refine Goes.run X [(.iconst 0, 1), (.istore_n 3, 1), (.aload_n 2, 1)] (L' := #[.val (.int n), .val (.int (6 : Int32)), .val (.ref (A 6)), .val (.int (0 : Int32)), .unset]) (S' := [.ref (A 6)]) (pc' := 32) rfl ?_
    refine Goes.callVo X 0 [] [] (hE 6 (by decide)) (D_isb l Z a0 h0 hw (A 6) (A 12) (A 13) (A 14) (A 15) (hS 12 (by decide)) (hS 13 (by decide)) (hS 14 (by decide)) (hS 15 (by decide))) (wd hw 8 rfl) (wd hw 9 rfl) (wd hw 11 rfl) (wd hw 10 rfl) (own_nf X (wd hw 11 rfl)) (wd hw 6 rfl) (wd hw 12 rfl) pd_y_1 rfl (st := []) rfl rfl (G := []) rfl rfl ?_
    rintro _ _ ⟨rfl, rfl⟩
    rw [if_neg (by simp [hI 6 12 (by decide) (by decide) (by decide), hI 6 13 (by decide) (by decide) (by decide), hI 6 14 (by decide) (by decide) (by decide), hI 6 15 (by decide) (by decide) (by decide)])]
    show Goes _ _ _ _ _ _ _ _ _ _ _ _ _ _ _ _ _ _ [] 0 0 (mkF m 35 #[.val (.int n), .val (.int (6 : Int32)), .val (.ref (A 6)), .val (.int (0 : Int32)), .unset] [.int (0 : Int32)])
    refine Goes.run X [(.istore 4, 2), (.iload 4, 2), (.iload_n 3, 1)] (L' := #[.val (.int n), .val (.int (6 : Int32)), .val (.ref (A 6)), .val (.int (0 : Int32)), .val (.int (0 : Int32))]) (S' := [.int (0 : Int32), .int (0 : Int32)]) (pc' := 40) rfl ?_
    refine Goes.if2 X (pc' := 45) (o := 5) (cd := .eq) (fun _ => ?_) (fun q => absurd q (by decide))
    refine Goes.runS X [(.iload_n 3, 1)] (S' := [.int (0 : Int32)]) (pc' := 46) rfl ?_
    refine Goes.if1 X (pc' := 61) (o := 15) (cd := .eq) (fun _ => ?_) (fun q => absurd q (by decide))
    refine Goes.runS X [(.iconst 1, 1)] (S' := [.int (1 : Int32)]) (pc' := 62) rfl ?_
    refine Goes.retI X (by simp) rfl ?_
    exact ⟨rfl, rfl⟩
  · refine Goes.runS X [(.iload_n 0, 1)] (S' := [.int n]) (pc' := 1) rfl ?_
    refine Goes.ldcI X (wd hw 0 rfl) ?_
    refine Goes.run X [(.iand, 1), (.bipush 19, 2), (.irem, 1), (.istore_n 1, 1)] (L' := #[.val (.int n), .val (.int ((n &&& (2147483647 : Int32)) % (19 : Int32))), .unset, .unset, .unset]) (S' := []) (pc' := 8) rfl ?_
    rw [e7]
    show Goes _ _ _ _ _ _ _ _ _ _ _ _ _ _ _ _ _ _ [] 0 0 (mkF m 8 #[.val (.int n), .val (.int (7 : Int32)), .unset, .unset, .unset] [])
    refine Goes.runS X [(.iload_n 1, 1)] (S' := [.int (7 : Int32)]) (pc' := 9) rfl ?_
    refine Goes.callS X 0 [] [] (D_pick l Z a0 h0 hw A hS 7) (wd hw 1 rfl) (wd hw 2 rfl) (wd hw 3 rfl) (wd hw 4 rfl) pd_y_0 rfl (st := []) rfl rfl (G := []) rfl rfl ?_
    rintro _ _ ⟨rfl, rfl⟩
    show Goes _ _ _ _ _ _ _ _ _ _ _ _ _ _ _ _ _ _ [] 0 0 (mkF m 12 #[.val (.int n), .val (.int (7 : Int32)), .unset, .unset, .unset] [.ref (A 7)])
    refine Goes.run X [(.astore_n 2, 1), (.iload_n 1, 1), (.bipush 12, 2)] (L' := #[.val (.int n), .val (.int (7 : Int32)), .val (.ref (A 7)), .unset, .unset]) (S' := [.int (12 : Int32), .int (7 : Int32)]) (pc' := 16) rfl ?_
    refine Goes.if2 X (pc' := 29) (o := 13) (cd := .lt) (fun _ => ?_) (fun q => absurd q (by decide))
    refine Goes.run X [(.iconst 0, 1), (.istore_n 3, 1), (.aload_n 2, 1)] (L' := #[.val (.int n), .val (.int (7 : Int32)), .val (.ref (A 7)), .val (.int (0 : Int32)), .unset]) (S' := [.ref (A 7)]) (pc' := 32) rfl ?_
    refine Goes.callVo X 0 [] [] (hE 7 (by decide)) (D_isb l Z a0 h0 hw (A 7) (A 12) (A 13) (A 14) (A 15) (hS 12 (by decide)) (hS 13 (by decide)) (hS 14 (by decide)) (hS 15 (by decide))) (wd hw 8 rfl) (wd hw 9 rfl) (wd hw 11 rfl) (wd hw 10 rfl) (own_nf X (wd hw 11 rfl)) (wd hw 6 rfl) (wd hw 12 rfl) pd_y_1 rfl (st := []) rfl rfl (G := []) rfl rfl ?_
    rintro _ _ ⟨rfl, rfl⟩
    rw [if_neg (by simp [hI 7 12 (by decide) (by decide) (by decide), hI 7 13 (by decide) (by decide) (by decide), hI 7 14 (by decide) (by decide) (by decide), hI 7 15 (by decide) (by decide) (by decide)])]
    show Goes _ _ _ _ _ _ _ _ _ _ _ _ _ _ _ _ _ _ [] 0 0 (mkF m 35 #[.val (.int n), .val (.int (7 : Int32)), .val (.ref (A 7)), .val (.int (0 : Int32)), .unset] [.int (0 : Int32)])
    refine Goes.run X [(.istore 4, 2), (.iload 4, 2), (.iload_n 3, 1)] (L' := #[.val (.int n), .val (.int (7 : Int32)), .val (.ref (A 7)), .val (.int (0 : Int32)), .val (.int (0 : Int32))]) (S' := [.int (0 : Int32), .int (0 : Int32)]) (pc' := 40) rfl ?_
    refine Goes.if2 X (pc' := 45) (o := 5) (cd := .eq) (fun _ => ?_) (fun q => absurd q (by decide))
    refine Goes.runS X [(.iload_n 3, 1)] (S' := [.int (0 : Int32)]) (pc' := 46) rfl ?_
    refine Goes.if1 X (pc' := 61) (o := 15) (cd := .eq) (fun _ => ?_) (fun q => absurd q (by decide))
    refine Goes.runS X [(.iconst 1, 1)] (S' := [.int (1 : Int32)]) (pc' := 62) rfl ?_
    refine Goes.retI X (by simp) rfl ?_
    exact ⟨rfl, rfl⟩
  · refine Goes.runS X [(.iload_n 0, 1)] (S' := [.int n]) (pc' := 1) rfl ?_
    refine Goes.ldcI X (wd hw 0 rfl) ?_
    refine Goes.run X [(.iand, 1), (.bipush 19, 2), (.irem, 1), (.istore_n 1, 1)] (L' := #[.val (.int n), .val (.int ((n &&& (2147483647 : Int32)) % (19 : Int32))), .unset, .unset, .unset]) (S' := []) (pc' := 8) rfl ?_
    rw [e8]
    show Goes _ _ _ _ _ _ _ _ _ _ _ _ _ _ _ _ _ _ [] 0 0 (mkF m 8 #[.val (.int n), .val (.int (8 : Int32)), .unset, .unset, .unset] [])
    refine Goes.runS X [(.iload_n 1, 1)] (S' := [.int (8 : Int32)]) (pc' := 9) rfl ?_
    refine Goes.callS X 0 [] [] (D_pick l Z a0 h0 hw A hS 8) (wd hw 1 rfl) (wd hw 2 rfl) (wd hw 3 rfl) (wd hw 4 rfl) pd_y_0 rfl (st := []) rfl rfl (G := []) rfl rfl ?_
    rintro _ _ ⟨rfl, rfl⟩
    show Goes _ _ _ _ _ _ _ _ _ _ _ _ _ _ _ _ _ _ [] 0 0 (mkF m 12 #[.val (.int n), .val (.int (8 : Int32)), .unset, .unset, .unset] [.ref (A 8)])
    refine Goes.run X [(.astore_n 2, 1), (.iload_n 1, 1), (.bipush 12, 2)] (L' := #[.val (.int n), .val (.int (8 : Int32)), .val (.ref (A 8)), .unset, .unset]) (S' := [.int (12 : Int32), .int (8 : Int32)]) (pc' := 16) rfl ?_
    refine Goes.if2 X (pc' := 29) (o := 13) (cd := .lt) (fun _ => ?_) (fun q => absurd q (by decide))
    refine Goes.run X [(.iconst 0, 1), (.istore_n 3, 1), (.aload_n 2, 1)] (L' := #[.val (.int n), .val (.int (8 : Int32)), .val (.ref (A 8)), .val (.int (0 : Int32)), .unset]) (S' := [.ref (A 8)]) (pc' := 32) rfl ?_
    refine Goes.callVo X 0 [] [] (hE 8 (by decide)) (D_isb l Z a0 h0 hw (A 8) (A 12) (A 13) (A 14) (A 15) (hS 12 (by decide)) (hS 13 (by decide)) (hS 14 (by decide)) (hS 15 (by decide))) (wd hw 8 rfl) (wd hw 9 rfl) (wd hw 11 rfl) (wd hw 10 rfl) (own_nf X (wd hw 11 rfl)) (wd hw 6 rfl) (wd hw 12 rfl) pd_y_1 rfl (st := []) rfl rfl (G := []) rfl rfl ?_
    rintro _ _ ⟨rfl, rfl⟩
    rw [if_neg (by simp [hI 8 12 (by decide) (by decide) (by decide), hI 8 13 (by decide) (by decide) (by decide), hI 8 14 (by decide) (by decide) (by decide), hI 8 15 (by decide) (by decide) (by decide)])]
    show Goes _ _ _ _ _ _ _ _ _ _ _ _ _ _ _ _ _ _ [] 0 0 (mkF m 35 #[.val (.int n), .val (.int (8 : Int32)), .val (.ref (A 8)), .val (.int (0 : Int32)), .unset] [.int (0 : Int32)])
    refine Goes.run X [(.istore 4, 2), (.iload 4, 2), (.iload_n 3, 1)] (L' := #[.val (.int n), .val (.int (8 : Int32)), .val (.ref (A 8)), .val (.int (0 : Int32)), .val (.int (0 : Int32))]) (S' := [.int (0 : Int32), .int (0 : Int32)]) (pc' := 40) rfl ?_
    refine Goes.if2 X (pc' := 45) (o := 5) (cd := .eq) (fun _ => ?_) (fun q => absurd q (by decide))
    refine Goes.runS X [(.iload_n 3, 1)] (S' := [.int (0 : Int32)]) (pc' := 46) rfl ?_
    refine Goes.if1 X (pc' := 61) (o := 15) (cd := .eq) (fun _ => ?_) (fun q => absurd q (by decide))
    refine Goes.runS X [(.iconst 1, 1)] (S' := [.int (1 : Int32)]) (pc' := 62) rfl ?_
    refine Goes.retI X (by simp) rfl ?_
    exact ⟨rfl, rfl⟩
  · refine Goes.runS X [(.iload_n 0, 1)] (S' := [.int n]) (pc' := 1) rfl ?_
    refine Goes.ldcI X (wd hw 0 rfl) ?_
    refine Goes.run X [(.iand, 1), (.bipush 19, 2), (.irem, 1), (.istore_n 1, 1)] (L' := #[.val (.int n), .val (.int ((n &&& (2147483647 : Int32)) % (19 : Int32))), .unset, .unset, .unset]) (S' := []) (pc' := 8) rfl ?_
    rw [e9]
    show Goes _ _ _ _ _ _ _ _ _ _ _ _ _ _ _ _ _ _ [] 0 0 (mkF m 8 #[.val (.int n), .val (.int (9 : Int32)), .unset, .unset, .unset] [])
    refine Goes.runS X [(.iload_n 1, 1)] (S' := [.int (9 : Int32)]) (pc' := 9) rfl ?_
    refine Goes.callS X 0 [] [] (D_pick l Z a0 h0 hw A hS 9) (wd hw 1 rfl) (wd hw 2 rfl) (wd hw 3 rfl) (wd hw 4 rfl) pd_y_0 rfl (st := []) rfl rfl (G := []) rfl rfl ?_
    rintro _ _ ⟨rfl, rfl⟩
    show Goes _ _ _ _ _ _ _ _ _ _ _ _ _ _ _ _ _ _ [] 0 0 (mkF m 12 #[.val (.int n), .val (.int (9 : Int32)), .unset, .unset, .unset] [.ref (A 9)])
    refine Goes.run X [(.astore_n 2, 1), (.iload_n 1, 1), (.bipush 12, 2)] (L' := #[.val (.int n), .val (.int (9 : Int32)), .val (.ref (A 9)), .unset, .unset]) (S' := [.int (12 : Int32), .int (9 : Int32)]) (pc' := 16) rfl ?_
    refine Goes.if2 X (pc' := 29) (o := 13) (cd := .lt) (fun _ => ?_) (fun q => absurd q (by decide))
    refine Goes.run X [(.iconst 0, 1), (.istore_n 3, 1), (.aload_n 2, 1)] (L' := #[.val (.int n), .val (.int (9 : Int32)), .val (.ref (A 9)), .val (.int (0 : Int32)), .unset]) (S' := [.ref (A 9)]) (pc' := 32) rfl ?_
    refine Goes.callVo X 0 [] [] (hE 9 (by decide)) (D_isb l Z a0 h0 hw (A 9) (A 12) (A 13) (A 14) (A 15) (hS 12 (by decide)) (hS 13 (by decide)) (hS 14 (by decide)) (hS 15 (by decide))) (wd hw 8 rfl) (wd hw 9 rfl) (wd hw 11 rfl) (wd hw 10 rfl) (own_nf X (wd hw 11 rfl)) (wd hw 6 rfl) (wd hw 12 rfl) pd_y_1 rfl (st := []) rfl rfl (G := []) rfl rfl ?_
    rintro _ _ ⟨rfl, rfl⟩
    rw [if_neg (by simp [hI 9 12 (by decide) (by decide) (by decide), hI 9 13 (by decide) (by decide) (by decide), hI 9 14 (by decide) (by decide) (by decide), hI 9 15 (by decide) (by decide) (by decide)])]
    show Goes _ _ _ _ _ _ _ _ _ _ _ _ _ _ _ _ _ _ [] 0 0 (mkF m 35 #[.val (.int n), .val (.int (9 : Int32)), .val (.ref (A 9)), .val (.int (0 : Int32)), .unset] [.int (0 : Int32)])
    refine Goes.run X [(.istore 4, 2), (.iload 4, 2), (.iload_n 3, 1)] (L' := #[.val (.int n), .val (.int (9 : Int32)), .val (.ref (A 9)), .val (.int (0 : Int32)), .val (.int (0 : Int32))]) (S' := [.int (0 : Int32), .int (0 : Int32)]) (pc' := 40) rfl ?_
    refine Goes.if2 X (pc' := 45) (o := 5) (cd := .eq) (fun _ => ?_) (fun q => absurd q (by decide))
    refine Goes.runS X [(.iload_n 3, 1)] (S' := [.int (0 : Int32)]) (pc' := 46) rfl ?_
    refine Goes.if1 X (pc' := 61) (o := 15) (cd := .eq) (fun _ => ?_) (fun q => absurd q (by decide))
    refine Goes.runS X [(.iconst 1, 1)] (S' := [.int (1 : Int32)]) (pc' := 62) rfl ?_
    refine Goes.retI X (by simp) rfl ?_
    exact ⟨rfl, rfl⟩
  · refine Goes.runS X [(.iload_n 0, 1)] (S' := [.int n]) (pc' := 1) rfl ?_
    refine Goes.ldcI X (wd hw 0 rfl) ?_
    refine Goes.run X [(.iand, 1), (.bipush 19, 2), (.irem, 1), (.istore_n 1, 1)] (L' := #[.val (.int n), .val (.int ((n &&& (2147483647 : Int32)) % (19 : Int32))), .unset, .unset, .unset]) (S' := []) (pc' := 8) rfl ?_
    rw [e10]
    show Goes _ _ _ _ _ _ _ _ _ _ _ _ _ _ _ _ _ _ [] 0 0 (mkF m 8 #[.val (.int n), .val (.int (10 : Int32)), .unset, .unset, .unset] [])
    refine Goes.runS X [(.iload_n 1, 1)] (S' := [.int (10 : Int32)]) (pc' := 9) rfl ?_
    refine Goes.callS X 0 [] [] (D_pick l Z a0 h0 hw A hS 10) (wd hw 1 rfl) (wd hw 2 rfl) (wd hw 3 rfl) (wd hw 4 rfl) pd_y_0 rfl (st := []) rfl rfl (G := []) rfl rfl ?_
    rintro _ _ ⟨rfl, rfl⟩
    show Goes _ _ _ _ _ _ _ _ _ _ _ _ _ _ _ _ _ _ [] 0 0 (mkF m 12 #[.val (.int n), .val (.int (10 : Int32)), .unset, .unset, .unset] [.ref (A 10)])
    refine Goes.run X [(.astore_n 2, 1), (.iload_n 1, 1), (.bipush 12, 2)] (L' := #[.val (.int n), .val (.int (10 : Int32)), .val (.ref (A 10)), .unset, .unset]) (S' := [.int (12 : Int32), .int (10 : Int32)]) (pc' := 16) rfl ?_
    refine Goes.if2 X (pc' := 29) (o := 13) (cd := .lt) (fun _ => ?_) (fun q => absurd q (by decide))
    refine Goes.run X [(.iconst 0, 1), (.istore_n 3, 1), (.aload_n 2, 1)] (L' := #[.val (.int n), .val (.int (10 : Int32)), .val (.ref (A 10)), .val (.int (0 : Int32)), .unset]) (S' := [.ref (A 10)]) (pc' := 32) rfl ?_
    refine Goes.callVo X 0 [] [] (hE 10 (by decide)) (D_isb l Z a0 h0 hw (A 10) (A 12) (A 13) (A 14) (A 15) (hS 12 (by decide)) (hS 13 (by decide)) (hS 14 (by decide)) (hS 15 (by decide))) (wd hw 8 rfl) (wd hw 9 rfl) (wd hw 11 rfl) (wd hw 10 rfl) (own_nf X (wd hw 11 rfl)) (wd hw 6 rfl) (wd hw 12 rfl) pd_y_1 rfl (st := []) rfl rfl (G := []) rfl rfl ?_
    rintro _ _ ⟨rfl, rfl⟩
    rw [if_neg (by simp [hI 10 12 (by decide) (by decide) (by decide), hI 10 13 (by decide) (by decide) (by decide), hI 10 14 (by decide) (by decide) (by decide), hI 10 15 (by decide) (by decide) (by decide)])]
    show Goes _ _ _ _ _ _ _ _ _ _ _ _ _ _ _ _ _ _ [] 0 0 (mkF m 35 #[.val (.int n), .val (.int (10 : Int32)), .val (.ref (A 10)), .val (.int (0 : Int32)), .unset] [.int (0 : Int32)])
    refine Goes.run X [(.istore 4, 2), (.iload 4, 2), (.iload_n 3, 1)] (L' := #[.val (.int n), .val (.int (10 : Int32)), .val (.ref (A 10)), .val (.int (0 : Int32)), .val (.int (0 : Int32))]) (S' := [.int (0 : Int32), .int (0 : Int32)]) (pc' := 40) rfl ?_
    refine Goes.if2 X (pc' := 45) (o := 5) (cd := .eq) (fun _ => ?_) (fun q => absurd q (by decide))
    refine Goes.runS X [(.iload_n 3, 1)] (S' := [.int (0 : Int32)]) (pc' := 46) rfl ?_
    refine Goes.if1 X (pc' := 61) (o := 15) (cd := .eq) (fun _ => ?_) (fun q => absurd q (by decide))
    refine Goes.runS X [(.iconst 1, 1)] (S' := [.int (1 : Int32)]) (pc' := 62) rfl ?_
    refine Goes.retI X (by simp) rfl ?_
    exact ⟨rfl, rfl⟩
  · refine Goes.runS X [(.iload_n 0, 1)] (S' := [.int n]) (pc' := 1) rfl ?_
    refine Goes.ldcI X (wd hw 0 rfl) ?_
    refine Goes.run X [(.iand, 1), (.bipush 19, 2), (.irem, 1), (.istore_n 1, 1)] (L' := #[.val (.int n), .val (.int ((n &&& (2147483647 : Int32)) % (19 : Int32))), .unset, .unset, .unset]) (S' := []) (pc' := 8) rfl ?_
    rw [e11]
    show Goes _ _ _ _ _ _ _ _ _ _ _ _ _ _ _ _ _ _ [] 0 0 (mkF m 8 #[.val (.int n), .val (.int (11 : Int32)), .unset, .unset, .unset] [])
    refine Goes.runS X [(.iload_n 1, 1)] (S' := [.int (11 : Int32)]) (pc' := 9) rfl ?_
    refine Goes.callS X 0 [] [] (D_pick l Z a0 h0 hw A hS 11) (wd hw 1 rfl) (wd hw 2 rfl) (wd hw 3 rfl) (wd hw 4 rfl) pd_y_0 rfl (st := []) rfl rfl (G := []) rfl rfl ?_
    rintro _ _ ⟨rfl, rfl⟩
    show Goes _ _ _ _ _ _ _ _ _ _ _ _ _ _ _ _ _ _ [] 0 0 (mkF m 12 #[.val (.int n), .val (.int (11 : Int32)), .unset, .unset, .unset] [.ref (A 11)])
    refine Goes.run X [(.astore_n 2, 1), (.iload_n 1, 1), (.bipush 12, 2)] (L' := #[.val (.int n), .val (.int (11 : Int32)), .val (.ref (A 11)), .unset, .unset]) (S' := [.int (12 : Int32), .int (11 : Int32)]) (pc' := 16) rfl ?_
    refine Goes.if2 X (pc' := 29) (o := 13) (cd := .lt) (fun _ => ?_) (fun q => absurd q (by decide))
    refine Goes.run X [(.iconst 0, 1), (.istore_n 3, 1), (.aload_n 2, 1)] (L' := #[.val (.int n), .val (.int (11 : Int32)), .val (.ref (A 11)), .val (.int (0 : Int32)), .unset]) (S' := [.ref (A 11)]) (pc' := 32) rfl ?_
    refine Goes.callVo X 0 [] [] (hE 11 (by decide)) (D_isb l Z a0 h0 hw (A 11) (A 12) (A 13) (A 14) (A 15) (hS 12 (by decide)) (hS 13 (by decide)) (hS 14 (by decide)) (hS 15 (by decide))) (wd hw 8 rfl) (wd hw 9 rfl) (wd hw 11 rfl) (wd hw 10 rfl) (own_nf X (wd hw 11 rfl)) (wd hw 6 rfl) (wd hw 12 rfl) pd_y_1 rfl (st := []) rfl rfl (G := []) rfl rfl ?_
    rintro _ _ ⟨rfl, rfl⟩
    rw [if_neg (by simp [hI 11 12 (by decide) (by decide) (by decide), hI 11 13 (by decide) (by decide) (by decide), hI 11 14 (by decide) (by decide) (by decide), hI 11 15 (by decide) (by decide) (by decide)])]
    show Goes _ _ _ _ _ _ _ _ _ _ _ _ _ _ _ _ _ _ [] 0 0 (mkF m 35 #[.val (.int n), .val (.int (11 : Int32)), .val (.ref (A 11)), .val (.int (0 : Int32)), .unset] [.int (0 : Int32)])
    refine Goes.run X [(.istore 4, 2), (.iload 4, 2), (.iload_n 3, 1)] (L' := #[.val (.int n), .val (.int (11 : Int32)), .val (.ref (A 11)), .val (.int (0 : Int32)), .val (.int (0 : Int32))]) (S' := [.int (0 : Int32), .int (0 : Int32)]) (pc' := 40) rfl ?_
    refine Goes.if2 X (pc' := 45) (o := 5) (cd := .eq) (fun _ => ?_) (fun q => absurd q (by decide))
    refine Goes.runS X [(.iload_n 3, 1)] (S' := [.int (0 : Int32)]) (pc' := 46) rfl ?_
    refine Goes.if1 X (pc' := 61) (o := 15) (cd := .eq) (fun _ => ?_) (fun q => absurd q (by decide))
    refine Goes.runS X [(.iconst 1, 1)] (S' := [.int (1 : Int32)]) (pc' := 62) rfl ?_
    refine Goes.retI X (by simp) rfl ?_
    exact ⟨rfl, rfl⟩
  · refine Goes.runS X [(.iload_n 0, 1)] (S' := [.int n]) (pc' := 1) rfl ?_
    refine Goes.ldcI X (wd hw 0 rfl) ?_
    refine Goes.run X [(.iand, 1), (.bipush 19, 2), (.irem, 1), (.istore_n 1, 1)] (L' := #[.val (.int n), .val (.int ((n &&& (2147483647 : Int32)) % (19 : Int32))), .unset, .unset, .unset]) (S' := []) (pc' := 8) rfl ?_
    rw [e12]
    show Goes _ _ _ _ _ _ _ _ _ _ _ _ _ _ _ _ _ _ [] 0 0 (mkF m 8 #[.val (.int n), .val (.int (12 : Int32)), .unset, .unset, .unset] [])
    refine Goes.runS X [(.iload_n 1, 1)] (S' := [.int (12 : Int32)]) (pc' := 9) rfl ?_
    refine Goes.callS X 0 [] [] (D_pick l Z a0 h0 hw A hS 12) (wd hw 1 rfl) (wd hw 2 rfl) (wd hw 3 rfl) (wd hw 4 rfl) pd_y_0 rfl (st := []) rfl rfl (G := []) rfl rfl ?_
    rintro _ _ ⟨rfl, rfl⟩
    show Goes _ _ _ _ _ _ _ _ _ _ _ _ _ _ _ _ _ _ [] 0 0 (mkF m 12 #[.val (.int n), .val (.int (12 : Int32)), .unset, .unset, .unset] [.ref (A 12)])
    refine Goes.run X [(.astore_n 2, 1), (.iload_n 1, 1), (.bipush 12, 2)] (L' := #[.val (.int n), .val (.int (12 : Int32)), .val (.ref (A 12)), .unset, .unset]) (S' := [.int (12 : Int32), .int (12 : Int32)]) (pc' := 16) rfl ?_
    refine Goes.if2 X (pc' := 29) (o := 13) (cd := .lt) (fun q => absurd q (by decide)) (fun _ => ?_)
    refine Goes.runS X [(.iload_n 1, 1), (.bipush 15, 2)] (S' := [.int (15 : Int32), .int (12 : Int32)]) (pc' := 22) rfl ?_
    refine Goes.if2 X (pc' := 29) (o := 7) (cd := .gt) (fun q => absurd q (by decide)) (fun _ => ?_)
    refine Goes.runS X [(.iconst 1, 1)] (S' := [.int (1 : Int32)]) (pc' := 26) rfl ?_
    refine Goes.goto X (o := 4) (pc' := 30) ?_
    refine Goes.run X [(.istore_n 3, 1), (.aload_n 2, 1)] (L' := #[.val (.int n), .val (.int (12 : Int32)), .val (.ref (A 12)), .val (.int (1 : Int32)), .unset]) (S' := [.ref (A 12)]) (pc' := 32) rfl ?_
    refine Goes.callVo X 0 [] [] (hE 12 (by decide)) (D_isb l Z a0 h0 hw (A 12) (A 12) (A 13) (A 14) (A 15) (hS 12 (by decide)) (hS 13 (by decide)) (hS 14 (by decide)) (hS 15 (by decide))) (wd hw 8 rfl) (wd hw 9 rfl) (wd hw 11 rfl) (wd hw 10 rfl) (own_nf X (wd hw 11 rfl)) (wd hw 6 rfl) (wd hw 12 rfl) pd_y_1 rfl (st := []) rfl rfl (G := []) rfl rfl ?_
    rintro _ _ ⟨rfl, rfl⟩
    rw [if_pos (by simp)]
    show Goes _ _ _ _ _ _ _ _ _ _ _ _ _ _ _ _ _ _ [] 0 0 (mkF m 35 #[.val (.int n), .val (.int (12 : Int32)), .val (.ref (A 12)), .val (.int (1 : Int32)), .unset] [.int (1 : Int32)])
    refine Goes.run X [(.istore 4, 2), (.iload 4, 2), (.iload_n 3, 1)] (L' := #[.val (.int n), .val (.int (12 : Int32)), .val (.ref (A 12)), .val (.int (1 : Int32)), .val (.int (1 : Int32))]) (S' := [.int (1 : Int32), .int (1 : Int32)]) (pc' := 40) rfl ?_
    refine Goes.if2 X (pc' := 45) (o := 5) (cd := .eq) (fun _ => ?_) (fun q => absurd q (by decide))
    refine Goes.runS X [(.iload_n 3, 1)] (S' := [.int (1 : Int32)]) (pc' := 46) rfl ?_
    refine Goes.if1 X (pc' := 61) (o := 15) (cd := .eq) (fun q => absurd q (by decide)) (fun _ => ?_)
    refine Goes.runS X [(.aload_n 2, 1)] (S' := [.ref (A 12)]) (pc' := 50) rfl ?_
    refine Goes.callVo X 0 [] [] (hE 12 (by decide)) (D_fam l Z a0 h0 hw (A 12) B (hF 12 (by decide) (by decide))) (wd hw 24 rfl) (wd hw 25 rfl) (wd hw 27 rfl) (wd hw 26 rfl) (own_nf X (wd hw 27 rfl)) (wd hw 6 rfl) (wd hw 28 rfl) pd_y_2 rfl (st := []) rfl rfl (G := []) rfl rfl ?_
    rintro _ _ ⟨rfl, rfl⟩
    refine Goes.getS X (wd hw 33 rfl) Via.refl hB ?_
    refine Goes.ifA X rfl rfl (pc' := 61) (o := 5) (cd := .eq) (fun _ => ?_) (fun q => absurd q (by simp [acV]))
    show Goes _ _ _ _ _ _ _ _ _ _ _ _ _ _ _ _ _ _ [] 0 0 (mkF m 61 #[.val (.int n), .val (.int (12 : Int32)), .val (.ref (A 12)), .val (.int (1 : Int32)), .val (.int (1 : Int32))] [])
    refine Goes.runS X [(.iconst 1, 1)] (S' := [.int (1 : Int32)]) (pc' := 62) rfl ?_
    refine Goes.retI X (by simp) rfl ?_
    exact ⟨rfl, rfl⟩
  · refine Goes.runS X [(.iload_n 0, 1)] (S' := [.int n]) (pc' := 1) rfl ?_
    refine Goes.ldcI X (wd hw 0 rfl) ?_
    refine Goes.run X [(.iand, 1), (.bipush 19, 2), (.irem, 1), (.istore_n 1, 1)] (L' := #[.val (.int n), .val (.int ((n &&& (2147483647 : Int32)) % (19 : Int32))), .unset, .unset, .unset]) (S' := []) (pc' := 8) rfl ?_
    rw [e13]
    show Goes _ _ _ _ _ _ _ _ _ _ _ _ _ _ _ _ _ _ [] 0 0 (mkF m 8 #[.val (.int n), .val (.int (13 : Int32)), .unset, .unset, .unset] [])
    refine Goes.runS X [(.iload_n 1, 1)] (S' := [.int (13 : Int32)]) (pc' := 9) rfl ?_
    refine Goes.callS X 0 [] [] (D_pick l Z a0 h0 hw A hS 13) (wd hw 1 rfl) (wd hw 2 rfl) (wd hw 3 rfl) (wd hw 4 rfl) pd_y_0 rfl (st := []) rfl rfl (G := []) rfl rfl ?_
    rintro _ _ ⟨rfl, rfl⟩
    show Goes _ _ _ _ _ _ _ _ _ _ _ _ _ _ _ _ _ _ [] 0 0 (mkF m 12 #[.val (.int n), .val (.int (13 : Int32)), .unset, .unset, .unset] [.ref (A 13)])
    refine Goes.run X [(.astore_n 2, 1), (.iload_n 1, 1), (.bipush 12, 2)] (L' := #[.val (.int n), .val (.int (13 : Int32)), .val (.ref (A 13)), .unset, .unset]) (S' := [.int (12 : Int32), .int (13 : Int32)]) (pc' := 16) rfl ?_
    refine Goes.if2 X (pc' := 29) (o := 13) (cd := .lt) (fun q => absurd q (by decide)) (fun _ => ?_)
    refine Goes.runS X [(.iload_n 1, 1), (.bipush 15, 2)] (S' := [.int (15 : Int32), .int (13 : Int32)]) (pc' := 22) rfl ?_
    refine Goes.if2 X (pc' := 29) (o := 7) (cd := .gt) (fun q => absurd q (by decide)) (fun _ => ?_)
    refine Goes.runS X [(.iconst 1, 1)] (S' := [.int (1 : Int32)]) (pc' := 26) rfl ?_
    refine Goes.goto X (o := 4) (pc' := 30) ?_
    refine Goes.run X [(.istore_n 3, 1), (.aload_n 2, 1)] (L' := #[.val (.int n), .val (.int (13 : Int32)), .val (.ref (A 13)), .val (.int (1 : Int32)), .unset]) (S' := [.ref (A 13)]) (pc' := 32) rfl ?_
    refine Goes.callVo X 0 [] [] (hE 13 (by decide)) (D_isb l Z a0 h0 hw (A 13) (A 12) (A 13) (A 14) (A 15) (hS 12 (by decide)) (hS 13 (by decide)) (hS 14 (by decide)) (hS 15 (by decide))) (wd hw 8 rfl) (wd hw 9 rfl) (wd hw 11 rfl) (wd hw 10 rfl) (own_nf X (wd hw 11 rfl)) (wd hw 6 rfl) (wd hw 12 rfl) pd_y_1 rfl (st := []) rfl rfl (G := []) rfl rfl ?_
    rintro _ _ ⟨rfl, rfl⟩
    rw [if_pos (by simp)]
    show Goes _ _ _ _ _ _ _ _ _ _ _ _ _ _ _ _ _ _ [] 0 0 (mkF m 35 #[.val (.int n), .val (.int (13 : Int32)), .val (.ref (A 13)), .val (.int (1 : Int32)), .unset] [.int (1 : Int32)])
    refine Goes.run X [(.istore 4, 2), (.iload 4, 2), (.iload_n 3, 1)] (L' := #[.val (.int n), .val (.int (13 : Int32)), .val (.ref (A 13)), .val (.int (1 : Int32)), .val (.int (1 : Int32))]) (S' := [.int (1 : Int32), .int (1 : Int32)]) (pc' := 40) rfl ?_
    refine Goes.if2 X (pc' := 45) (o := 5) (cd := .eq) (fun _ => ?_) (fun q => absurd q (by decide))
    refine Goes.runS X [(.iload_n 3, 1)] (S' := [.int (1 : Int32)]) (pc' := 46) rfl ?_
    refine Goes.if1 X (pc' := 61) (o := 15) (cd := .eq) (fun q => absurd q (by decide)) (fun _ => ?_)
    refine Goes.runS X [(.aload_n 2, 1)] (S' := [.ref (A 13)]) (pc' := 50) rfl ?_
    refine Goes.callVo X 0 [] [] (hE 13 (by decide)) (D_fam l Z a0 h0 hw (A 13) B (hF 13 (by decide) (by decide))) (wd hw 24 rfl) (wd hw 25 rfl) (wd hw 27 rfl) (wd hw 26 rfl) (own_nf X (wd hw 27 rfl)) (wd hw 6 rfl) (wd hw 28 rfl) pd_y_2 rfl (st := []) rfl rfl (G := []) rfl rfl ?_
    rintro _ _ ⟨rfl, rfl⟩
    refine Goes.getS X (wd hw 33 rfl) Via.refl hB ?_
    refine Goes.ifA X rfl rfl (pc' := 61) (o := 5) (cd := .eq) (fun _ => ?_) (fun q => absurd q (by simp [acV]))
    show Goes _ _ _ _ _ _ _ _ _ _ _ _ _ _ _ _ _ _ [] 0 0 (mkF m 61 #[.val (.int n), .val (.int (13 : Int32)), .val (.ref (A 13)), .val (.int (1 : Int32)), .val (.int (1 : Int32))] [])
    refine Goes.runS X [(.iconst 1, 1)] (S' := [.int (1 : Int32)]) (pc' := 62) rfl ?_
    refine Goes.retI X (by simp) rfl ?_
    exact ⟨rfl, rfl⟩
  · refine Goes.runS X [(.iload_n 0, 1)] (S' := [.int n]) (pc' := 1) rfl ?_
    refine Goes.ldcI X (wd hw 0 rfl) ?_
    refine Goes.run X [(.iand, 1), (.bipush 19, 2), (.irem, 1), (.istore_n 1, 1)] (L' := #[.val (.int n), .val (.int ((n &&& (2147483647 : Int32)) % (19 : Int32))), .unset, .unset, .unset]) (S' := []) (pc' := 8) rfl ?_
    rw [e14]
    show Goes _ _ _ _ _ _ _ _ _ _ _ _ _ _ _ _ _ _ [] 0 0 (mkF m 8 #[.val (.int n), .val (.int (14 : Int32)), .unset, .unset, .unset] [])
    refine Goes.runS X [(.iload_n 1, 1)] (S' := [.int (14 : Int32)]) (pc' := 9) rfl ?_
    refine Goes.callS X 0 [] [] (D_pick l Z a0 h0 hw A hS 14) (wd hw 1 rfl) (wd hw 2 rfl) (wd hw 3 rfl) (wd hw 4 rfl) pd_y_0 rfl (st := []) rfl rfl (G := []) rfl rfl ?_
    rintro _ _ ⟨rfl, rfl⟩
    show Goes _ _ _ _ _ _ _ _ _ _ _ _ _ _ _ _ _ _ [] 0 0 (mkF m 12 #[.val (.int n), .val (.int (14 : Int32)), .unset, .unset, .unset] [.ref (A 14)])
    refine Goes.run X [(.astore_n 2, 1), (.iload_n 1, 1), (.bipush 12, 2)] (L' := #[.val (.int n), .val (.int (14 : Int32)), .val (.ref (A 14)), .unset, .unset]) (S' := [.int (12 : Int32), .int (14 : Int32)]) (pc' := 16) rfl ?_
    refine Goes.if2 X (pc' := 29) (o := 13) (cd := .lt) (fun q => absurd q (by decide)) (fun _ => ?_)
    refine Goes.runS X [(.iload_n 1, 1), (.bipush 15, 2)] (S' := [.int (15 : Int32), .int (14 : Int32)]) (pc' := 22) rfl ?_
    refine Goes.if2 X (pc' := 29) (o := 7) (cd := .gt) (fun q => absurd q (by decide)) (fun _ => ?_)
    refine Goes.runS X [(.iconst 1, 1)] (S' := [.int (1 : Int32)]) (pc' := 26) rfl ?_
    refine Goes.goto X (o := 4) (pc' := 30) ?_
    refine Goes.run X [(.istore_n 3, 1), (.aload_n 2, 1)] (L' := #[.val (.int n), .val (.int (14 : Int32)), .val (.ref (A 14)), .val (.int (1 : Int32)), .unset]) (S' := [.ref (A 14)]) (pc' := 32) rfl ?_
    refine Goes.callVo X 0 [] [] (hE 14 (by decide)) (D_isb l Z a0 h0 hw (A 14) (A 12) (A 13) (A 14) (A 15) (hS 12 (by decide)) (hS 13 (by decide)) (hS 14 (by decide)) (hS 15 (by decide))) (wd hw 8 rfl) (wd hw 9 rfl) (wd hw 11 rfl) (wd hw 10 rfl) (own_nf X (wd hw 11 rfl)) (wd hw 6 rfl) (wd hw 12 rfl) pd_y_1 rfl (st := []) rfl rfl (G := []) rfl rfl ?_
    rintro _ _ ⟨rfl, rfl⟩
    rw [if_pos (by simp)]
    show Goes _ _ _ _ _ _ _ _ _ _ _ _ _ _ _ _ _ _ [] 0 0 (mkF m 35 #[.val (.int n), .val (.int (14 : Int32)), .val (.ref (A 14)), .val (.int (1 : Int32)), .unset] [.int (1 : Int32)])
    refine Goes.run X [(.istore 4, 2), (.iload 4, 2), (.iload_n 3, 1)] (L' := #[.val (.int n), .val (.int (14 : Int32)), .val (.ref (A 14)), .val (.int (1 : Int32)), .val (.int (1 : Int32))]) (S' := [.int (1 : Int32), .int (1 : Int32)]) (pc' := 40) rfl ?_
    refine Goes.if2 X (pc' := 45) (o := 5) (cd := .eq) (fun _ => ?_) (fun q => absurd q (by decide))
    refine Goes.runS X [(.iload_n 3, 1)] (S' := [.int (1 : Int32)]) (pc' := 46) rfl ?_
    refine Goes.if1 X (pc' := 61) (o := 15) (cd := .eq) (fun q => absurd q (by decide)) (fun _ => ?_)
    refine Goes.runS X [(.aload_n 2, 1)] (S' := [.ref (A 14)]) (pc' := 50) rfl ?_
    refine Goes.callVo X 0 [] [] (hE 14 (by decide)) (D_fam l Z a0 h0 hw (A 14) B (hF 14 (by decide) (by decide))) (wd hw 24 rfl) (wd hw 25 rfl) (wd hw 27 rfl) (wd hw 26 rfl) (own_nf X (wd hw 27 rfl)) (wd hw 6 rfl) (wd hw 28 rfl) pd_y_2 rfl (st := []) rfl rfl (G := []) rfl rfl ?_
    rintro _ _ ⟨rfl, rfl⟩
    refine Goes.getS X (wd hw 33 rfl) Via.refl hB ?_
    refine Goes.ifA X rfl rfl (pc' := 61) (o := 5) (cd := .eq) (fun _ => ?_) (fun q => absurd q (by simp [acV]))
    show Goes _ _ _ _ _ _ _ _ _ _ _ _ _ _ _ _ _ _ [] 0 0 (mkF m 61 #[.val (.int n), .val (.int (14 : Int32)), .val (.ref (A 14)), .val (.int (1 : Int32)), .val (.int (1 : Int32))] [])
    refine Goes.runS X [(.iconst 1, 1)] (S' := [.int (1 : Int32)]) (pc' := 62) rfl ?_
    refine Goes.retI X (by simp) rfl ?_
    exact ⟨rfl, rfl⟩
  · refine Goes.runS X [(.iload_n 0, 1)] (S' := [.int n]) (pc' := 1) rfl ?_
    refine Goes.ldcI X (wd hw 0 rfl) ?_
    refine Goes.run X [(.iand, 1), (.bipush 19, 2), (.irem, 1), (.istore_n 1, 1)] (L' := #[.val (.int n), .val (.int ((n &&& (2147483647 : Int32)) % (19 : Int32))), .unset, .unset, .unset]) (S' := []) (pc' := 8) rfl ?_
    rw [e15]
    show Goes _ _ _ _ _ _ _ _ _ _ _ _ _ _ _ _ _ _ [] 0 0 (mkF m 8 #[.val (.int n), .val (.int (15 : Int32)), .unset, .unset, .unset] [])
    refine Goes.runS X [(.iload_n 1, 1)] (S' := [.int (15 : Int32)]) (pc' := 9) rfl ?_
    refine Goes.callS X 0 [] [] (D_pick l Z a0 h0 hw A hS 15) (wd hw 1 rfl) (wd hw 2 rfl) (wd hw 3 rfl) (wd hw 4 rfl) pd_y_0 rfl (st := []) rfl rfl (G := []) rfl rfl ?_
    rintro _ _ ⟨rfl, rfl⟩
    show Goes _ _ _ _ _ _ _ _ _ _ _ _ _ _ _ _ _ _ [] 0 0 (mkF m 12 #[.val (.int n), .val (.int (15 : Int32)), .unset, .unset, .unset] [.ref (A 15)])
    refine Goes.run X [(.astore_n 2, 1), (.iload_n 1, 1), (.bipush 12, 2)] (L' := #[.val (.int n), .val (.int (15 : Int32)), .val (.ref (A 15)), .unset, .unset]) (S' := [.int (12 : Int32), .int (15 : Int32)]) (pc' := 16) rfl ?_
    refine Goes.if2 X (pc' := 29) (o := 13) (cd := .lt) (fun q => absurd q (by decide)) (fun _ => ?_)
    refine Goes.runS X [(.iload_n 1, 1), (.bipush 15, 2)] (S' := [.int (15 : Int32), .int (15 : Int32)]) (pc' := 22) rfl ?_
    refine Goes.if2 X (pc' := 29) (o := 7) (cd := .gt) (fun q => absurd q (by decide)) (fun _ => ?_)
    refine Goes.runS X [(.iconst 1, 1)] (S' := [.int (1 : Int32)]) (pc' := 26) rfl ?_
    refine Goes.goto X (o := 4) (pc' := 30) ?_
    refine Goes.run X [(.istore_n 3, 1), (.aload_n 2, 1)] (L' := #[.val (.int n), .val (.int (15 : Int32)), .val (.ref (A 15)), .val (.int (1 : Int32)), .unset]) (S' := [.ref (A 15)]) (pc' := 32) rfl ?_
    refine Goes.callVo X 0 [] [] (hE 15 (by decide)) (D_isb l Z a0 h0 hw (A 15) (A 12) (A 13) (A 14) (A 15) (hS 12 (by decide)) (hS 13 (by decide)) (hS 14 (by decide)) (hS 15 (by decide))) (wd hw 8 rfl) (wd hw 9 rfl) (wd hw 11 rfl) (wd hw 10 rfl) (own_nf X (wd hw 11 rfl)) (wd hw 6 rfl) (wd hw 12 rfl) pd_y_1 rfl (st := []) rfl rfl (G := []) rfl rfl ?_
    rintro _ _ ⟨rfl, rfl⟩
    rw [if_pos (by simp)]
    show Goes _ _ _ _ _ _ _ _ _ _ _ _ _ _ _ _ _ _ [] 0 0 (mkF m 35 #[.val (.int n), .val (.int (15 : Int32)), .val (.ref (A 15)), .val (.int (1 : Int32)), .unset] [.int (1 : Int32)])
    refine Goes.run X [(.istore 4, 2), (.iload 4, 2), (.iload_n 3, 1)] (L' := #[.val (.int n), .val (.int (15 : Int32)), .val (.ref (A 15)), .val (.int (1 : Int32)), .val (.int (1 : Int32))]) (S' := [.int (1 : Int32), .int (1 : Int32)]) (pc' := 40) rfl ?_
    refine Goes.if2 X (pc' := 45) (o := 5) (cd := .eq) (fun _ => ?_) (fun q => absurd q (by decide))
    refine Goes.runS X [(.iload_n 3, 1)] (S' := [.int (1 : Int32)]) (pc' := 46) rfl ?_
    refine Goes.if1 X (pc' := 61) (o := 15) (cd := .eq) (fun q => absurd q (by decide)) (fun _ => ?_)
    refine Goes.runS X [(.aload_n 2, 1)] (S' := [.ref (A 15)]) (pc' := 50) rfl ?_
    refine Goes.callVo X 0 [] [] (hE 15 (by decide)) (D_fam l Z a0 h0 hw (A 15) B (hF 15 (by decide) (by decide))) (wd hw 24 rfl) (wd hw 25 rfl) (wd hw 27 rfl) (wd hw 26 rfl) (own_nf X (wd hw 27 rfl)) (wd hw 6 rfl) (wd hw 28 rfl) pd_y_2 rfl (st := []) rfl rfl (G := []) rfl rfl ?_
    rintro _ _ ⟨rfl, rfl⟩
    refine Goes.getS X (wd hw 33 rfl) Via.refl hB ?_
    refine Goes.ifA X rfl rfl (pc' := 61) (o := 5) (cd := .eq) (fun _ => ?_) (fun q => absurd q (by simp [acV]))
    show Goes _ _ _ _ _ _ _ _ _ _ _ _ _ _ _ _ _ _ [] 0 0 (mkF m 61 #[.val (.int n), .val (.int (15 : Int32)), .val (.ref (A 15)), .val (.int (1 : Int32)), .val (.int (1 : Int32))] [])
    refine Goes.runS X [(.iconst 1, 1)] (S' := [.int (1 : Int32)]) (pc' := 62) rfl ?_
    refine Goes.retI X (by simp) rfl ?_
    exact ⟨rfl, rfl⟩
  · refine Goes.runS X [(.iload_n 0, 1)] (S' := [.int n]) (pc' := 1) rfl ?_
    refine Goes.ldcI X (wd hw 0 rfl) ?_
    refine Goes.run X [(.iand, 1), (.bipush 19, 2), (.irem, 1), (.istore_n 1, 1)] (L' := #[.val (.int n), .val (.int ((n &&& (2147483647 : Int32)) % (19 : Int32))), .unset, .unset, .unset]) (S' := []) (pc' := 8) rfl ?_
    rw [e16]
    show Goes _ _ _ _ _ _ _ _ _ _ _ _ _ _ _ _ _ _ [] 0 0 (mkF m 8 #[.val (.int n), .val (.int (16 : Int32)), .unset, .unset, .unset] [])
    refine Goes.runS X [(.iload_n 1, 1)] (S' := [.int (16 : Int32)]) (pc' := 9) rfl ?_
    refine Goes.callS X 0 [] [] (D_pick l Z a0 h0 hw A hS 16) (wd hw 1 rfl) (wd hw 2 rfl) (wd hw 3 rfl) (wd hw 4 rfl) pd_y_0 rfl (st := []) rfl rfl (G := []) rfl rfl ?_
    rintro _ _ ⟨rfl, rfl⟩
    show Goes _ _ _ _ _ _ _ _ _ _ _ _ _ _ _ _ _ _ [] 0 0 (mkF m 12 #[.val (.int n), .val (.int (16 : Int32)), .unset, .unset, .unset] [.ref (A 16)])
    refine Goes.run X [(.astore_n 2, 1), (.iload_n 1, 1), (.bipush 12, 2)] (L' := #[.val (.int n), .val (.int (16 : Int32)), .val (.ref (A 16)), .unset, .unset]) (S' := [.int (12 : Int32), .int (16 : Int32)]) (pc' := 16) rfl ?_
    refine Goes.if2 X (pc' := 29) (o := 13) (cd := .lt) (fun q => absurd q (by decide)) (fun _ => ?_)
    refine Goes.runS X [(.iload_n 1, 1), (.bipush 15, 2)] (S' := [.int (15 : Int32), .int (16 : Int32)]) (pc' := 22) rfl ?_
    refine Goes.if2 X (pc' := 29) (o := 7) (cd := .gt) (fun _ => ?_) (fun q => absurd q (by decide))
    refine Goes.run X [(.iconst 0, 1), (.istore_n 3, 1), (.aload_n 2, 1)] (L' := #[.val (.int n), .val (.int (16 : Int32)), .val (.ref (A 16)), .val (.int (0 : Int32)), .unset]) (S' := [.ref (A 16)]) (pc' := 32) rfl ?_
    refine Goes.callVo X 0 [] [] (hE 16 (by decide)) (D_isb l Z a0 h0 hw (A 16) (A 12) (A 13) (A 14) (A 15) (hS 12 (by decide)) (hS 13 (by decide)) (hS 14 (by decide)) (hS 15 (by decide))) (wd hw 8 rfl) (wd hw 9 rfl) (wd hw 11 rfl) (wd hw 10 rfl) (own_nf X (wd hw 11 rfl)) (wd hw 6 rfl) (wd hw 12 rfl) pd_y_1 rfl (st := []) rfl rfl (G := []) rfl rfl ?_
    rintro _ _ ⟨rfl, rfl⟩
    rw [if_neg (by simp [hI 16 12 (by decide) (by decide) (by decide), hI 16 13 (by decide) (by decide) (by decide), hI 16 14 (by decide) (by decide) (by decide), hI 16 15 (by decide) (by decide) (by decide)])]
    show Goes _ _ _ _ _ _ _ _ _ _ _ _ _ _ _ _ _ _ [] 0 0 (mkF m 35 #[.val (.int n), .val (.int (16 : Int32)), .val (.ref (A 16)), .val (.int (0 : Int32)), .unset] [.int (0 : Int32)])
    refine Goes.run X [(.istore 4, 2), (.iload 4, 2), (.iload_n 3, 1)] (L' := #[.val (.int n), .val (.int (16 : Int32)), .val (.ref (A 16)), .val (.int (0 : Int32)), .val (.int (0 : Int32))]) (S' := [.int (0 : Int32), .int (0 : Int32)]) (pc' := 40) rfl ?_
    refine Goes.if2 X (pc' := 45) (o := 5) (cd := .eq) (fun _ => ?_) (fun q => absurd q (by decide))
    refine Goes.runS X [(.iload_n 3, 1)] (S' := [.int (0 : Int32)]) (pc' := 46) rfl ?_
    refine Goes.if1 X (pc' := 61) (o := 15) (cd := .eq) (fun _ => ?_) (fun q => absurd q (by decide))
    refine Goes.runS X [(.iconst 1, 1)] (S' := [.int (1 : Int32)]) (pc' := 62) rfl ?_
    refine Goes.retI X (by simp) rfl ?_
    exact ⟨rfl, rfl⟩
  · refine Goes.runS X [(.iload_n 0, 1)] (S' := [.int n]) (pc' := 1) rfl ?_
    refine Goes.ldcI X (wd hw 0 rfl) ?_
    refine Goes.run X [(.iand, 1), (.bipush 19, 2), (.irem, 1), (.istore_n 1, 1)] (L' := #[.val (.int n), .val (.int ((n &&& (2147483647 : Int32)) % (19 : Int32))), .unset, .unset, .unset]) (S' := []) (pc' := 8) rfl ?_
    rw [e17]
    show Goes _ _ _ _ _ _ _ _ _ _ _ _ _ _ _ _ _ _ [] 0 0 (mkF m 8 #[.val (.int n), .val (.int (17 : Int32)), .unset, .unset, .unset] [])
    refine Goes.runS X [(.iload_n 1, 1)] (S' := [.int (17 : Int32)]) (pc' := 9) rfl ?_
    refine Goes.callS X 0 [] [] (D_pick l Z a0 h0 hw A hS 17) (wd hw 1 rfl) (wd hw 2 rfl) (wd hw 3 rfl) (wd hw 4 rfl) pd_y_0 rfl (st := []) rfl rfl (G := []) rfl rfl ?_
    rintro _ _ ⟨rfl, rfl⟩
    show Goes _ _ _ _ _ _ _ _ _ _ _ _ _ _ _ _ _ _ [] 0 0 (mkF m 12 #[.val (.int n), .val (.int (17 : Int32)), .unset, .unset, .unset] [.ref (A 17)])
    refine Goes.run X [(.astore_n 2, 1), (.iload_n 1, 1), (.bipush 12, 2)] (L' := #[.val (.int n), .val (.int (17 : Int32)), .val (.ref (A 17)), .unset, .unset]) (S' := [.int (12 : Int32), .int (17 : Int32)]) (pc' := 16) rfl ?_
    refine Goes.if2 X (pc' := 29) (o := 13) (cd := .lt) (fun q => absurd q (by decide)) (fun _ => ?_)
    refine Goes.runS X [(.iload_n 1, 1), (.bipush 15, 2)] (S' := [.int (15 : Int32), .int (17 : Int32)]) (pc' := 22) rfl ?_
    refine Goes.if2 X (pc' := 29) (o := 7) (cd := .gt) (fun _ => ?_) (fun q => absurd q (by decide))
    refine Goes.run X [(.iconst 0, 1), (.istore_n 3, 1), (.aload_n 2, 1)] (L' := #[.val (.int n), .val (.int (17 : Int32)), .val (.ref (A 17)), .val (.int (0 : Int32)), .unset]) (S' := [.ref (A 17)]) (pc' := 32) rfl ?_
    refine Goes.callVo X 0 [] [] (hE 17 (by decide)) (D_isb l Z a0 h0 hw (A 17) (A 12) (A 13) (A 14) (A 15) (hS 12 (by decide)) (hS 13 (by decide)) (hS 14 (by decide)) (hS 15 (by decide))) (wd hw 8 rfl) (wd hw 9 rfl) (wd hw 11 rfl) (wd hw 10 rfl) (own_nf X (wd hw 11 rfl)) (wd hw 6 rfl) (wd hw 12 rfl) pd_y_1 rfl (st := []) rfl rfl (G := []) rfl rfl ?_
    rintro _ _ ⟨rfl, rfl⟩
    rw [if_neg (by simp [hI 17 12 (by decide) (by decide) (by decide), hI 17 13 (by decide) (by decide) (by decide), hI 17 14 (by decide) (by decide) (by decide), hI 17 15 (by decide) (by decide) (by decide)])]
    show Goes _ _ _ _ _ _ _ _ _ _ _ _ _ _ _ _ _ _ [] 0 0 (mkF m 35 #[.val (.int n), .val (.int (17 : Int32)), .val (.ref (A 17)), .val (.int (0 : Int32)), .unset] [.int (0 : Int32)])
    refine Goes.run X [(.istore 4, 2), (.iload 4, 2), (.iload_n 3, 1)] (L' := #[.val (.int n), .val (.int (17 : Int32)), .val (.ref (A 17)), .val (.int (0 : Int32)), .val (.int (0 : Int32))]) (S' := [.int (0 : Int32), .int (0 : Int32)]) (pc' := 40) rfl ?_
    refine Goes.if2 X (pc' := 45) (o := 5) (cd := .eq) (fun _ => ?_) (fun q => absurd q (by decide))
    refine Goes.runS X [(.iload_n 3, 1)] (S' := [.int (0 : Int32)]) (pc' := 46) rfl ?_
    refine Goes.if1 X (pc' := 61) (o := 15) (cd := .eq) (fun _ => ?_) (fun q => absurd q (by decide))
    refine Goes.runS X [(.iconst 1, 1)] (S' := [.int (1 : Int32)]) (pc' := 62) rfl ?_
    refine Goes.retI X (by simp) rfl ?_
    exact ⟨rfl, rfl⟩
  · refine Goes.runS X [(.iload_n 0, 1)] (S' := [.int n]) (pc' := 1) rfl ?_
    refine Goes.ldcI X (wd hw 0 rfl) ?_
    refine Goes.run X [(.iand, 1), (.bipush 19, 2), (.irem, 1), (.istore_n 1, 1)] (L' := #[.val (.int n), .val (.int ((n &&& (2147483647 : Int32)) % (19 : Int32))), .unset, .unset, .unset]) (S' := []) (pc' := 8) rfl ?_
    rw [e18]
    show Goes _ _ _ _ _ _ _ _ _ _ _ _ _ _ _ _ _ _ [] 0 0 (mkF m 8 #[.val (.int n), .val (.int (18 : Int32)), .unset, .unset, .unset] [])
    refine Goes.runS X [(.iload_n 1, 1)] (S' := [.int (18 : Int32)]) (pc' := 9) rfl ?_
    refine Goes.callS X 0 [] [] (D_pick l Z a0 h0 hw A hS 18) (wd hw 1 rfl) (wd hw 2 rfl) (wd hw 3 rfl) (wd hw 4 rfl) pd_y_0 rfl (st := []) rfl rfl (G := []) rfl rfl ?_
    rintro _ _ ⟨rfl, rfl⟩
    show Goes _ _ _ _ _ _ _ _ _ _ _ _ _ _ _ _ _ _ [] 0 0 (mkF m 12 #[.val (.int n), .val (.int (18 : Int32)), .unset, .unset, .unset] [.ref (A 18)])
    refine Goes.run X [(.astore_n 2, 1), (.iload_n 1, 1), (.bipush 12, 2)] (L' := #[.val (.int n), .val (.int (18 : Int32)), .val (.ref (A 18)), .unset, .unset]) (S' := [.int (12 : Int32), .int (18 : Int32)]) (pc' := 16) rfl ?_
    refine Goes.if2 X (pc' := 29) (o := 13) (cd := .lt) (fun q => absurd q (by decide)) (fun _ => ?_)
    refine Goes.runS X [(.iload_n 1, 1), (.bipush 15, 2)] (S' := [.int (15 : Int32), .int (18 : Int32)]) (pc' := 22) rfl ?_
    refine Goes.if2 X (pc' := 29) (o := 7) (cd := .gt) (fun _ => ?_) (fun q => absurd q (by decide))
    refine Goes.run X [(.iconst 0, 1), (.istore_n 3, 1), (.aload_n 2, 1)] (L' := #[.val (.int n), .val (.int (18 : Int32)), .val (.ref (A 18)), .val (.int (0 : Int32)), .unset]) (S' := [.ref (A 18)]) (pc' := 32) rfl ?_
    refine Goes.callVo X 0 [] [] (hE 18 (by decide)) (D_isb l Z a0 h0 hw (A 18) (A 12) (A 13) (A 14) (A 15) (hS 12 (by decide)) (hS 13 (by decide)) (hS 14 (by decide)) (hS 15 (by decide))) (wd hw 8 rfl) (wd hw 9 rfl) (wd hw 11 rfl) (wd hw 10 rfl) (own_nf X (wd hw 11 rfl)) (wd hw 6 rfl) (wd hw 12 rfl) pd_y_1 rfl (st := []) rfl rfl (G := []) rfl rfl ?_
    rintro _ _ ⟨rfl, rfl⟩
    rw [if_neg (by simp [hI 18 12 (by decide) (by decide) (by decide), hI 18 13 (by decide) (by decide) (by decide), hI 18 14 (by decide) (by decide) (by decide), hI 18 15 (by decide) (by decide) (by decide)])]
    show Goes _ _ _ _ _ _ _ _ _ _ _ _ _ _ _ _ _ _ [] 0 0 (mkF m 35 #[.val (.int n), .val (.int (18 : Int32)), .val (.ref (A 18)), .val (.int (0 : Int32)), .unset] [.int (0 : Int32)])
    refine Goes.run X [(.istore 4, 2), (.iload 4, 2), (.iload_n 3, 1)] (L' := #[.val (.int n), .val (.int (18 : Int32)), .val (.ref (A 18)), .val (.int (0 : Int32)), .val (.int (0 : Int32))]) (S' := [.int (0 : Int32), .int (0 : Int32)]) (pc' := 40) rfl ?_
    refine Goes.if2 X (pc' := 45) (o := 5) (cd := .eq) (fun _ => ?_) (fun q => absurd q (by decide))
    refine Goes.runS X [(.iload_n 3, 1)] (S' := [.int (0 : Int32)]) (pc' := 46) rfl ?_
    refine Goes.if1 X (pc' := 61) (o := 15) (cd := .eq) (fun _ => ?_) (fun q => absurd q (by decide))
    refine Goes.runS X [(.iconst 1, 1)] (S' := [.int (1 : Int32)]) (pc' := 62) rfl ?_
    refine Goes.retI X (by simp) rfl ?_
    exact ⟨rfl, rfl⟩
set_option maxRecDepth 65536 in
set_option maxHeartbeats 40000000 in
theorem comes_1 {Post : Tables → Env → Array Value → State → Outcome → State → Prop} (hpost : ∀ tb e args s v u, (limb_1_1.after args s (.returned v) u = true ∧ limb_1_2.after args s (.returned v) u = true ∧ True) → FrameEnd s (.returned v) u (Jvm.fieldLocs frame_1_writes args s ++ Jvm.arrayLocs frame_1_arrays args s ++ Jvm.staticLocs frame_1_statics s) 0 0 → Post tb e args s (.returned v) u) :
    ArmFor flags0 classFile x code maxLocals ret World_1 tables_1 room_1 Calls_1 rest_1 Pre_1 Post := by
  intro l hfl _ _ p e ha hc hk s m args below hf hA hF happ hP
  obtain ⟨hcalls, hrest, hpre⟩ := hP
  obtain ⟨-, -, -, hnamed, -, -, -, hat⟩ := (Spec.applies_iff hf).mp happ
  obtain ⟨hg, hn⟩ := and_e (Cond.before_iff.mp (show (Jvm.Cond.and given_1 narrow_1).before args s = true from hpre))
  obtain ⟨h1, h2⟩ := and_e hg
  obtain ⟨w0, rfl⟩ : ∃ w0 : Value, args = #[w0] := by
    have hs : args.size = 1 := by simpa [Cond.value, given_1] using h1
    obtain ⟨L⟩ := args
    match L, hs with
    | [w0], _ => exact ⟨w0, rfl⟩
  have hw := fun d (hd : d ∈ tables_1) => atoms_spec (ws := Jvm.Cond.code x code maxLocals ret :: tables_1) hat d (List.mem_cons_of_mem _ hd)
  obtain ⟨i4, e3⟩ := is_v h2
  obtain rfl : w0 = (.int i4) := Option.some.inj e3
  unfold narrow_1 at hn
  obtain ⟨c0, hn⟩ := and_e hn
  obtain ⟨c1, hn⟩ := and_e hn
  obtain ⟨c2, hn⟩ := and_e hn
  obtain ⟨c3, hn⟩ := and_e hn
  obtain ⟨c4, hn⟩ := and_e hn
  obtain ⟨c5, hn⟩ := and_e hn
  obtain ⟨c6, hn⟩ := and_e hn
  obtain ⟨c7, hn⟩ := and_e hn
  obtain ⟨c8, hn⟩ := and_e hn
  obtain ⟨c9, hn⟩ := and_e hn
  obtain ⟨c10, hn⟩ := and_e hn
  obtain ⟨c11, hn⟩ := and_e hn
  obtain ⟨c12, hn⟩ := and_e hn
  obtain ⟨c13, hn⟩ := and_e hn
  obtain ⟨c14, hn⟩ := and_e hn
  obtain ⟨c15, hn⟩ := and_e hn
  obtain ⟨c16, hn⟩ := and_e hn
  obtain ⟨c17, hn⟩ := and_e hn
  obtain ⟨c18, hn⟩ := and_e hn
  obtain ⟨c19, hn⟩ := and_e hn
  obtain ⟨c20, hn⟩ := and_e hn
  obtain ⟨c21, hn⟩ := and_e hn
  obtain ⟨c22, hn⟩ := and_e hn
  obtain ⟨c23, hn⟩ := and_e hn
  obtain ⟨c24, hn⟩ := and_e hn
  obtain ⟨c25, hn⟩ := and_e hn
  obtain ⟨c26, hn⟩ := and_e hn
  obtain ⟨c27, hn⟩ := and_e hn
  obtain ⟨c28, hn⟩ := and_e hn
  obtain ⟨c29, hn⟩ := and_e hn
  obtain ⟨c30, hn⟩ := and_e hn
  obtain ⟨c31, hn⟩ := and_e hn
  obtain ⟨c32, hn⟩ := and_e hn
  obtain ⟨c33, hn⟩ := and_e hn
  obtain ⟨c34, hn⟩ := and_e hn
  obtain ⟨c35, hn⟩ := and_e hn
  obtain ⟨c36, hn⟩ := and_e hn
  obtain ⟨c37, hn⟩ := and_e hn
  obtain ⟨c38, hn⟩ := and_e hn
  obtain ⟨c39, hn⟩ := and_e hn
  obtain ⟨c40, hn⟩ := and_e hn
  obtain ⟨c41, hn⟩ := and_e hn
  obtain ⟨c42, hn⟩ := and_e hn
  obtain ⟨c43, hn⟩ := and_e hn
  obtain ⟨c44, hn⟩ := and_e hn
  obtain ⟨c45, hn⟩ := and_e hn
  obtain ⟨c46, hn⟩ := and_e hn
  obtain ⟨c47, hn⟩ := and_e hn
  obtain ⟨c48, hn⟩ := and_e hn
  obtain ⟨c49, hn⟩ := and_e hn
  obtain ⟨c50, hn⟩ := and_e hn
  obtain ⟨c51, hn⟩ := and_e hn
  obtain ⟨c52, hn⟩ := and_e hn
  obtain ⟨c53, hn⟩ := and_e hn
  obtain ⟨c54, hn⟩ := and_e hn
  obtain ⟨c55, hn⟩ := and_e hn
  obtain ⟨c56, hn⟩ := and_e hn
  obtain ⟨c57, hn⟩ := and_e hn
  obtain ⟨c58, hn⟩ := and_e hn
  obtain ⟨c59, hn⟩ := and_e hn
  obtain ⟨c60, hn⟩ := and_e hn
  obtain ⟨c61, hn⟩ := and_e hn
  obtain ⟨c62, hn⟩ := and_e hn
  obtain ⟨c63, hn⟩ := and_e hn
  have c64 := hn
  obtain ⟨a0, ev0⟩ := exa_v c0
  have E0 := Exa.start ev0 c0
  have S0 := Sta.start ev0 (Or.inr ⟨(wd hw 6 rfl), (wd hw 7 rfl)⟩)
  have O0 := own_fld ev0 (Term.int_eval 0) c2
  obtain ⟨a1, ev1⟩ := exa_v c28
  have E1 := Exa.start ev1 c28
  have S1 := Sta.start ev1 (Or.inr ⟨(wd hw 6 rfl), (wd hw 49 rfl)⟩)
  have O1 := own_fld ev1 (Term.int_eval 1) c29
  obtain ⟨a2, ev2⟩ := exa_v c20
  have E2 := Exa.start ev2 c20
  have S2 := Sta.start ev2 (Or.inr ⟨(wd hw 6 rfl), (wd hw 41 rfl)⟩)
  have O2 := own_fld ev2 (Term.int_eval 2) c21
  obtain ⟨a3, ev3⟩ := exa_v c10
  have E3 := Exa.start ev3 c10
  have S3 := Sta.start ev3 (Or.inr ⟨(wd hw 6 rfl), (wd hw 22 rfl)⟩)
  have O3 := own_fld ev3 (Term.int_eval 3) c11
  obtain ⟨a4, ev4⟩ := exa_v c37
  have E4 := Exa.start ev4 c37
  have S4 := Sta.start ev4 (Or.inr ⟨(wd hw 6 rfl), (wd hw 58 rfl)⟩)
  have O4 := own_fld ev4 (Term.int_eval 4) c38
  obtain ⟨a5, ev5⟩ := exa_v c14
  have E5 := Exa.start ev5 c14
  have S5 := Sta.start ev5 (Or.inr ⟨(wd hw 6 rfl), (wd hw 35 rfl)⟩)
  have O5 := own_fld ev5 (Term.int_eval 5) c15
  obtain ⟨a6, ev6⟩ := exa_v c33
  have E6 := Exa.start ev6 c33
  have S6 := Sta.start ev6 (Or.inr ⟨(wd hw 6 rfl), (wd hw 54 rfl)⟩)
  have O6 := own_fld ev6 (Term.int_eval 6) c34
  obtain ⟨a7, ev7⟩ := exa_v c18
  have E7 := Exa.start ev7 c18
  have S7 := Sta.start ev7 (Or.inr ⟨(wd hw 6 rfl), (wd hw 39 rfl)⟩)
  have O7 := own_fld ev7 (Term.int_eval 7) c19
  obtain ⟨a8, ev8⟩ := exa_v c26
  have E8 := Exa.start ev8 c26
  have S8 := Sta.start ev8 (Or.inr ⟨(wd hw 6 rfl), (wd hw 47 rfl)⟩)
  have O8 := own_fld ev8 (Term.int_eval 8) c27
  obtain ⟨a9, ev9⟩ := exa_v c39
  have E9 := Exa.start ev9 c39
  have S9 := Sta.start ev9 (Or.inr ⟨(wd hw 6 rfl), (wd hw 60 rfl)⟩)
  have O9 := own_fld ev9 (Term.int_eval 9) c40
  obtain ⟨a10, ev10⟩ := exa_v c24
  have E10 := Exa.start ev10 c24
  have S10 := Sta.start ev10 (Or.inr ⟨(wd hw 6 rfl), (wd hw 45 rfl)⟩)
  have O10 := own_fld ev10 (Term.int_eval 10) c25
  obtain ⟨a11, ev11⟩ := exa_v c22
  have E11 := Exa.start ev11 c22
  have S11 := Sta.start ev11 (Or.inr ⟨(wd hw 6 rfl), (wd hw 43 rfl)⟩)
  have O11 := own_fld ev11 (Term.int_eval 11) c23
  obtain ⟨a12, ev12⟩ := exa_v c1
  have E12 := Exa.start ev12 c1
  have S12 := Sta.start ev12 (Or.inr ⟨(wd hw 6 rfl), (wd hw 14 rfl)⟩)
  have O12 := own_fld ev12 (Term.int_eval 12) c3
  obtain ⟨a13, ev13⟩ := exa_v c4
  have E13 := Exa.start ev13 c4
  have S13 := Sta.start ev13 (Or.inr ⟨(wd hw 6 rfl), (wd hw 16 rfl)⟩)
  have O13 := own_fld ev13 (Term.int_eval 13) c5
  obtain ⟨a14, ev14⟩ := exa_v c6
  have E14 := Exa.start ev14 c6
  have S14 := Sta.start ev14 (Or.inr ⟨(wd hw 6 rfl), (wd hw 18 rfl)⟩)
  have O14 := own_fld ev14 (Term.int_eval 14) c7
  obtain ⟨a15, ev15⟩ := exa_v c8
  have E15 := Exa.start ev15 c8
  have S15 := Sta.start ev15 (Or.inr ⟨(wd hw 6 rfl), (wd hw 20 rfl)⟩)
  have O15 := own_fld ev15 (Term.int_eval 15) c9
  obtain ⟨a16, ev16⟩ := exa_v c35
  have E16 := Exa.start ev16 c35
  have S16 := Sta.start ev16 (Or.inr ⟨(wd hw 6 rfl), (wd hw 56 rfl)⟩)
  have O16 := own_fld ev16 (Term.int_eval 16) c36
  obtain ⟨a17, ev17⟩ := exa_v c16
  have E17 := Exa.start ev17 c16
  have S17 := Sta.start ev17 (Or.inr ⟨(wd hw 6 rfl), (wd hw 37 rfl)⟩)
  have O17 := own_fld ev17 (Term.int_eval 17) c17
  obtain ⟨a18, ev18⟩ := exa_v c31
  have E18 := Exa.start ev18 c31
  have S18 := Sta.start ev18 (Or.inr ⟨(wd hw 6 rfl), (wd hw 52 rfl)⟩)
  have O18 := own_fld ev18 (Term.int_eval 18) c32
  obtain ⟨b, evb⟩ := exa_v c12
  have SB := Sta.start evb (Or.inr ⟨(wd hw 31 rfl), (wd hw 32 rfl)⟩)
  have M12 := own_fld ev12 evb c41
  have M13 := own_fld ev13 evb c42
  have M14 := own_fld ev14 evb c30
  have M15 := own_fld ev15 evb c13
  obtain ⟨A, hAd⟩ : ∃ A : Nat → Addr, A = fun i => ([a0, a1, a2, a3, a4, a5, a6, a7, a8, a9, a10, a11, a12, a13, a14, a15, a16, a17, a18] : List Addr).getD i 0 := ⟨_, rfl⟩
  have hS : ∀ i, i < 19 → Sta s s.heap CT (own_nm i) DT (.ref (A i)) := by
    subst hAd; intro i hi
    match i, hi with
    | 0, _ => exact S0
    | 1, _ => exact S1
    | 2, _ => exact S2
    | 3, _ => exact S3
    | 4, _ => exact S4
    | 5, _ => exact S5
    | 6, _ => exact S6
    | 7, _ => exact S7
    | 8, _ => exact S8
    | 9, _ => exact S9
    | 10, _ => exact S10
    | 11, _ => exact S11
    | 12, _ => exact S12
    | 13, _ => exact S13
    | 14, _ => exact S14
    | 15, _ => exact S15
    | 16, _ => exact S16
    | 17, _ => exact S17
    | 18, _ => exact S18
    | n + 19, q => exact absurd q (by omega)
  have hE : ∀ i, i < 19 → Exa s s.heap (A i) CT := by
    subst hAd; intro i hi
    match i, hi with
    | 0, _ => exact E0
    | 1, _ => exact E1
    | 2, _ => exact E2
    | 3, _ => exact E3
    | 4, _ => exact E4
    | 5, _ => exact E5
    | 6, _ => exact E6
    | 7, _ => exact E7
    | 8, _ => exact E8
    | 9, _ => exact E9
    | 10, _ => exact E10
    | 11, _ => exact E11
    | 12, _ => exact E12
    | 13, _ => exact E13
    | 14, _ => exact E14
    | 15, _ => exact E15
    | 16, _ => exact E16
    | 17, _ => exact E17
    | 18, _ => exact E18
    | n + 19, q => exact absurd q (by omega)
  have hO : ∀ i, i < 19 → Fld s s.heap (A i) "java/lang/Enum" "ordinal" "I" (.int (Int32.ofNat i)) := by
    subst hAd; intro i hi
    match i, hi with
    | 0, _ => exact O0
    | 1, _ => exact O1
    | 2, _ => exact O2
    | 3, _ => exact O3
    | 4, _ => exact O4
    | 5, _ => exact O5
    | 6, _ => exact O6
    | 7, _ => exact O7
    | 8, _ => exact O8
    | 9, _ => exact O9
    | 10, _ => exact O10
    | 11, _ => exact O11
    | 12, _ => exact O12
    | 13, _ => exact O13
    | 14, _ => exact O14
    | 15, _ => exact O15
    | 16, _ => exact O16
    | 17, _ => exact O17
    | 18, _ => exact O18
    | n + 19, q => exact absurd q (by omega)
  have hFm : ∀ i, 12 ≤ i → i < 16 → Fld s s.heap (A i) CT "family" "Lcom/example/gapkeeper/gapkeeper/sql/ColumnType$Family;" (.ref b) := by
    subst hAd; intro i hl hi
    match i, hl, hi with
    | 12, _, _ => exact M12
    | 13, _, _ => exact M13
    | 14, _, _ => exact M14
    | 15, _, _ => exact M15
    | 0, q, _ => exact absurd q (by decide)
    | 1, q, _ => exact absurd q (by decide)
    | 2, q, _ => exact absurd q (by decide)
    | 3, q, _ => exact absurd q (by decide)
    | 4, q, _ => exact absurd q (by decide)
    | 5, q, _ => exact absurd q (by decide)
    | 6, q, _ => exact absurd q (by decide)
    | 7, q, _ => exact absurd q (by decide)
    | 8, q, _ => exact absurd q (by decide)
    | 9, q, _ => exact absurd q (by decide)
    | 10, q, _ => exact absurd q (by decide)
    | 11, q, _ => exact absurd q (by decide)
    | n + 16, _, q => exact absurd q (by omega)
  have hI : ∀ i j, i < 19 → j < 19 → i ≠ j → A i ≠ A j := fun i j hi hj q => (hO i hi).ne (hO j hj) fun e => by
    have e1 : (Int32.ofNat i).toInt = (Int32.ofNat j).toInt := congrArg Int32.toInt (Value.int.inj e)
    rw [Int32.toInt_ofNat_of_lt (by omega), Int32.toInt_ofNat_of_lt (by omega)] at e1
    omega
  have D := D_law l s _ s.heap hw A b hS hE hI hFm SB i4
  obtain ⟨n, o, g1, g2, g3, v, L, rfl, ⟨N, F', ⟨rfl, -⟩, -⟩, hq⟩ := D tables_1 s.heap (Hp.start s _) p e ha hc hk s m _ below hf ((Spec.applies_iff_loose hf).mp happ).1 ⟨rfl, State.Warmed39.refl s, rfl⟩ trivial
  exact ⟨n, _, g1, g2, g3, hpost _ _ _ _ _ _ ⟨Cond.after_iff.mpr rfl, Cond.after_iff.mpr (eq_i res_at (Term.int_eval (1)) rfl), trivial⟩ ⟨hq.1, hq.2.1, (hq.2.2.sift fun y hy => Or.inr (N y hy)).mono (by decide) (by decide)⟩⟩
theorem main_1_1 : Claimed_1_1 := comes_1 fun _ _ _ _ _ _ h hF => ⟨h.1, hF⟩
theorem main_1_2 : Claimed_1_2 := comes_1 fun _ _ _ _ _ _ h hF => ⟨h.2.1, hF⟩
end Jvm.Pilot.@@N@@
namespace Jvm.Pilot.@@N@@
open Jvm Jvm.ClassFile Sem Op Lib Jvm.Free Jvm.Stand Jvm.Pilot.@@N@@.Jvm.D
/-! MADE BY PROGRAM (witnessworld.py) out of the Statement's table words and the real class files: 13 classes; the members and pool entries that the words name. The judged class is class 1, her method 2. -/
namespace start1
open Jvm.ClassFile
def u (s : String) : CpInfo := .utf8 (stringToUtf16 s)
/-- a pool by its gaps: so many unusable entries, then the entry; so many at the end -/
def gap : Nat → List CpInfo → List CpInfo
  | 0, r => r
  | n + 1, r => .unusable :: gap n r
def poolList (es : List (Nat × CpInfo)) (last : Nat) : List CpInfo := es.foldr (fun e r => gap e.1 (e.2 :: r)) (gap last [])
def pool (es : List (Nat × CpInfo)) (last : Nat) : Array CpInfo := ⟨poolList es last⟩
def fileOf (pool : Array CpInfo) (this : Nat) (attrs : Array Attribute := #[]) (ms : Array MethodInfo := #[]) (fl : Nat := 33) (sup : Nat := 0) (ifs : Array Nat := #[]) (fds : Array FieldInfo := #[]) : ClassFile where
  minorVersion := 0
  majorVersion := 65
  constantPool := pool
  accessFlags := fl
  thisClass := this
  superClass := sup
  interfaces := ifs
  fields := fds
  methods := ms
  attributes := attrs
def plain (name : String) (sup : Option ClassId) : Class where
  name := name
  kind := .ordinary
  loader := none
  accessFlags := 33
  super := sup
  interfaces := #[]
  cf := none
  fields := #[]
  methods := #[]
  instanceTypes := #[]
  staticTypes := #[]
  resolved := #[]
  callSites := []
  init := .initialized
  statics := none
  mirror := none

def pool0 : Array CpInfo := pool [(5, u "<init>"), (0, u "()V"), (1, .class_ 10), (1, u "java/lang/Object")] 113

def k0m0 : Method := { name := "<init>", desc := "()V", sig := { parameters := [], returnType := none }, accessFlags := 1, code := none }
/-- java/lang/Object -/
def k0 : Class := { plain "java/lang/Object" none with
  accessFlags := 33
  interfaces := #[]
  cf := some (fileOf pool0 8 #[] #[{ accessFlags := 1, nameIndex := 5, descriptorIndex := 6, attributes := #[] }] 33 0 #[] #[])
  fields := #[]
  methods := #[k0m0]
  instanceTypes := #[]
  staticTypes := #[]
  resolved := Array.replicate 124 none
  statics := none }

def pool1 : Array CpInfo := pool [(2, .class_ 4), (1, u "java/lang/Object"), (0, u "<init>"), (0, u "()V"), (0, .fieldref 8 9), (0, .class_ 10), (0, .nameAndType 11 12), (0, u "com/example/gapkeeper/gapkeeper/sql/ColumnType"), (0, u "TINYINT"), (0, u "Lcom/example/gapkeeper/gapkeeper/sql/ColumnType;"), (0, .fieldref 8 14), (0, .nameAndType 15 12), (0, u "SMALLINT"), (0, .fieldref 8 17), (0, .nameAndType 18 12), (0, u "MEDIUMINT"), (0, .fieldref 8 20), (0, .nameAndType 21 12), (0, u "INT"), (0, .fieldref 8 23), (0, .nameAndType 24 12), (0, u "BIGINT"), (0, .fieldref 8 26), (0, .nameAndType 27 12), (0, u "DECIMAL"), (0, .fieldref 8 29), (0, .nameAndType 30 12), (0, u "CHAR"), (0, .fieldref 8 32), (0, .nameAndType 33 12), (0, u "VARCHAR"), (0, .fieldref 8 35), (0, .nameAndType 36 12), (0, u "TINYTEXT"), (0, .fieldref 8 38), (0, .nameAndType 39 12), (0, u "TEXT"), (0, .fieldref 8 41), (0, .nameAndType 42 12), (0, u "MEDIUMTEXT"), (0, .fieldref 8 44), (0, .nameAndType 45 12), (0, u "LONGTEXT"), (0, .fieldref 8 47), (0, .nameAndType 48 12), (0, u "TINYBLOB"), (0, .fieldref 8 50), (0, .nameAndType 51 12), (0, u "BLOB"), (0, .fieldref 8 53), (0, .nameAndType 54 12), (0, u "MEDIUMBLOB"), (0, .fieldref 8 56), (0, .nameAndType 57 12), (0, u "LONGBLOB"), (0, .fieldref 8 59), (0, .nameAndType 60 12), (0, u "DATE"), (0, .fieldref 8 62), (0, .nameAndType 63 12), (0, u "DATETIME"), (0, .fieldref 8 65), (0, .nameAndType 66 12), (0, u "TIMESTAMP"), (0, .integer 2147483647), (0, .methodref 69 70), (0, .class_ 71), (0, .nameAndType 72 73), (0, u "com/example/gapkeeper/gapkeeper/sql/ColumnTypeIsBinaryPinLaw"), (0, u "pick"), (0, u "(I)Lcom/example/gapkeeper/gapkeeper/sql/ColumnType;"), (0, .methodref 8 75), (0, .nameAndType 76 77), (0, u "isBinary"), (0, u "()Z"), (0, .methodref 8 79), (0, .nameAndType 80 81), (0, u "family"), (0, u "()Lcom/example/gapkeeper/gapkeeper/sql/ColumnType$Family;"), (0, .fieldref 83 84), (0, .class_ 85), (0, .nameAndType 86 87), (0, u "com/example/gapkeeper/gapkeeper/sql/ColumnType$Family"), (0, u "LOB"), (0, u "Lcom/example/gapkeeper/gapkeeper/sql/ColumnType$Family;"), (3, u "law"), (0, u "(I)Z")] 4

def k1m0 : Method := { name := "<init>", desc := "()V", sig := { parameters := [], returnType := none }, accessFlags := 2, code := none }
def k1c1 : Code := { maxStack := 2, maxLocals := 1, code := method_2_code, exceptionTable := #[], attributes := #[] }
def k1m1 : Method := { name := "pick", desc := "(I)Lcom/example/gapkeeper/gapkeeper/sql/ColumnType;", sig := { parameters := [.int], returnType := some (.object "com/example/gapkeeper/gapkeeper/sql/ColumnType") }, accessFlags := 10, code := some k1c1 }
def k1c2 : Code := { maxStack := 2, maxLocals := 5, code := code, exceptionTable := #[], attributes := #[] }
def k1m2 : Method := { name := "law", desc := "(I)Z", sig := { parameters := [.int], returnType := some .boolean }, accessFlags := 9, code := some k1c2 }
/-- com/example/gapkeeper/gapkeeper/sql/ColumnTypeIsBinaryPinLaw -/
def k1 : Class := { plain "com/example/gapkeeper/gapkeeper/sql/ColumnTypeIsBinaryPinLaw" (some 0) with
  accessFlags := 49
  interfaces := #[]
  cf := some (fileOf pool1 69 #[] #[{ accessFlags := 2, nameIndex := 5, descriptorIndex := 6, attributes := #[] }, { accessFlags := 10, nameIndex := 72, descriptorIndex := 73, attributes := #[] }, { accessFlags := 9, nameIndex := 91, descriptorIndex := 92, attributes := #[] }] 49 2 #[] #[])
  fields := #[]
  methods := #[k1m0, k1m1, k1m2]
  instanceTypes := #[]
  staticTypes := #[]
  resolved := Array.replicate 97 none
  statics := none }

def pool2 : Array CpInfo := pool [(1, .class_ 2), (0, u "java/lang/constant/Constable"), (0, .class_ 4), (0, u "java/lang/Object")] 6

/-- java/lang/constant/Constable -/
def k2 : Class := { plain "java/lang/constant/Constable" (some 0) with
  accessFlags := 1537
  interfaces := #[]
  cf := some (fileOf pool2 1 #[] #[] 1537 3 #[] #[])
  fields := #[]
  methods := #[]
  instanceTypes := #[]
  staticTypes := #[]
  resolved := Array.replicate 11 none
  statics := none }

def pool3 : Array CpInfo := pool [(1, .class_ 2), (0, u "java/lang/Comparable"), (0, .class_ 4), (0, u "java/lang/Object")] 7

/-- java/lang/Comparable -/
def k3 : Class := { plain "java/lang/Comparable" (some 0) with
  accessFlags := 1537
  interfaces := #[]
  cf := some (fileOf pool3 1 #[] #[] 1537 3 #[] #[])
  fields := #[]
  methods := #[]
  instanceTypes := #[]
  staticTypes := #[]
  resolved := Array.replicate 12 none
  statics := none }

def pool4 : Array CpInfo := pool [(1, .class_ 2), (0, u "java/io/Serializable"), (0, .class_ 4), (0, u "java/lang/Object")] 2

/-- java/io/Serializable -/
def k4 : Class := { plain "java/io/Serializable" (some 0) with
  accessFlags := 1537
  interfaces := #[]
  cf := some (fileOf pool4 1 #[] #[] 1537 3 #[] #[])
  fields := #[]
  methods := #[]
  instanceTypes := #[]
  staticTypes := #[]
  resolved := Array.replicate 7 none
  statics := none }

def pool5 : Array CpInfo := pool [(2, .class_ 4), (1, u "java/lang/Enum"), (0, u "name"), (0, u "Ljava/lang/String;"), (2, u "ordinal"), (0, u "I"), (1, .class_ 14), (1, u "java/lang/Object"), (4, u "hash"), (86, .class_ 108), (1, u "java/lang/Enum$EnumDesc"), (2, .class_ 112), (0, u "java/lang/constant/Constable"), (0, .class_ 114), (0, u "java/lang/Comparable"), (0, .class_ 116), (0, u "java/io/Serializable")] 87

/-- java/lang/Enum -/
def k5 : Class := { plain "java/lang/Enum" (some 0) with
  accessFlags := 1057
  interfaces := #[2, 3, 4]
  cf := some (fileOf pool5 2 #[.nestMembers #[106]] #[] 1057 12 #[111, 113, 115] #[{ accessFlags := 18, nameIndex := 5, descriptorIndex := 6, attributes := #[] }, { accessFlags := 18, nameIndex := 9, descriptorIndex := 10, attributes := #[] }, { accessFlags := 2, nameIndex := 19, descriptorIndex := 10, attributes := #[] }])
  fields := #[{ name := "name", type := (.object "java/lang/String"), accessFlags := 18, slot := 0, constantValue := 0 }, { name := "ordinal", type := .int, accessFlags := 18, slot := 1, constantValue := 0 }, { name := "hash", type := .int, accessFlags := 2, slot := 2, constantValue := 0 }]
  methods := #[]
  instanceTypes := #[(.object "java/lang/String"), .int, .int]
  staticTypes := #[]
  resolved := Array.replicate 204 none
  statics := none }

def pool6 : Array CpInfo := pool [(1, .class_ 2), (0, u "com/example/gapkeeper/gapkeeper/sql/ColumnType"), (2, u "TINYINT"), (0, u "Lcom/example/gapkeeper/gapkeeper/sql/ColumnType;"), (2, u "SMALLINT"), (2, u "MEDIUMINT"), (2, u "INT"), (2, u "BIGINT"), (2, u "DECIMAL"), (2, u "CHAR"), (2, u "VARCHAR"), (2, u "TINYTEXT"), (2, u "TEXT"), (2, u "MEDIUMTEXT"), (2, u "LONGTEXT"), (0, .fieldref 1 41), (0, .nameAndType 42 6), (0, u "TINYBLOB"), (0, .fieldref 1 44), (0, .nameAndType 45 6), (0, u "BLOB"), (0, .fieldref 1 47), (0, .nameAndType 48 6), (0, u "MEDIUMBLOB"), (0, .fieldref 1 50), (0, .nameAndType 51 6), (0, u "LONGBLOB"), (2, u "DATE"), (2, u "DATETIME"), (2, u "TIMESTAMP"), (2, u "$VALUES"), (0, u "[Lcom/example/gapkeeper/gapkeeper/sql/ColumnType;"), (6, .class_ 73), (1, u "java/lang/Enum"), (6, .fieldref 1 81), (0, .nameAndType 82 83), (0, u "family"), (0, u "Lcom/example/gapkeeper/gapkeeper/sql/ColumnType$Family;"), (5, u "Ljava/math/BigDecimal;"), (19, u "signedMin"), (8, u "signedMax"), (5, u "unsignedMax"), (6, u "longSignedMin"), (0, u "J"), (2, u "longSignedMax"), (12, u "longUnsignedMax"), (14, u "SYNONYMS"), (0, u "Ljava/util/Map;"), (19, .class_ 186), (1, u "com/example/gapkeeper/gapkeeper/sql/ColumnType$Family"), (48, u "MAX_DECIMAL_PRECISION"), (0, u "I"), (2, u "MAX_DECIMAL_SCALE"), (10, u "()Lcom/example/gapkeeper/gapkeeper/sql/ColumnType$Family;"), (1, u "()Z"), (1, u "isBinary")] 13

def k6c0 : Code := { maxStack := 1, maxLocals := 1, code := prog_128_method_5_code, exceptionTable := #[], attributes := #[] }
def k6m0 : Method := { name := "family", desc := "()Lcom/example/gapkeeper/gapkeeper/sql/ColumnType$Family;", sig := { parameters := [], returnType := some (.object "com/example/gapkeeper/gapkeeper/sql/ColumnType$Family") }, accessFlags := 1, code := some k6c0 }
def k6c1 : Code := { maxStack := 2, maxLocals := 1, code := prog_128_method_8_code, exceptionTable := #[], attributes := #[] }
def k6m1 : Method := { name := "isBinary", desc := "()Z", sig := { parameters := [], returnType := some .boolean }, accessFlags := 1, code := some k6c1 }
/-- com/example/gapkeeper/gapkeeper/sql/ColumnType -/
def k6 : Class := { plain "com/example/gapkeeper/gapkeeper/sql/ColumnType" (some 5) with
  accessFlags := 16433
  interfaces := #[]
  cf := some (fileOf pool6 1 #[.nestMembers #[184]] #[{ accessFlags := 1, nameIndex := 82, descriptorIndex := 250, attributes := #[] }, { accessFlags := 1, nameIndex := 254, descriptorIndex := 252, attributes := #[] }] 16433 71 #[] #[{ accessFlags := 16409, nameIndex := 5, descriptorIndex := 6, attributes := #[] }, { accessFlags := 16409, nameIndex := 9, descriptorIndex := 6, attributes := #[] }, { accessFlags := 16409, nameIndex := 12, descriptorIndex := 6, attributes := #[] }, { accessFlags := 16409, nameIndex := 15, descriptorIndex := 6, attributes := #[] }, { accessFlags := 16409, nameIndex := 18, descriptorIndex := 6, attributes := #[] }, { accessFlags := 16409, nameIndex := 21, descriptorIndex := 6, attributes := #[] }, { accessFlags := 16409, nameIndex := 24, descriptorIndex := 6, attributes := #[] }, { accessFlags := 16409, nameIndex := 27, descriptorIndex := 6, attributes := #[] }, { accessFlags := 16409, nameIndex := 30, descriptorIndex := 6, attributes := #[] }, { accessFlags := 16409, nameIndex := 33, descriptorIndex := 6, attributes := #[] }, { accessFlags := 16409, nameIndex := 36, descriptorIndex := 6, attributes := #[] }, { accessFlags := 16409, nameIndex := 39, descriptorIndex := 6, attributes := #[] }, { accessFlags := 16409, nameIndex := 42, descriptorIndex := 6, attributes := #[] }, { accessFlags := 16409, nameIndex := 45, descriptorIndex := 6, attributes := #[] }, { accessFlags := 16409, nameIndex := 48, descriptorIndex := 6, attributes := #[] }, { accessFlags := 16409, nameIndex := 51, descriptorIndex := 6, attributes := #[] }, { accessFlags := 16409, nameIndex := 54, descriptorIndex := 6, attributes := #[] }, { accessFlags := 16409, nameIndex := 57, descriptorIndex := 6, attributes := #[] }, { accessFlags := 16409, nameIndex := 60, descriptorIndex := 6, attributes := #[] }, { accessFlags := 25, nameIndex := 235, descriptorIndex := 236, attributes := #[] }, { accessFlags := 25, nameIndex := 239, descriptorIndex := 236, attributes := #[] }, { accessFlags := 26, nameIndex := 163, descriptorIndex := 164, attributes := #[] }, { accessFlags := 18, nameIndex := 82, descriptorIndex := 83, attributes := #[] }, { accessFlags := 18, nameIndex := 109, descriptorIndex := 89, attributes := #[] }, { accessFlags := 18, nameIndex := 118, descriptorIndex := 89, attributes := #[] }, { accessFlags := 18, nameIndex := 124, descriptorIndex := 89, attributes := #[] }, { accessFlags := 18, nameIndex := 131, descriptorIndex := 132, attributes := #[] }, { accessFlags := 18, nameIndex := 135, descriptorIndex := 132, attributes := #[] }, { accessFlags := 18, nameIndex := 148, descriptorIndex := 132, attributes := #[] }, { accessFlags := 4122, nameIndex := 63, descriptorIndex := 64, attributes := #[] }])
  fields := #[{ name := "TINYINT", type := (.object "com/example/gapkeeper/gapkeeper/sql/ColumnType"), accessFlags := 16409, slot := 0, constantValue := 0 }, { name := "SMALLINT", type := (.object "com/example/gapkeeper/gapkeeper/sql/ColumnType"), accessFlags := 16409, slot := 1, constantValue := 0 }, { name := "MEDIUMINT", type := (.object "com/example/gapkeeper/gapkeeper/sql/ColumnType"), accessFlags := 16409, slot := 2, constantValue := 0 }, { name := "INT", type := (.object "com/example/gapkeeper/gapkeeper/sql/ColumnType"), accessFlags := 16409, slot := 3, constantValue := 0 }, { name := "BIGINT", type := (.object "com/example/gapkeeper/gapkeeper/sql/ColumnType"), accessFlags := 16409, slot := 4, constantValue := 0 }, { name := "DECIMAL", type := (.object "com/example/gapkeeper/gapkeeper/sql/ColumnType"), accessFlags := 16409, slot := 5, constantValue := 0 }, { name := "CHAR", type := (.object "com/example/gapkeeper/gapkeeper/sql/ColumnType"), accessFlags := 16409, slot := 6, constantValue := 0 }, { name := "VARCHAR", type := (.object "com/example/gapkeeper/gapkeeper/sql/ColumnType"), accessFlags := 16409, slot := 7, constantValue := 0 }, { name := "TINYTEXT", type := (.object "com/example/gapkeeper/gapkeeper/sql/ColumnType"), accessFlags := 16409, slot := 8, constantValue := 0 }, { name := "TEXT", type := (.object "com/example/gapkeeper/gapkeeper/sql/ColumnType"), accessFlags := 16409, slot := 9, constantValue := 0 }, { name := "MEDIUMTEXT", type := (.object "com/example/gapkeeper/gapkeeper/sql/ColumnType"), accessFlags := 16409, slot := 10, constantValue := 0 }, { name := "LONGTEXT", type := (.object "com/example/gapkeeper/gapkeeper/sql/ColumnType"), accessFlags := 16409, slot := 11, constantValue := 0 }, { name := "TINYBLOB", type := (.object "com/example/gapkeeper/gapkeeper/sql/ColumnType"), accessFlags := 16409, slot := 12, constantValue := 0 }, { name := "BLOB", type := (.object "com/example/gapkeeper/gapkeeper/sql/ColumnType"), accessFlags := 16409, slot := 13, constantValue := 0 }, { name := "MEDIUMBLOB", type := (.object "com/example/gapkeeper/gapkeeper/sql/ColumnType"), accessFlags := 16409, slot := 14, constantValue := 0 }, { name := "LONGBLOB", type := (.object "com/example/gapkeeper/gapkeeper/sql/ColumnType"), accessFlags := 16409, slot := 15, constantValue := 0 }, { name := "DATE", type := (.object "com/example/gapkeeper/gapkeeper/sql/ColumnType"), accessFlags := 16409, slot := 16, constantValue := 0 }, { name := "DATETIME", type := (.object "com/example/gapkeeper/gapkeeper/sql/ColumnType"), accessFlags := 16409, slot := 17, constantValue := 0 }, { name := "TIMESTAMP", type := (.object "com/example/gapkeeper/gapkeeper/sql/ColumnType"), accessFlags := 16409, slot := 18, constantValue := 0 }, { name := "MAX_DECIMAL_PRECISION", type := .int, accessFlags := 25, slot := 19, constantValue := 0 }, { name := "MAX_DECIMAL_SCALE", type := .int, accessFlags := 25, slot := 20, constantValue := 0 }, { name := "SYNONYMS", type := (.object "java/util/Map"), accessFlags := 26, slot := 21, constantValue := 0 }, { name := "family", type := (.object "com/example/gapkeeper/gapkeeper/sql/ColumnType$Family"), accessFlags := 18, slot := 3, constantValue := 0 }, { name := "signedMin", type := (.object "java/math/BigDecimal"), accessFlags := 18, slot := 4, constantValue := 0 }, { name := "signedMax", type := (.object "java/math/BigDecimal"), accessFlags := 18, slot := 5, constantValue := 0 }, { name := "unsignedMax", type := (.object "java/math/BigDecimal"), accessFlags := 18, slot := 6, constantValue := 0 }, { name := "longSignedMin", type := .long, accessFlags := 18, slot := 7, constantValue := 0 }, { name := "longSignedMax", type := .long, accessFlags := 18, slot := 8, constantValue := 0 }, { name := "longUnsignedMax", type := .long, accessFlags := 18, slot := 9, constantValue := 0 }, { name := "$VALUES", type := (.array (.object "com/example/gapkeeper/gapkeeper/sql/ColumnType")), accessFlags := 4122, slot := 22, constantValue := 0 }]
  methods := #[k6m0, k6m1]
  instanceTypes := #[(.object "java/lang/String"), .int, .int, (.object "com/example/gapkeeper/gapkeeper/sql/ColumnType$Family"), (.object "java/math/BigDecimal"), (.object "java/math/BigDecimal"), (.object "java/math/BigDecimal"), .long, .long, .long]
  staticTypes := #[(.object "com/example/gapkeeper/gapkeeper/sql/ColumnType"), (.object "com/example/gapkeeper/gapkeeper/sql/ColumnType"), (.object "com/example/gapkeeper/gapkeeper/sql/ColumnType"), (.object "com/example/gapkeeper/gapkeeper/sql/ColumnType"), (.object "com/example/gapkeeper/gapkeeper/sql/ColumnType"), (.object "com/example/gapkeeper/gapkeeper/sql/ColumnType"), (.object "com/example/gapkeeper/gapkeeper/sql/ColumnType"), (.object "com/example/gapkeeper/gapkeeper/sql/ColumnType"), (.object "com/example/gapkeeper/gapkeeper/sql/ColumnType"), (.object "com/example/gapkeeper/gapkeeper/sql/ColumnType"), (.object "com/example/gapkeeper/gapkeeper/sql/ColumnType"), (.object "com/example/gapkeeper/gapkeeper/sql/ColumnType"), (.object "com/example/gapkeeper/gapkeeper/sql/ColumnType"), (.object "com/example/gapkeeper/gapkeeper/sql/ColumnType"), (.object "com/example/gapkeeper/gapkeeper/sql/ColumnType"), (.object "com/example/gapkeeper/gapkeeper/sql/ColumnType"), (.object "com/example/gapkeeper/gapkeeper/sql/ColumnType"), (.object "com/example/gapkeeper/gapkeeper/sql/ColumnType"), (.object "com/example/gapkeeper/gapkeeper/sql/ColumnType"), .int, .int, (.object "java/util/Map"), (.array (.object "com/example/gapkeeper/gapkeeper/sql/ColumnType"))]
  resolved := Array.replicate 268 none
  statics := some 0 }

def pool7 : Array CpInfo := pool [(1, .class_ 2), (0, u "com/example/gapkeeper/gapkeeper/sql/ColumnType$Family"), (2, u "INTEGER"), (0, u "Lcom/example/gapkeeper/gapkeeper/sql/ColumnType$Family;"), (2, u "DECIMAL"), (2, u "CHAR"), (2, u "VARCHAR"), (2, u "LOB"), (2, u "DATE"), (2, u "DATETIME"), (2, u "TIMESTAMP"), (2, u "$VALUES"), (0, u "[Lcom/example/gapkeeper/gapkeeper/sql/ColumnType$Family;"), (6, .class_ 40), (1, u "java/lang/Enum"), (31, .class_ 73), (0, u "com/example/gapkeeper/gapkeeper/sql/ColumnType")] 2

/-- com/example/gapkeeper/gapkeeper/sql/ColumnType$Family -/
def k7 : Class := { plain "com/example/gapkeeper/gapkeeper/sql/ColumnType$Family" (some 5) with
  accessFlags := 16433
  interfaces := #[]
  cf := some (fileOf pool7 1 #[.nestHost 72] #[] 16433 38 #[] #[{ accessFlags := 16409, nameIndex := 5, descriptorIndex := 6, attributes := #[] }, { accessFlags := 16409, nameIndex := 9, descriptorIndex := 6, attributes := #[] }, { accessFlags := 16409, nameIndex := 12, descriptorIndex := 6, attributes := #[] }, { accessFlags := 16409, nameIndex := 15, descriptorIndex := 6, attributes := #[] }, { accessFlags := 16409, nameIndex := 18, descriptorIndex := 6, attributes := #[] }, { accessFlags := 16409, nameIndex := 21, descriptorIndex := 6, attributes := #[] }, { accessFlags := 16409, nameIndex := 24, descriptorIndex := 6, attributes := #[] }, { accessFlags := 16409, nameIndex := 27, descriptorIndex := 6, attributes := #[] }, { accessFlags := 4122, nameIndex := 30, descriptorIndex := 31, attributes := #[] }])
  fields := #[{ name := "INTEGER", type := (.object "com/example/gapkeeper/gapkeeper/sql/ColumnType$Family"), accessFlags := 16409, slot := 0, constantValue := 0 }, { name := "DECIMAL", type := (.object "com/example/gapkeeper/gapkeeper/sql/ColumnType$Family"), accessFlags := 16409, slot := 1, constantValue := 0 }, { name := "CHAR", type := (.object "com/example/gapkeeper/gapkeeper/sql/ColumnType$Family"), accessFlags := 16409, slot := 2, constantValue := 0 }, { name := "VARCHAR", type := (.object "com/example/gapkeeper/gapkeeper/sql/ColumnType$Family"), accessFlags := 16409, slot := 3, constantValue := 0 }, { name := "LOB", type := (.object "com/example/gapkeeper/gapkeeper/sql/ColumnType$Family"), accessFlags := 16409, slot := 4, constantValue := 0 }, { name := "DATE", type := (.object "com/example/gapkeeper/gapkeeper/sql/ColumnType$Family"), accessFlags := 16409, slot := 5, constantValue := 0 }, { name := "DATETIME", type := (.object "com/example/gapkeeper/gapkeeper/sql/ColumnType$Family"), accessFlags := 16409, slot := 6, constantValue := 0 }, { name := "TIMESTAMP", type := (.object "com/example/gapkeeper/gapkeeper/sql/ColumnType$Family"), accessFlags := 16409, slot := 7, constantValue := 0 }, { name := "$VALUES", type := (.array (.object "com/example/gapkeeper/gapkeeper/sql/ColumnType$Family")), accessFlags := 4122, slot := 8, constantValue := 0 }]
  methods := #[]
  instanceTypes := #[(.object "java/lang/String"), .int, .int]
  staticTypes := #[(.object "com/example/gapkeeper/gapkeeper/sql/ColumnType$Family"), (.object "com/example/gapkeeper/gapkeeper/sql/ColumnType$Family"), (.object "com/example/gapkeeper/gapkeeper/sql/ColumnType$Family"), (.object "com/example/gapkeeper/gapkeeper/sql/ColumnType$Family"), (.object "com/example/gapkeeper/gapkeeper/sql/ColumnType$Family"), (.object "com/example/gapkeeper/gapkeeper/sql/ColumnType$Family"), (.object "com/example/gapkeeper/gapkeeper/sql/ColumnType$Family"), (.object "com/example/gapkeeper/gapkeeper/sql/ColumnType$Family"), (.array (.object "com/example/gapkeeper/gapkeeper/sql/ColumnType$Family"))]
  resolved := Array.replicate 76 none
  statics := some 1 }

def pool8 : Array CpInfo := pool [(1, u "java/lang/Cloneable"), (0, .class_ 1), (0, u "java/lang/Object"), (0, .class_ 3)] 3

/-- java/lang/Cloneable -/
def k8 : Class := { plain "java/lang/Cloneable" (some 0) with
  accessFlags := 1537
  interfaces := #[]
  cf := some (fileOf pool8 2 #[] #[] 1537 4 #[] #[])
  fields := #[]
  methods := #[]
  instanceTypes := #[]
  staticTypes := #[]
  resolved := Array.replicate 8 none
  statics := none }

/-- the primitive byte -/
def k9 : Class := { plain "byte" none with kind := .primitive 'B', accessFlags := 0x411 }
/-- [B -/
def k10 : Class := { plain "[B" (some 0) with kind := .array 9 .byte, interfaces := #[8, 4], accessFlags := 1041 }

/-- the primitive int -/
def k11 : Class := { plain "int" none with kind := .primitive 'I', accessFlags := 0x411 }
/-- [I -/
def k12 : Class := { plain "[I" (some 0) with kind := .array 11 .int, interfaces := #[8, 4], accessFlags := 1041 }

def heap : Heap := #[{ cls := 6, slots := #[.ref 10, .ref 23, .ref 19, .ref 15, .ref 27, .ref 16, .ref 25, .ref 18, .ref 22, .ref 28, .ref 21, .ref 20, .ref 11, .ref 12, .ref 13, .ref 14, .ref 26, .ref 17, .ref 24, .int 0, .int 0, .null, .null], vm := .statics 6 },
  { cls := 7, slots := #[.ref 3, .ref 4, .ref 8, .ref 6, .ref 2, .ref 9, .ref 5, .ref 7, .null], vm := .statics 7 },
  { cls := 7, slots := #[.null, .int 0, .int 0], vm := .none },
  { cls := 7, slots := #[.null, .int 1, .int 0], vm := .none },
  { cls := 7, slots := #[.null, .int 2, .int 0], vm := .none },
  { cls := 7, slots := #[.null, .int 3, .int 0], vm := .none },
  { cls := 7, slots := #[.null, .int 4, .int 0], vm := .none },
  { cls := 7, slots := #[.null, .int 5, .int 0], vm := .none },
  { cls := 7, slots := #[.null, .int 6, .int 0], vm := .none },
  { cls := 7, slots := #[.null, .int 7, .int 0], vm := .none },
  { cls := 6, slots := #[.null, .int 0, .int 0, .ref 3, .null, .null, .null, .long 0, .long 0, .long 0], vm := .none },
  { cls := 6, slots := #[.null, .int 12, .int 0, .ref 2, .null, .null, .null, .long 0, .long 0, .long 0], vm := .none },
  { cls := 6, slots := #[.null, .int 13, .int 0, .ref 2, .null, .null, .null, .long 0, .long 0, .long 0], vm := .none },
  { cls := 6, slots := #[.null, .int 14, .int 0, .ref 2, .null, .null, .null, .long 0, .long 0, .long 0], vm := .none },
  { cls := 6, slots := #[.null, .int 15, .int 0, .ref 2, .null, .null, .null, .long 0, .long 0, .long 0], vm := .none },
  { cls := 6, slots := #[.null, .int 3, .int 0, .ref 3, .null, .null, .null, .long 0, .long 0, .long 0], vm := .none },
  { cls := 6, slots := #[.null, .int 5, .int 0, .ref 4, .null, .null, .null, .long 0, .long 0, .long 0], vm := .none },
  { cls := 6, slots := #[.null, .int 17, .int 0, .ref 5, .null, .null, .null, .long 0, .long 0, .long 0], vm := .none },
  { cls := 6, slots := #[.null, .int 7, .int 0, .ref 6, .null, .null, .null, .long 0, .long 0, .long 0], vm := .none },
  { cls := 6, slots := #[.null, .int 2, .int 0, .ref 3, .null, .null, .null, .long 0, .long 0, .long 0], vm := .none },
  { cls := 6, slots := #[.null, .int 11, .int 0, .ref 2, .null, .null, .null, .long 0, .long 0, .long 0], vm := .none },
  { cls := 6, slots := #[.null, .int 10, .int 0, .ref 2, .null, .null, .null, .long 0, .long 0, .long 0], vm := .none },
  { cls := 6, slots := #[.null, .int 8, .int 0, .ref 2, .null, .null, .null, .long 0, .long 0, .long 0], vm := .none },
  { cls := 6, slots := #[.null, .int 1, .int 0, .ref 3, .null, .null, .null, .long 0, .long 0, .long 0], vm := .none },
  { cls := 6, slots := #[.null, .int 18, .int 0, .ref 7, .null, .null, .null, .long 0, .long 0, .long 0], vm := .none },
  { cls := 6, slots := #[.null, .int 6, .int 0, .ref 8, .null, .null, .null, .long 0, .long 0, .long 0], vm := .none },
  { cls := 6, slots := #[.null, .int 16, .int 0, .ref 9, .null, .null, .null, .long 0, .long 0, .long 0], vm := .none },
  { cls := 6, slots := #[.null, .int 4, .int 0, .ref 3, .null, .null, .null, .long 0, .long 0, .long 0], vm := .none },
  { cls := 6, slots := #[.null, .int 9, .int 0, .ref 2, .null, .null, .null, .long 0, .long 0, .long 0], vm := .none }]
def classes : Array Class := #[k0, k1, k2, k3, k4, k5, k6, k7, k8, k9, k10, k11, k12]
def interned : List (Array UInt16 × Addr) := []
def slotsUsed : Nat := 246
def theMethod : MethodId := ⟨1, 2⟩
def args0 : Array Value := #[.int 5]
def aboutOver (below : List Frame) : State where
  vm := { classes := classes, interned := interned.toArray }
  heap := heap
  slotsUsed := slotsUsed
  threads := #[{ frames := .invoking theMethod args0 :: below }]
def below0 : List Frame := [.native { method := ⟨0, 0⟩, args := #[] }]
def about1 : State := aboutOver below0
def p0 : Program := .bare "" "" ""
def e0 : Env := launch0.env 0 0 0
theorem w_frames : about1.frames = Frame.invoking theMethod args0 :: below0 := rfl
set_option maxRecDepth 65536 in
theorem w_args : argsFit about1.vm theMethod args0 = true := by decide +kernel
set_option maxRecDepth 65536 in
theorem w_heap : heapFits about1 = true := by decide +kernel
set_option maxRecDepth 65536 in
theorem w_runnable : about1.curStatus? = some .runnable := by decide +kernel
set_option maxRecDepth 65536 in
theorem w_alone : about1.alone = true := by decide +kernel
set_option maxRecDepth 65536 in
theorem w_named : about1.methodNamed? x = some theMethod := by decide +kernel
set_option maxRecDepth 65536 in
theorem w_hears : about1.hears theMethod below0 = true := by decide +kernel
set_option maxRecDepth 65536 in
theorem w_ripe : about1.ripe theMethod args0 below0 = true := by decide +kernel
theorem w_running : about1.status = .running := rfl
set_option maxRecDepth 65536 in
theorem w_room : about1.hasRoom e0.platform room_1 = true :=
  launch0.hasRoom_least _ room_1 (by decide +kernel) (by decide +kernel) (by decide +kernel) (by decide +kernel) (by decide +kernel) (by decide +kernel)
theorem allAtoms_all (ts : List Jvm.Cond) (a : Array Jvm.Value) (st : Jvm.State) : (allAtoms ts).before a st = ts.all (fun c => c.before a st) := by
  induction ts with
  | nil => rfl
  | cons c t ih =>
    show (Jvm.Cond.and c (allAtoms t)).before a st = _
    rw [Jvm.Cond.before_and, ih, List.all_cons]
def words1 : List Jvm.Cond := Jvm.Cond.code x code maxLocals ret :: tables_1
/-- a 'code' word, met by the world's own term for the bytes: nothing is compared byte by byte -/
theorem code_word {y : MethodName} {bytes : ByteArray} {mx : Nat} {rt : Option FieldType} {a : Array Value} {s : State} {m : MethodId} {meth : Method} {c : Code} (h1 : s.methodNamed? y = some m) (h2 : s.vm.method? m = some meth) (h3 : meth.code = some c) (h4 : c.code = bytes)
    (h5 : (c.maxLocals == mx && c.exceptionTable.isEmpty && decide (c.maxStack ≤ mostOperands) && decide (meth.sig.returnType = rt) && !meth.locks && decide (parseMethodDescriptor y.desc = some meth.sig)) = true) : (Jvm.Cond.code y bytes mx rt).before a s = true := by
  simp only [Bool.and_eq_true, beq_iff_eq, Bool.not_eq_true', decide_eq_true_eq] at h5
  obtain ⟨⟨⟨⟨⟨g1, g2⟩, g3⟩, g4⟩, g5⟩, g6⟩ := h5
  simp [Cond.before, Cond.holds, Cond.value, h1, h2, h3, h4, g1, g2, g3, g4, g5, g6]
def isCode : Jvm.Cond → Bool
  | .code _ _ _ _ => true
  | _ => false
theorem all_split {L : List Jvm.Cond} {P : Jvm.Cond → Bool} (h1 : L.all (fun c => isCode c || P c) = true) (h2 : ∀ c ∈ L.filter isCode, P c = true) : L.all P = true := by
  refine List.all_eq_true.mpr fun c hc => ?_
  have h := List.all_eq_true.mp h1 c hc
  rcases Bool.eq_false_or_eq_true (isCode c) with hi | hi
  · exact h2 c (List.mem_filter.mpr ⟨hc, hi⟩)
  · simpa [hi] using h
set_option maxRecDepth 65536 in
theorem w_c0 : (Jvm.Cond.code x code maxLocals ret).before args0 about1 = true := code_word (m := ⟨1, 2⟩) (meth := k1m2) (c := k1c2) (by decide +kernel) rfl rfl rfl (by decide +kernel)
set_option maxRecDepth 65536 in
theorem w_c1 : (Jvm.Cond.code ({ cls := "com/example/gapkeeper/gapkeeper/sql/ColumnTypeIsBinaryPinLaw", name := "pick", desc := "(I)Lcom/example/gapkeeper/gapkeeper/sql/ColumnType;" } : Jvm.MethodName) method_2_code (1 : Nat) (Option.some (Jvm.ClassFile.FieldType.object "com/example/gapkeeper/gapkeeper/sql/ColumnType"))).before args0 about1 = true := code_word (m := ⟨1, 1⟩) (meth := k1m1) (c := k1c1) (by decide +kernel) rfl rfl rfl (by decide +kernel)
set_option maxRecDepth 65536 in
theorem w_c2 : (Jvm.Cond.code ({ cls := "com/example/gapkeeper/gapkeeper/sql/ColumnType", name := "isBinary", desc := "()Z" } : Jvm.MethodName) prog_128_method_8_code (1 : Nat) (Option.some Jvm.ClassFile.FieldType.boolean)).before args0 about1 = true := code_word (m := ⟨6, 1⟩) (meth := k6m1) (c := k6c1) (by decide +kernel) rfl rfl rfl (by decide +kernel)
set_option maxRecDepth 65536 in
theorem w_c3 : (Jvm.Cond.code ({ cls := "com/example/gapkeeper/gapkeeper/sql/ColumnType", name := "family", desc := "()Lcom/example/gapkeeper/gapkeeper/sql/ColumnType$Family;" } : Jvm.MethodName) prog_128_method_5_code (1 : Nat) (Option.some (Jvm.ClassFile.FieldType.object "com/example/gapkeeper/gapkeeper/sql/ColumnType$Family"))).before args0 about1 = true := code_word (m := ⟨6, 0⟩) (meth := k6m0) (c := k6c0) (by decide +kernel) rfl rfl rfl (by decide +kernel)
def codes1 : List Jvm.Cond := [Jvm.Cond.code x code maxLocals ret, Jvm.Cond.code ({ cls := "com/example/gapkeeper/gapkeeper/sql/ColumnTypeIsBinaryPinLaw", name := "pick", desc := "(I)Lcom/example/gapkeeper/gapkeeper/sql/ColumnType;" } : Jvm.MethodName) method_2_code (1 : Nat) (Option.some (Jvm.ClassFile.FieldType.object "com/example/gapkeeper/gapkeeper/sql/ColumnType")), Jvm.Cond.code ({ cls := "com/example/gapkeeper/gapkeeper/sql/ColumnType", name := "isBinary", desc := "()Z" } : Jvm.MethodName) prog_128_method_8_code (1 : Nat) (Option.some Jvm.ClassFile.FieldType.boolean), Jvm.Cond.code ({ cls := "com/example/gapkeeper/gapkeeper/sql/ColumnType", name := "family", desc := "()Lcom/example/gapkeeper/gapkeeper/sql/ColumnType$Family;" } : Jvm.MethodName) prog_128_method_5_code (1 : Nat) (Option.some (Jvm.ClassFile.FieldType.object "com/example/gapkeeper/gapkeeper/sql/ColumnType$Family"))]
set_option maxRecDepth 65536 in
theorem codes_eq : words1.filter isCode = codes1 := rfl
theorem w_codes : ∀ c ∈ words1.filter isCode, c.before args0 about1 = true := by
  rw [codes_eq]
  intro c hc
  simp only [codes1, List.mem_cons, List.not_mem_nil, or_false] at hc
  rcases hc with rfl | rfl | rfl | rfl
  · exact w_c0
  · exact w_c1
  · exact w_c2
  · exact w_c3
set_option maxRecDepth 65536 in
theorem w_t1 : (words1.take 24).all (fun c => isCode c || c.before args0 about1) = true := by decide +kernel
set_option maxRecDepth 65536 in
theorem w_t2 : ((words1.drop 24).take 24).all (fun c => isCode c || c.before args0 about1) = true := by decide +kernel
set_option maxRecDepth 65536 in
theorem w_t3 : ((words1.drop 24).drop 24).all (fun c => isCode c || c.before args0 about1) = true := by decide +kernel
theorem w_tables : (allAtoms (Jvm.Cond.code x code maxLocals ret :: tables_1)).before args0 about1 = true := by
  rw [allAtoms_all]
  show words1.all (fun c => c.before args0 about1) = true
  refine all_split ?_ w_codes
  rw [← List.take_append_drop 24 words1, List.all_append, w_t1, ← List.take_append_drop 24 (words1.drop 24), List.all_append, w_t2, w_t3]
  rfl
set_option maxRecDepth 65536 in
theorem w_case : (Jvm.Cond.and given_1 narrow_1).before args0 about1 = true := by decide +kernel
theorem w_applies : (headSpec (Jvm.Cond.code x code maxLocals ret :: tables_1) room_1).applies x e0.platform about1 = true :=
  (Spec.applies_iff w_frames).mpr ⟨w_running, w_runnable, w_alone, w_named, w_hears, w_ripe, w_room, w_tables⟩
theorem atStart : AtStart classFile x code maxLocals ret World_1 tables_1 room_1 Calls_1 rest_1 Pre_1 launch0 p0 e0 about1 theMethod args0 below0 :=
  ⟨lists_1, trivial, launch0.admits_env _ _ _, launch0.least_env, fairChoices_fair.cas, fairChoices_fair.clock, w_frames, w_args, w_heap, w_applies, trivial, trivial, w_case⟩
end start1
theorem witness_1 : WitnessClaimed_1 := ⟨start1.p0, start1.e0, start1.about1, start1.theMethod, start1.args0, start1.below0, start1.atStart⟩
end Jvm.Pilot.@@N@@
